import PyProof.Rows.All
import Wide.All
import OpenK.AllK
import Wide.FinOn
import Lean
import PySem.Challenge.RW_ij0056_01
set_option maxRecDepth 100000
set_option Elab.async false
set_option rowWalk.seconds 0
set_option compiler.extract_closed false
set_option maxHeartbeats 0
set_option linter.all false
-- part Base
section
open PySem PySem.W PyProof.Rows
namespace Mine
def bodyOf : Stmt → List Stmt
  | .FunctionDef (body := b) .. => b
  | .ClassDef (body := b) .. => b
  | .While _ b _ _ => b
  | .For _ _ b _ _ => b
  | _ => []
def scopeOf : Stmt → Scope
  | .FunctionDef (scope := s) .. => s
  | .ClassDef (scope := s) .. => s
  | _ => default
def argsOf : Stmt → Arguments
  | .FunctionDef (args := a) .. => a
  | _ => default
def testOf : Stmt → PySem.Expr
  | .While t _ _ _ => t
  | .If t _ _ _ => t
  | _ => .Constant .none 0 default
def at_ (l : List Stmt) (i : Nat) : Stmt := l.getD i (.Pass default)
def defAt (i : Nat) : Stmt := at_ PySem.Challenge.pw_ij0056_01.main.body i
def methAt (i j : Nat) : Stmt := at_ (bodyOf (defAt i)) j
abbrev PG : Program := PySem.Challenge.rw_ij0056_01.prog
end Mine
end
-- part HdData
section
open PySem PySem.W PyProof.Rows
namespace Mine
open PyData (keyHash)
noncomputable def hb0 (P : Params) : Obj :=
  { cls := .type "dict", data := .dict #[⟨keyHash P "__name__", .str "__name__" 1, .str "builtins" 160⟩, ⟨keyHash P "__doc__", .str "__doc__" 2, .builtin "builtins.__doc__:str#opaque"⟩, ⟨keyHash P "__package__", .str "__package__" 3, .builtin "builtins.__package__:str#opaque"⟩, ⟨keyHash P "__loader__", .str "__loader__" 4, .builtin "builtins.__loader__:shared#opaque"⟩, ⟨keyHash P "__spec__", .str "__spec__" 5, .builtin "builtins.__spec__#opaque"⟩, ⟨keyHash P "__build_class__", .str "__build_class__" 6, .builtin "__build_class__"⟩, ⟨keyHash P "__import__", .str "__import__" 7, .builtin "__import__"⟩, ⟨keyHash P "abs", .str "abs" 8, .builtin "abs"⟩, ⟨keyHash P "all", .str "all" 9, .builtin "all"⟩, ⟨keyHash P "any", .str "any" 10, .builtin "any"⟩, ⟨keyHash P "ascii", .str "ascii" 11, .builtin "ascii"⟩, ⟨keyHash P "bin", .str "bin" 12, .builtin "bin"⟩, ⟨keyHash P "breakpoint", .str "breakpoint" 13, .builtin "breakpoint"⟩, ⟨keyHash P "callable", .str "callable" 14, .builtin "callable"⟩, ⟨keyHash P "chr", .str "chr" 15, .builtin "chr"⟩, ⟨keyHash P "compile", .str "compile" 16, .builtin "compile"⟩, ⟨keyHash P "delattr", .str "delattr" 17, .builtin "delattr"⟩, ⟨keyHash P "dir", .str "dir" 18, .builtin "dir"⟩, ⟨keyHash P "divmod", .str "divmod" 19, .builtin "divmod"⟩, ⟨keyHash P "eval", .str "eval" 20, .builtin "eval"⟩, ⟨keyHash P "exec", .str "exec" 21, .builtin "exec"⟩, ⟨keyHash P "format", .str "format" 22, .builtin "format"⟩, ⟨keyHash P "getattr", .str "getattr" 23, .builtin "getattr"⟩, ⟨keyHash P "globals", .str "globals" 24, .builtin "globals"⟩, ⟨keyHash P "hasattr", .str "hasattr" 25, .builtin "hasattr"⟩, ⟨keyHash P "hash", .str "hash" 26, .builtin "hash"⟩, ⟨keyHash P "hex", .str "hex" 27, .builtin "hex"⟩, ⟨keyHash P "id", .str "id" 28, .builtin "id"⟩, ⟨keyHash P "input", .str "input" 29, .builtin "input"⟩, ⟨keyHash P "isinstance", .str "isinstance" 30, .builtin "isinstance"⟩, ⟨keyHash P "issubclass", .str "issubclass" 31, .builtin "issubclass"⟩, ⟨keyHash P "iter", .str "iter" 32, .builtin "iter"⟩, ⟨keyHash P "aiter", .str "aiter" 33, .builtin "aiter"⟩, ⟨keyHash P "len", .str "len" 34, .builtin "len"⟩, ⟨keyHash P "locals", .str "locals" 35, .builtin "locals"⟩, ⟨keyHash P "max", .str "max" 36, .builtin "max"⟩, ⟨keyHash P "min", .str "min" 37, .builtin "min"⟩, ⟨keyHash P "next", .str "next" 38, .builtin "next"⟩, ⟨keyHash P "anext", .str "anext" 39, .builtin "anext"⟩, ⟨keyHash P "oct", .str "oct" 40, .builtin "oct"⟩, ⟨keyHash P "ord", .str "ord" 41, .builtin "ord"⟩, ⟨keyHash P "pow", .str "pow" 42, .builtin "pow"⟩, ⟨keyHash P "print", .str "print" 43, .builtin "print"⟩, ⟨keyHash P "repr", .str "repr" 44, .builtin "repr"⟩, ⟨keyHash P "round", .str "round" 45, .builtin "round"⟩, ⟨keyHash P "setattr", .str "setattr" 46, .builtin "setattr"⟩, ⟨keyHash P "sorted", .str "sorted" 47, .builtin "sorted"⟩, ⟨keyHash P "sum", .str "sum" 48, .builtin "sum"⟩, ⟨keyHash P "vars", .str "vars" 49, .builtin "vars"⟩, ⟨keyHash P "None", .str "None" 50, .none⟩, ⟨keyHash P "Ellipsis", .str "Ellipsis" 51, .ellipsis⟩, ⟨keyHash P "NotImplemented", .str "NotImplemented" 52, .notImplemented⟩, ⟨keyHash P "False", .str "False" 53, .bool false⟩, ⟨keyHash P "True", .str "True" 54, .bool true⟩, ⟨keyHash P "bool", .str "bool" 55, .type "bool"⟩, ⟨keyHash P "memoryview", .str "memoryview" 56, .type "memoryview"⟩, ⟨keyHash P "bytearray", .str "bytearray" 57, .type "bytearray"⟩, ⟨keyHash P "bytes", .str "bytes" 58, .type "bytes"⟩, ⟨keyHash P "classmethod", .str "classmethod" 59, .type "classmethod"⟩, ⟨keyHash P "complex", .str "complex" 60, .type "complex"⟩, ⟨keyHash P "dict", .str "dict" 61, .type "dict"⟩, ⟨keyHash P "enumerate", .str "enumerate" 62, .type "enumerate"⟩, ⟨keyHash P "filter", .str "filter" 63, .type "filter"⟩, ⟨keyHash P "float", .str "float" 64, .type "float"⟩, ⟨keyHash P "frozenset", .str "frozenset" 65, .type "frozenset"⟩, ⟨keyHash P "property", .str "property" 66, .type "property"⟩, ⟨keyHash P "int", .str "int" 67, .type "int"⟩, ⟨keyHash P "list", .str "list" 68, .type "list"⟩, ⟨keyHash P "map", .str "map" 69, .type "map"⟩, ⟨keyHash P "object", .str "object" 70, .type "object"⟩, ⟨keyHash P "range", .str "range" 71, .type "range"⟩, ⟨keyHash P "reversed", .str "reversed" 72, .type "reversed"⟩, ⟨keyHash P "set", .str "set" 73, .type "set"⟩, ⟨keyHash P "slice", .str "slice" 74, .type "slice"⟩, ⟨keyHash P "staticmethod", .str "staticmethod" 75, .type "staticmethod"⟩, ⟨keyHash P "str", .str "str" 76, .type "str"⟩, ⟨keyHash P "super", .str "super" 77, .type "super"⟩, ⟨keyHash P "tuple", .str "tuple" 78, .type "tuple"⟩, ⟨keyHash P "type", .str "type" 79, .type "type"⟩, ⟨keyHash P "zip", .str "zip" 80, .type "zip"⟩, ⟨keyHash P "__debug__", .str "__debug__" 81, .bool true⟩, ⟨keyHash P "BaseException", .str "BaseException" 82, .type "BaseException"⟩, ⟨keyHash P "BaseExceptionGroup", .str "BaseExceptionGroup" 83, .type "BaseExceptionGroup"⟩, ⟨keyHash P "Exception", .str "Exception" 84, .type "Exception"⟩, ⟨keyHash P "GeneratorExit", .str "GeneratorExit" 85, .type "GeneratorExit"⟩, ⟨keyHash P "KeyboardInterrupt", .str "KeyboardInterrupt" 86, .type "KeyboardInterrupt"⟩, ⟨keyHash P "SystemExit", .str "SystemExit" 87, .type "SystemExit"⟩, ⟨keyHash P "ArithmeticError", .str "ArithmeticError" 88, .type "ArithmeticError"⟩, ⟨keyHash P "AssertionError", .str "AssertionError" 89, .type "AssertionError"⟩, ⟨keyHash P "AttributeError", .str "AttributeError" 90, .type "AttributeError"⟩, ⟨keyHash P "BufferError", .str "BufferError" 91, .type "BufferError"⟩, ⟨keyHash P "EOFError", .str "EOFError" 92, .type "EOFError"⟩, ⟨keyHash P "ImportError", .str "ImportError" 93, .type "ImportError"⟩, ⟨keyHash P "LookupError", .str "LookupError" 94, .type "LookupError"⟩, ⟨keyHash P "MemoryError", .str "MemoryError" 95, .type "MemoryError"⟩, ⟨keyHash P "NameError", .str "NameError" 96, .type "NameError"⟩, ⟨keyHash P "OSError", .str "OSError" 97, .type "OSError"⟩, ⟨keyHash P "ReferenceError", .str "ReferenceError" 98, .type "ReferenceError"⟩, ⟨keyHash P "RuntimeError", .str "RuntimeError" 99, .type "RuntimeError"⟩, ⟨keyHash P "StopAsyncIteration", .str "StopAsyncIteration" 100, .type "StopAsyncIteration"⟩, ⟨keyHash P "StopIteration", .str "StopIteration" 101, .type "StopIteration"⟩, ⟨keyHash P "SyntaxError", .str "SyntaxError" 102, .type "SyntaxError"⟩, ⟨keyHash P "SystemError", .str "SystemError" 103, .type "SystemError"⟩, ⟨keyHash P "TypeError", .str "TypeError" 104, .type "TypeError"⟩, ⟨keyHash P "ValueError", .str "ValueError" 105, .type "ValueError"⟩, ⟨keyHash P "Warning", .str "Warning" 106, .type "Warning"⟩, ⟨keyHash P "FloatingPointError", .str "FloatingPointError" 107, .type "FloatingPointError"⟩, ⟨keyHash P "OverflowError", .str "OverflowError" 108, .type "OverflowError"⟩, ⟨keyHash P "ZeroDivisionError", .str "ZeroDivisionError" 109, .type "ZeroDivisionError"⟩, ⟨keyHash P "BytesWarning", .str "BytesWarning" 110, .type "BytesWarning"⟩, ⟨keyHash P "DeprecationWarning", .str "DeprecationWarning" 111, .type "DeprecationWarning"⟩, ⟨keyHash P "EncodingWarning", .str "EncodingWarning" 112, .type "EncodingWarning"⟩, ⟨keyHash P "FutureWarning", .str "FutureWarning" 113, .type "FutureWarning"⟩, ⟨keyHash P "ImportWarning", .str "ImportWarning" 114, .type "ImportWarning"⟩, ⟨keyHash P "PendingDeprecationWarning", .str "PendingDeprecationWarning" 115, .type "PendingDeprecationWarning"⟩, ⟨keyHash P "ResourceWarning", .str "ResourceWarning" 116, .type "ResourceWarning"⟩, ⟨keyHash P "RuntimeWarning", .str "RuntimeWarning" 117, .type "RuntimeWarning"⟩, ⟨keyHash P "SyntaxWarning", .str "SyntaxWarning" 118, .type "SyntaxWarning"⟩, ⟨keyHash P "UnicodeWarning", .str "UnicodeWarning" 119, .type "UnicodeWarning"⟩, ⟨keyHash P "UserWarning", .str "UserWarning" 120, .type "UserWarning"⟩, ⟨keyHash P "BlockingIOError", .str "BlockingIOError" 121, .type "BlockingIOError"⟩, ⟨keyHash P "ChildProcessError", .str "ChildProcessError" 122, .type "ChildProcessError"⟩, ⟨keyHash P "ConnectionError", .str "ConnectionError" 123, .type "ConnectionError"⟩, ⟨keyHash P "FileExistsError", .str "FileExistsError" 124, .type "FileExistsError"⟩, ⟨keyHash P "FileNotFoundError", .str "FileNotFoundError" 125, .type "FileNotFoundError"⟩, ⟨keyHash P "InterruptedError", .str "InterruptedError" 126, .type "InterruptedError"⟩, ⟨keyHash P "IsADirectoryError", .str "IsADirectoryError" 127, .type "IsADirectoryError"⟩, ⟨keyHash P "NotADirectoryError", .str "NotADirectoryError" 128, .type "NotADirectoryError"⟩, ⟨keyHash P "PermissionError", .str "PermissionError" 129, .type "PermissionError"⟩, ⟨keyHash P "ProcessLookupError", .str "ProcessLookupError" 130, .type "ProcessLookupError"⟩, ⟨keyHash P "TimeoutError", .str "TimeoutError" 131, .type "TimeoutError"⟩, ⟨keyHash P "IndentationError", .str "IndentationError" 132, .type "IndentationError"⟩, ⟨keyHash P "_IncompleteInputError", .str "_IncompleteInputError" 133, .type "_IncompleteInputError"⟩, ⟨keyHash P "IndexError", .str "IndexError" 134, .type "IndexError"⟩, ⟨keyHash P "KeyError", .str "KeyError" 135, .type "KeyError"⟩, ⟨keyHash P "ModuleNotFoundError", .str "ModuleNotFoundError" 136, .type "ModuleNotFoundError"⟩, ⟨keyHash P "NotImplementedError", .str "NotImplementedError" 137, .type "NotImplementedError"⟩, ⟨keyHash P "PythonFinalizationError", .str "PythonFinalizationError" 138, .type "PythonFinalizationError"⟩, ⟨keyHash P "RecursionError", .str "RecursionError" 139, .type "RecursionError"⟩, ⟨keyHash P "UnboundLocalError", .str "UnboundLocalError" 140, .type "UnboundLocalError"⟩, ⟨keyHash P "UnicodeError", .str "UnicodeError" 141, .type "UnicodeError"⟩, ⟨keyHash P "BrokenPipeError", .str "BrokenPipeError" 142, .type "BrokenPipeError"⟩, ⟨keyHash P "ConnectionAbortedError", .str "ConnectionAbortedError" 143, .type "ConnectionAbortedError"⟩, ⟨keyHash P "ConnectionRefusedError", .str "ConnectionRefusedError" 144, .type "ConnectionRefusedError"⟩, ⟨keyHash P "ConnectionResetError", .str "ConnectionResetError" 145, .type "ConnectionResetError"⟩, ⟨keyHash P "TabError", .str "TabError" 146, .type "TabError"⟩, ⟨keyHash P "UnicodeDecodeError", .str "UnicodeDecodeError" 147, .type "UnicodeDecodeError"⟩, ⟨keyHash P "UnicodeEncodeError", .str "UnicodeEncodeError" 148, .type "UnicodeEncodeError"⟩, ⟨keyHash P "UnicodeTranslateError", .str "UnicodeTranslateError" 149, .type "UnicodeTranslateError"⟩, ⟨keyHash P "ExceptionGroup", .str "ExceptionGroup" 150, .type "ExceptionGroup"⟩, ⟨keyHash P "EnvironmentError", .str "EnvironmentError" 151, .type "OSError"⟩, ⟨keyHash P "IOError", .str "IOError" 152, .type "OSError"⟩, ⟨keyHash P "open", .str "open" 153, .builtin "open"⟩, ⟨keyHash P "quit", .str "quit" 154, .builtin "builtins.quit#opaque"⟩, ⟨keyHash P "exit", .str "exit" 155, .builtin "builtins.exit#opaque"⟩, ⟨keyHash P "copyright", .str "copyright" 156, .builtin "builtins.copyright#opaque"⟩, ⟨keyHash P "credits", .str "credits" 157, .builtin "builtins.credits#opaque"⟩, ⟨keyHash P "license", .str "license" 158, .builtin "builtins.license#opaque"⟩, ⟨keyHash P "help", .str "help" 159, .builtin "builtins.help#opaque"⟩] 159 }
noncomputable def hb1 (P : Params) : Obj :=
  { cls := .type "dict", data := .dict #[⟨keyHash P "builtins", .str "builtins" 162, .ref 4⟩, ⟨keyHash P "__main__", .str "__main__" 163, .ref 5⟩, ⟨keyHash P "_collections", .str "_collections" 246, .ref 13⟩] 3 }
noncomputable def hb2 (P : Params) : Obj :=
  { cls := .none, data := .dict #[⟨keyHash P "impor\x74.loaded._collections", .str "impor\x74.loaded._collections" 185, .bool true⟩, ⟨keyHash P "class._frozen_importlib.BuiltinImporter", .str "class._frozen_importlib.BuiltinImporter" 187, .ref 15⟩, ⟨keyHash P "watched.impor\x74", .str "watched.impor\x74" 208, .ref 19⟩, ⟨keyHash P "class._frozen_importlib.ModuleSpec", .str "class._frozen_importlib.ModuleSpec" 218, .ref 23⟩, ⟨keyHash P "sys.modules.booked-epoch", .str "sys.modules.booked-epoch" 247, .int 3 0⟩, ⟨keyHash P "sys.modules.landed._collections", .str "sys.modules.landed._collections" 248, .bool true⟩, ⟨keyHash P "impor\x74.later-laid._collections", .str "impor\x74.later-laid._collections" 263, .bool true⟩, ⟨keyHash P "watched.library", .str "watched.library" 265, .ref 28⟩, ⟨keyHash P "watched.library-objects", .str "watched.library-objects" 0, .str (Str.mk #[13]) 0⟩, ⟨keyHash P "watched.library-deep._collections", .str "watched.library-deep._collections" 266, .str (Str.mk #[4, 0, 0, 12, 4, 0, 0, 12, 4, 0, 0, 3, 4, 0, 0, 12, 8, 4, 100, 105, 99, 116, 2]) 0⟩, ⟨keyHash P "type.__subclasses__.OSError.0", .str "type.__subclasses__.OSError.0" 358, .int 97 0⟩, ⟨keyHash P "type.__subclasses__.OSError.n", .str "type.__subclasses__.OSError.n" 359, .int 1 0⟩] 12 }
noncomputable def hb3 (P : Params) : Obj :=
  { cls := .type "dict", data := .dict #[⟨keyHash P "__name__", .str "__name__" 165, .str "io" 322⟩, ⟨keyHash P "__doc__", .str "__doc__" 166, .none⟩, ⟨keyHash P "__package__", .str "__package__" 167, .none⟩, ⟨keyHash P "__loader__", .str "__loader__" 168, .builtin "__main__.__loader__#opaque"⟩, ⟨keyHash P "__spec__", .str "__spec__" 169, .none⟩, ⟨keyHash P "__annotations__", .str "__annotations__" 170, .ref 6⟩, ⟨keyHash P "__builtins__", .str "__builtins__" 171, .ref 4⟩, ⟨keyHash P "__file__", .str "__file__" 173, .str "/claim/cut.py" 172⟩, ⟨keyHash P "__cached__", .str "__cached__" 174, .none⟩, ⟨keyHash P "deque", .str "deque" 272, .type "collections.deque"⟩, ⟨keyHash P "_wall", .str "_wall" 285, .ref 39⟩, ⟨keyHash P "dict_replace_saxutils", .str "dict_replace_saxutils" 297, .ref 46⟩, ⟨keyHash P "escape", .str "escape" 305, .ref 55⟩, ⟨keyHash P "unescape", .str "unescape" 313, .ref 64⟩, ⟨keyHash P "quoteattr", .str "quoteattr" 321, .ref 73⟩, ⟨keyHash P "_whence", .str "_whence" 331, .ref 80⟩, ⟨keyHash P "_index", .str "_index" 339, .ref 87⟩, ⟨keyHash P "UnsupportedOperation", .str "UnsupportedOperation" 361, .ref 97⟩, ⟨keyHash P "IOBase", .str "IOBase" 393, .ref 117⟩, ⟨keyHash P "BufferedIOBase", .str "BufferedIOBase" 411, .ref 132⟩, ⟨keyHash P "TextIOBase", .str "TextIOBase" 429, .ref 144⟩] 21 }
noncomputable def hb4 (P : Params) : Obj :=
  { cls := .type "module", dict := some 0 }
noncomputable def hb5 (P : Params) : Obj :=
  { cls := .type "module", dict := some 3 }
noncomputable def hb6 (P : Params) : Obj :=
  { cls := .type "dict", data := .dict #[] }
noncomputable def hb7 (P : Params) : Obj :=
  { cls := .type "tuple", data := .seq #[] }
noncomputable def hb8 (P : Params) : Obj :=
  { cls := .none, data := .fields #[] }
noncomputable def hb9 (P : Params) : Obj :=
  { cls := .type "code", data := .fields #[.str "<module>" 176, .str "<module>" 177, .str "/claim/cut.py" 178, .int 1 0, .int 0 0, .int 0 0, .int 0 0, .int 0 0, .ref 7, .bool false, .int 175 0, .ref 8, .none, .none, .none, .none, .int 179 0, .int 1 0, .str "/claim/cut.py" 180] }
noncomputable def hb10 (P : Params) : Obj :=
  { cls := .type "frame", slots := #[some (.ref 9), some (.ref 3), some (.ref 3), none, some (.str "__main__" 164), none, some (.ref 0)] }
noncomputable def hb11 (P : Params) : Obj :=
  { cls := .type "tuple", data := .seq #[.str "deque" 182] }
noncomputable def hb12 (P : Params) : Obj :=
  { cls := .type "dict", data := .dict #[⟨keyHash P "__name__", .str "__name__" 250, .str "_collections" 249⟩, ⟨keyHash P "__doc__", .str "__doc__" 251, .builtin "off-the-table:_collections.__doc__:shared#opaque"⟩, ⟨keyHash P "__package__", .str "__package__" 253, .str "" 252⟩, ⟨keyHash P "__loader__", .str "__loader__" 254, .builtin "off-the-table:_collections.__loader__:shared#opaque"⟩, ⟨keyHash P "__spec__", .str "__spec__" 255, .builtin "off-the-table:_collections.__spec__:shared#opaque"⟩, ⟨keyHash P "_count_elements", .str "_count_elements" 256, .builtin "_collections._count_elements"⟩, ⟨keyHash P "deque", .str "deque" 257, .type "collections.deque"⟩, ⟨keyHash P "defaultdict", .str "defaultdict" 258, .type "collections.defaultdict"⟩, ⟨keyHash P "_deque_iterator", .str "_deque_iterator" 259, .builtin "off-the-table:_collections._deque_iterator:shared#opaque"⟩, ⟨keyHash P "_deque_reverse_iterator", .str "_deque_reverse_iterator" 260, .builtin "off-the-table:_collections._deque_reverse_iterator:shared#opaque"⟩, ⟨keyHash P "_tuplegetter", .str "_tuplegetter" 261, .type "collections._tuplegetter"⟩, ⟨keyHash P "OrderedDict", .str "OrderedDict" 262, .type "collections.OrderedDict"⟩] 12 }
noncomputable def hb13 (P : Params) : Obj :=
  { cls := .type "module", dict := some 12 }
noncomputable def hb14 (P : Params) : Obj :=
  { cls := .type "dict", data := .dict #[⟨keyHash P "__module__", .str "__module__" 191, .str "_frozen_importlib" 188⟩, ⟨keyHash P "__firstlineno__", .str "__firstlineno__" 192, .int 971 189⟩, ⟨keyHash P "__doc__", .str "__doc__" 193, .builtin "_frozen_importlib.BuiltinImporter.__doc__:str#opaque"⟩, ⟨keyHash P "_ORIGIN", .str "_ORIGIN" 194, .str "built-in" 190⟩, ⟨keyHash P "find_spec", .str "find_spec" 195, .builtin "_frozen_importlib.BuiltinImporter.find_spec#opaque"⟩, ⟨keyHash P "create_module", .str "create_module" 196, .builtin "_frozen_importlib.BuiltinImporter.create_module#opaque"⟩, ⟨keyHash P "exec_module", .str "exec_module" 197, .builtin "_frozen_importlib.BuiltinImporter.exec_module#opaque"⟩, ⟨keyHash P "get_code", .str "get_code" 198, .builtin "_frozen_importlib.BuiltinImporter.get_code#opaque"⟩, ⟨keyHash P "get_source", .str "get_source" 199, .builtin "_frozen_importlib.BuiltinImporter.get_source#opaque"⟩, ⟨keyHash P "is_package", .str "is_package" 200, .builtin "_frozen_importlib.BuiltinImporter.is_package#opaque"⟩, ⟨keyHash P "load_module", .str "load_module" 201, .builtin "_frozen_importlib.BuiltinImporter.load_module#opaque"⟩, ⟨keyHash P "__static_attributes__", .str "__static_attributes__" 202, .ref 16⟩, ⟨keyHash P "__dict__", .str "__dict__" 204, .ref 17⟩, ⟨keyHash P "__weakref__", .str "__weakref__" 206, .ref 18⟩] 14 }
noncomputable def hb15 (P : Params) : Obj :=
  { cls := .type "type", data := .cls { name := Str.ofString "BuiltinImporter", bases := [.type "object"], mro := [.ref 15, .type "object"], ns := 14, qualname := Str.ofString "BuiltinImporter" } }
noncomputable def hb16 (P : Params) : Obj :=
  { cls := .type "tuple", data := .seq #[] }
noncomputable def hb17 (P : Params) : Obj :=
  { cls := .type "getset_descriptor", data := .fields #[.str "__dict__" 203, .ref 15, .builtin "function.__dict__", .builtin "function.__dict__#set"] }
noncomputable def hb18 (P : Params) : Obj :=
  { cls := .type "getset_descriptor", data := .fields #[.str "__weakref__" 205, .ref 15, .builtin "ExceptionGroup.__weakref__", .none] }
noncomputable def hb19 (P : Params) : Obj :=
  { cls := .none, data := .seq #[.int 14 0, .str (Str.mk #[6, 191, 10, 95, 95, 109, 111, 100, 117, 108, 101, 95, 95, 6, 188, 17, 95, 102, 114, 111, 122, 101, 110, 95, 105, 109, 112, 111, 114, 116, 108, 105, 98, 6, 192, 15, 95, 95, 102, 105, 114, 115, 116, 108, 105, 110, 101, 110, 111, 95, 95, 4, 189, 0, 971, 6, 193, 7, 95, 95, 100, 111, 99, 95, 95, 9, 52, 95, 102, 114, 111, 122, 101, 110, 95, 105, 109, 112, 111, 114, 116, 108, 105, 98, 46, 66, 117, 105, 108, 116, 105, 110, 73, 109, 112, 111, 114, 116, 101, 114, 46, 95, 95, 100, 111, 99, 95, 95, 58, 115, 116, 114, 35, 111, 112, 97, 113, 117, 101, 6, 194, 7, 95, 79, 82, 73, 71, 73, 78, 6, 190, 8, 98, 117, 105, 108, 116, 45, 105, 110, 6, 195, 9, 102, 105, 110, 100, 95, 115, 112, 101, 99, 9, 50, 95, 102, 114, 111, 122, 101, 110, 95, 105, 109, 112, 111, 114, 116, 108, 105, 98, 46, 66, 117, 105, 108, 116, 105, 110, 73, 109, 112, 111, 114, 116, 101, 114, 46, 102, 105, 110, 100, 95, 115, 112, 101, 99, 35, 111, 112, 97, 113, 117, 101, 6, 196, 13, 99, 114, 101, 97, 116, 101, 95, 109, 111, 100, 117, 108, 101, 9, 54, 95, 102, 114, 111, 122, 101, 110, 95, 105, 109, 112, 111, 114, 116, 108, 105, 98, 46, 66, 117, 105, 108, 116, 105, 110, 73, 109, 112, 111, 114, 116, 101, 114, 46, 99, 114, 101, 97, 116, 101, 95, 109, 111, 100, 117, 108, 101, 35, 111, 112, 97, 113, 117, 101, 6, 197, 11, 101, 120, 101, 99, 95, 109, 111, 100, 117, 108, 101, 9, 52, 95, 102, 114, 111, 122, 101, 110, 95, 105, 109, 112, 111, 114, 116, 108, 105, 98, 46, 66, 117, 105, 108, 116, 105, 110, 73, 109, 112, 111, 114, 116, 101, 114, 46, 101, 120, 101, 99, 95, 109, 111, 100, 117, 108, 101, 35, 111, 112, 97, 113, 117, 101, 6, 198, 8, 103, 101, 116, 95, 99, 111, 100, 101, 9, 49, 95, 102, 114, 111, 122, 101, 110, 95, 105, 109, 112, 111, 114, 116, 108, 105, 98, 46, 66, 117, 105, 108, 116, 105, 110, 73, 109, 112, 111, 114, 116, 101, 114, 46, 103, 101, 116, 95, 99, 111, 100, 101, 35, 111, 112, 97, 113, 117, 101, 6, 199, 10, 103, 101, 116, 95, 115, 111, 117, 114, 99, 101, 9, 51, 95, 102, 114, 111, 122, 101, 110, 95, 105, 109, 112, 111, 114, 116, 108, 105, 98, 46, 66, 117, 105, 108, 116, 105, 110, 73, 109, 112, 111, 114, 116, 101, 114, 46, 103, 101, 116, 95, 115, 111, 117, 114, 99, 101, 35, 111, 112, 97, 113, 117, 101, 6, 200, 10, 105, 115, 95, 112, 97, 99, 107, 97, 103, 101, 9, 51, 95, 102, 114, 111, 122, 101, 110, 95, 105, 109, 112, 111, 114, 116, 108, 105, 98, 46, 66, 117, 105, 108, 116, 105, 110, 73, 109, 112, 111, 114, 116, 101, 114, 46, 105, 115, 95, 112, 97, 99, 107, 97, 103, 101, 35, 111, 112, 97, 113, 117, 101, 6, 201, 11, 108, 111, 97, 100, 95, 109, 111, 100, 117, 108, 101, 9, 52, 95, 102, 114, 111, 122, 101, 110, 95, 105, 109, 112, 111, 114, 116, 108, 105, 98, 46, 66, 117, 105, 108, 116, 105, 110, 73, 109, 112, 111, 114, 116, 101, 114, 46, 108, 111, 97, 100, 95, 109, 111, 100, 117, 108, 101, 35, 111, 112, 97, 113, 117, 101, 6, 202, 21, 95, 95, 115, 116, 97, 116, 105, 99, 95, 97, 116, 116, 114, 105, 98, 117, 116, 101, 115, 95, 95, 4, 0, 0, 16, 6, 204, 8, 95, 95, 100, 105, 99, 116, 95, 95, 4, 0, 0, 17, 6, 206, 11, 95, 95, 119, 101, 97, 107, 114, 101, 102, 95, 95, 4, 0, 0, 18]) 0, .bool true, .bool true, .str "" 207, .int 22 0, .str (Str.mk #[6, 229, 10, 95, 95, 109, 111, 100, 117, 108, 101, 95, 95, 6, 219, 17, 95, 102, 114, 111, 122, 101, 110, 95, 105, 109, 112, 111, 114, 116, 108, 105, 98, 6, 230, 15, 95, 95, 102, 105, 114, 115, 116, 108, 105, 110, 101, 110, 111, 95, 95, 4, 220, 0, 562, 6, 231, 7, 95, 95, 100, 111, 99, 95, 95, 9, 47, 95, 102, 114, 111, 122, 101, 110, 95, 105, 109, 112, 111, 114, 116, 108, 105, 98, 46, 77, 111, 100, 117, 108, 101, 83, 112, 101, 99, 46, 95, 95, 100, 111, 99, 95, 95, 58, 115, 116, 114, 35, 111, 112, 97, 113, 117, 101, 6, 232, 8, 95, 95, 105, 110, 105, 116, 95, 95, 9, 44, 95, 102, 114, 111, 122, 101, 110, 95, 105, 109, 112, 111, 114, 116, 108, 105, 98, 46, 77, 111, 100, 117, 108, 101, 83, 112, 101, 99, 46, 95, 95, 105, 110, 105, 116, 95, 95, 35, 111, 112, 97, 113, 117, 101, 6, 233, 8, 95, 95, 114, 101, 112, 114, 95, 95, 9, 44, 95, 102, 114, 111, 122, 101, 110, 95, 105, 109, 112, 111, 114, 116, 108, 105, 98, 46, 77, 111, 100, 117, 108, 101, 83, 112, 101, 99, 46, 95, 95, 114, 101, 112, 114, 95, 95, 35, 111, 112, 97, 113, 117, 101, 6, 234, 6, 95, 95, 101, 113, 95, 95, 9, 42, 95, 102, 114, 111, 122, 101, 110, 95, 105, 109, 112, 111, 114, 116, 108, 105, 98, 46, 77, 111, 100, 117, 108, 101, 83, 112, 101, 99, 46, 95, 95, 101, 113, 95, 95, 35, 111, 112, 97, 113, 117, 101, 6, 235, 6, 99, 97, 99, 104, 101, 100, 9, 42, 95, 102, 114, 111, 122, 101, 110, 95, 105, 109, 112, 111, 114, 116, 108, 105, 98, 46, 77, 111, 100, 117, 108, 101, 83, 112, 101, 99, 46, 99, 97, 99, 104, 101, 100, 35, 111, 112, 97, 113, 117, 101, 6, 236, 6, 112, 97, 114, 101, 110, 116, 9, 42, 95, 102, 114, 111, 122, 101, 110, 95, 105, 109, 112, 111, 114, 116, 108, 105, 98, 46, 77, 111, 100, 117, 108, 101, 83, 112, 101, 99, 46, 112, 97, 114, 101, 110, 116, 35, 111, 112, 97, 113, 117, 101, 6, 237, 12, 104, 97, 115, 95, 108, 111, 99, 97, 116, 105, 111, 110, 9, 48, 95, 102, 114, 111, 122, 101, 110, 95, 105, 109, 112, 111, 114, 116, 108, 105, 98, 46, 77, 111, 100, 117, 108, 101, 83, 112, 101, 99, 46, 104, 97, 115, 95, 108, 111, 99, 97, 116, 105, 111, 110, 35, 111, 112, 97, 113, 117, 101, 6, 238, 21, 95, 95, 115, 116, 97, 116, 105, 99, 95, 97, 116, 116, 114, 105, 98, 117, 116, 101, 115, 95, 95, 4, 0, 0, 24, 6, 240, 8, 95, 95, 100, 105, 99, 116, 95, 95, 4, 0, 0, 25, 6, 242, 11, 95, 95, 119, 101, 97, 107, 114, 101, 102, 95, 95, 4, 0, 0, 26, 6, 243, 8, 95, 95, 104, 97, 115, 104, 95, 95, 0]) 0, .bool true, .bool true, .str "" 244] 1 }
noncomputable def hb20 (P : Params) : Obj :=
  { cls := .type "list", data := .seq #[] }
noncomputable def hb21 (P : Params) : Obj :=
  { cls := .type "dict", data := .dict #[⟨keyHash P "name", .str "name" 210, .str "_collections" 209⟩, ⟨keyHash P "loader", .str "loader" 211, .ref 15⟩, ⟨keyHash P "origin", .str "origin" 212, .str "built-in" 186⟩, ⟨keyHash P "loader_state", .str "loader_state" 213, .none⟩, ⟨keyHash P "submodule_search_locations", .str "submodule_search_locations" 214, .none⟩, ⟨keyHash P "_uninitialized_submodules", .str "_uninitialized_submodules" 215, .ref 20⟩, ⟨keyHash P "_set_fileattr", .str "_set_fileattr" 216, .bool false⟩, ⟨keyHash P "_cached", .str "_cached" 217, .none⟩, ⟨keyHash P "_initializing", .str "_initializing" 245, .bool false⟩] 9 }
noncomputable def hb22 (P : Params) : Obj :=
  { cls := .type "dict", data := .dict #[⟨keyHash P "__module__", .str "__module__" 229, .str "_frozen_importlib" 219⟩, ⟨keyHash P "__firstlineno__", .str "__firstlineno__" 230, .int 562 220⟩, ⟨keyHash P "__doc__", .str "__doc__" 231, .builtin "_frozen_importlib.ModuleSpec.__doc__:str#opaque"⟩, ⟨keyHash P "__init__", .str "__init__" 232, .builtin "_frozen_importlib.ModuleSpec.__init__#opaque"⟩, ⟨keyHash P "__repr__", .str "__repr__" 233, .builtin "_frozen_importlib.ModuleSpec.__repr__#opaque"⟩, ⟨keyHash P "__eq__", .str "__eq__" 234, .builtin "_frozen_importlib.ModuleSpec.__eq__#opaque"⟩, ⟨keyHash P "cached", .str "cached" 235, .builtin "_frozen_importlib.ModuleSpec.cached#opaque"⟩, ⟨keyHash P "parent", .str "parent" 236, .builtin "_frozen_importlib.ModuleSpec.parent#opaque"⟩, ⟨keyHash P "has_location", .str "has_location" 237, .builtin "_frozen_importlib.ModuleSpec.has_location#opaque"⟩, ⟨keyHash P "__static_attributes__", .str "__static_attributes__" 238, .ref 24⟩, ⟨keyHash P "__dict__", .str "__dict__" 240, .ref 25⟩, ⟨keyHash P "__weakref__", .str "__weakref__" 242, .ref 26⟩, ⟨keyHash P "__hash__", .str "__hash__" 243, .none⟩] 13 }
noncomputable def hb23 (P : Params) : Obj :=
  { cls := .type "type", data := .cls { name := Str.ofString "ModuleSpec", bases := [.type "object"], mro := [.ref 23, .type "object"], ns := 22, qualname := Str.ofString "ModuleSpec" } }
noncomputable def hb24 (P : Params) : Obj :=
  { cls := .type "tuple", data := .seq #[.str "_cached" 221, .str "_set_fileattr" 222, .str "_uninitialized_submodules" 223, .str "loader" 224, .str "loader_state" 225, .str "name" 226, .str "origin" 227, .str "submodule_search_locations" 228] }
noncomputable def hb25 (P : Params) : Obj :=
  { cls := .type "getset_descriptor", data := .fields #[.str "__dict__" 239, .ref 23, .builtin "function.__dict__", .builtin "function.__dict__#set"] }
noncomputable def hb26 (P : Params) : Obj :=
  { cls := .type "getset_descriptor", data := .fields #[.str "__weakref__" 241, .ref 23, .builtin "ExceptionGroup.__weakref__", .none] }
noncomputable def hb27 (P : Params) : Obj :=
  { cls := .ref 23, dict := some 21 }
noncomputable def hb28 (P : Params) : Obj :=
  { cls := .none, data := .seq #[.int 12 0, .str (Str.mk #[6, 250, 8, 95, 95, 110, 97, 109, 101, 95, 95, 6, 249, 12, 95, 99, 111, 108, 108, 101, 99, 116, 105, 111, 110, 115, 6, 251, 7, 95, 95, 100, 111, 99, 95, 95, 9, 31, 95, 99, 111, 108, 108, 101, 99, 116, 105, 111, 110, 115, 46, 95, 95, 100, 111, 99, 95, 95, 58, 115, 116, 114, 35, 111, 112, 97, 113, 117, 101, 6, 253, 11, 95, 95, 112, 97, 99, 107, 97, 103, 101, 95, 95, 6, 252, 0, 6, 254, 10, 95, 95, 108, 111, 97, 100, 101, 114, 95, 95, 4, 0, 0, 15, 6, 255, 8, 95, 95, 115, 112, 101, 99, 95, 95, 4, 0, 0, 27, 6, 256, 15, 95, 99, 111, 117, 110, 116, 95, 101, 108, 101, 109, 101, 110, 116, 115, 9, 28, 95, 99, 111, 108, 108, 101, 99, 116, 105, 111, 110, 115, 46, 95, 99, 111, 117, 110, 116, 95, 101, 108, 101, 109, 101, 110, 116, 115, 6, 257, 5, 100, 101, 113, 117, 101, 8, 17, 99, 111, 108, 108, 101, 99, 116, 105, 111, 110, 115, 46, 100, 101, 113, 117, 101, 6, 258, 11, 100, 101, 102, 97, 117, 108, 116, 100, 105, 99, 116, 8, 23, 99, 111, 108, 108, 101, 99, 116, 105, 111, 110, 115, 46, 100, 101, 102, 97, 117, 108, 116, 100, 105, 99, 116, 6, 259, 15, 95, 100, 101, 113, 117, 101, 95, 105, 116, 101, 114, 97, 116, 111, 114, 8, 27, 99, 111, 108, 108, 101, 99, 116, 105, 111, 110, 115, 46, 95, 100, 101, 113, 117, 101, 95, 105, 116, 101, 114, 97, 116, 111, 114, 6, 260, 23, 95, 100, 101, 113, 117, 101, 95, 114, 101, 118, 101, 114, 115, 101, 95, 105, 116, 101, 114, 97, 116, 111, 114, 8, 35, 99, 111, 108, 108, 101, 99, 116, 105, 111, 110, 115, 46, 95, 100, 101, 113, 117, 101, 95, 114, 101, 118, 101, 114, 115, 101, 95, 105, 116, 101, 114, 97, 116, 111, 114, 6, 261, 12, 95, 116, 117, 112, 108, 101, 103, 101, 116, 116, 101, 114, 8, 24, 99, 111, 108, 108, 101, 99, 116, 105, 111, 110, 115, 46, 95, 116, 117, 112, 108, 101, 103, 101, 116, 116, 101, 114, 6, 262, 11, 79, 114, 100, 101, 114, 101, 100, 68, 105, 99, 116, 8, 23, 99, 111, 108, 108, 101, 99, 116, 105, 111, 110, 115, 46, 79, 114, 100, 101, 114, 101, 100, 68, 105, 99, 116]) 0, .bool true, .bool false, .str "_collections" 264] }
noncomputable def hb29 (P : Params) : Obj :=
  { cls := .type "tuple", data := .seq #[] }
noncomputable def hb30 (P : Params) : Obj :=
  { cls := .none, data := .fields #[.int 2 0, .int 0 0, .ref 38, .int 6 0, .int 0 0, .ref 45, .int 10 0, .int 0 0, .ref 54, .int 17 0, .int 0 0, .ref 63, .int 23 0, .int 0 0, .ref 72, .int 35 0, .int 0 0, .ref 79, .int 40 0, .int 0 0, .ref 86, .int 47 0, .int 0 0, .ref 93, .int 49 0, .int 0 0, .ref 106, .int 56 0, .int 0 0, .ref 128, .int 58 0, .int 0 0, .ref 140] }
noncomputable def hb31 (P : Params) : Obj :=
  { cls := .type "code", data := .fields #[.str "<module>" 274, .str "<module>" 275, .str "/claim/cut.py" 276, .int 1 0, .int 0 0, .int 0 0, .int 0 0, .int 0 0, .ref 29, .bool false, .int 273 0, .ref 30, .none, .none, .none, .none, .int 277 0, .int 1 0, .str "/claim/cut.py" 278] }
noncomputable def hb32 (P : Params) : Obj :=
  { cls := .type "frame", slots := #[some (.ref 31), some (.ref 3), some (.ref 3), none, some (.str "__main__" 164), none, some (.ref 0)] }
noncomputable def hb33 (P : Params) : Obj :=
  { cls := .type "tuple", data := .seq #[] }
noncomputable def hb34 (P : Params) : Obj :=
  { cls := .none, data := .fields #[] }
noncomputable def hb35 (P : Params) : Obj :=
  { cls := .type "tuple", data := .seq #[.str "k" 282] }
noncomputable def hb36 (P : Params) : Obj :=
  { cls := .type "tuple", data := .seq #[] }
noncomputable def hb37 (P : Params) : Obj :=
  { cls := .none, data := .func { name := Str.ofString "_wall", qualname := Str.ofString "_wall", params := (argsOf (defAt 1)), body := FuncBody.stmts (bodyOf (defAt 1)), scope := (scopeOf (defAt 1)), globals := 0, closure := [], defaults := .none, kwdefaults := .none } }
noncomputable def hb38 (P : Params) : Obj :=
  { cls := .type "code", data := .fields #[.str "_wall" 279, .str "_wall" 280, .str "/claim/cut.py" 281, .int 2 0, .int 1 0, .int 0 0, .int 0 0, .int 3 0, .ref 33, .bool true, .int 273 0, .ref 34, .none, .ref 35, .ref 36, .ref 37, .int 283 0, .int 2 0, .str "/claim/cut.py" 284] }
noncomputable def hb39 (P : Params) : Obj :=
  { cls := .type "function", data := .func { name := Str.ofString "_wall", qualname := Str.ofString "_wall", params := (argsOf (defAt 1)), body := FuncBody.stmts (bodyOf (defAt 1)), scope := (scopeOf (defAt 1)), globals := 3, closure := [], defaults := .none, kwdefaults := .none, pyModule := .str "__main__" 164, code := .ref 38 } }
noncomputable def hb40 (P : Params) : Obj :=
  { cls := .type "tuple", data := .seq #[] }
noncomputable def hb41 (P : Params) : Obj :=
  { cls := .none, data := .fields #[] }
noncomputable def hb42 (P : Params) : Obj :=
  { cls := .type "tuple", data := .seq #[.str "s" 291, .str "d" 292, .str "key" 293, .str "value" 294] }
noncomputable def hb43 (P : Params) : Obj :=
  { cls := .type "tuple", data := .seq #[] }
noncomputable def hb44 (P : Params) : Obj :=
  { cls := .none, data := .func { name := Str.ofString "dict_replace_saxutils", qualname := Str.ofString "dict_replace_saxutils", params := (argsOf (defAt 3)), body := FuncBody.stmts (bodyOf (defAt 3)), scope := (scopeOf (defAt 3)), globals := 0, closure := [], defaults := .none, kwdefaults := .none } }
noncomputable def hb45 (P : Params) : Obj :=
  { cls := .type "code", data := .fields #[.str "dict_replace_saxutils" 288, .str "dict_replace_saxutils" 289, .str "/claim/cut.py" 290, .int 6 0, .int 2 0, .int 0 0, .int 0 0, .int 3 0, .ref 40, .bool true, .int 273 0, .ref 41, .none, .ref 42, .ref 43, .ref 44, .int 295 0, .int 6 0, .str "/claim/cut.py" 296] }
noncomputable def hb46 (P : Params) : Obj :=
  { cls := .type "function", data := .func { name := Str.ofString "dict_replace_saxutils", qualname := Str.ofString "dict_replace_saxutils", params := (argsOf (defAt 3)), body := FuncBody.stmts (bodyOf (defAt 3)), scope := (scopeOf (defAt 3)), globals := 3, closure := [], defaults := .none, kwdefaults := .none, pyModule := .str "cpy313.xml.sax.saxutils" 286, code := .ref 45 } }
noncomputable def hb47 (P : Params) : Obj :=
  { cls := .type "dict", data := .dict #[] }
noncomputable def hb48 (P : Params) : Obj :=
  { cls := .type "tuple", data := .seq #[.ref 47] }
noncomputable def hb49 (P : Params) : Obj :=
  { cls := .type "tuple", data := .seq #[] }
noncomputable def hb50 (P : Params) : Obj :=
  { cls := .none, data := .fields #[] }
noncomputable def hb51 (P : Params) : Obj :=
  { cls := .type "tuple", data := .seq #[.str "data" 301, .str "entities" 302] }
noncomputable def hb52 (P : Params) : Obj :=
  { cls := .type "tuple", data := .seq #[] }
noncomputable def hb53 (P : Params) : Obj :=
  { cls := .none, data := .func { name := Str.ofString "escape", qualname := Str.ofString "escape", params := (argsOf (defAt 4)), body := FuncBody.stmts (bodyOf (defAt 4)), scope := (scopeOf (defAt 4)), globals := 0, closure := [], defaults := .none, kwdefaults := .none } }
noncomputable def hb54 (P : Params) : Obj :=
  { cls := .type "code", data := .fields #[.str "escape" 298, .str "escape" 299, .str "/claim/cut.py" 300, .int 10 0, .int 2 0, .int 0 0, .int 0 0, .int 3 0, .ref 49, .bool true, .int 273 0, .ref 50, .none, .ref 51, .ref 52, .ref 53, .int 303 0, .int 10 0, .str "/claim/cut.py" 304] }
noncomputable def hb55 (P : Params) : Obj :=
  { cls := .type "function", data := .func { name := Str.ofString "escape", qualname := Str.ofString "escape", params := (argsOf (defAt 4)), body := FuncBody.stmts (bodyOf (defAt 4)), scope := (scopeOf (defAt 4)), globals := 3, closure := [], defaults := .ref 48, kwdefaults := .none, pyModule := .str "cpy313.xml.sax.saxutils" 286, code := .ref 54 } }
noncomputable def hb56 (P : Params) : Obj :=
  { cls := .type "dict", data := .dict #[] }
noncomputable def hb57 (P : Params) : Obj :=
  { cls := .type "tuple", data := .seq #[.ref 56] }
noncomputable def hb58 (P : Params) : Obj :=
  { cls := .type "tuple", data := .seq #[] }
noncomputable def hb59 (P : Params) : Obj :=
  { cls := .none, data := .fields #[] }
noncomputable def hb60 (P : Params) : Obj :=
  { cls := .type "tuple", data := .seq #[.str "data" 309, .str "entities" 310] }
noncomputable def hb61 (P : Params) : Obj :=
  { cls := .type "tuple", data := .seq #[] }
noncomputable def hb62 (P : Params) : Obj :=
  { cls := .none, data := .func { name := Str.ofString "unescape", qualname := Str.ofString "unescape", params := (argsOf (defAt 5)), body := FuncBody.stmts (bodyOf (defAt 5)), scope := (scopeOf (defAt 4)), globals := 0, closure := [], defaults := .none, kwdefaults := .none } }
noncomputable def hb63 (P : Params) : Obj :=
  { cls := .type "code", data := .fields #[.str "unescape" 306, .str "unescape" 307, .str "/claim/cut.py" 308, .int 17 0, .int 2 0, .int 0 0, .int 0 0, .int 3 0, .ref 58, .bool true, .int 273 0, .ref 59, .none, .ref 60, .ref 61, .ref 62, .int 311 0, .int 17 0, .str "/claim/cut.py" 312] }
noncomputable def hb64 (P : Params) : Obj :=
  { cls := .type "function", data := .func { name := Str.ofString "unescape", qualname := Str.ofString "unescape", params := (argsOf (defAt 5)), body := FuncBody.stmts (bodyOf (defAt 5)), scope := (scopeOf (defAt 4)), globals := 3, closure := [], defaults := .ref 57, kwdefaults := .none, pyModule := .str "cpy313.xml.sax.saxutils" 286, code := .ref 63 } }
noncomputable def hb65 (P : Params) : Obj :=
  { cls := .type "dict", data := .dict #[] }
noncomputable def hb66 (P : Params) : Obj :=
  { cls := .type "tuple", data := .seq #[.ref 65] }
noncomputable def hb67 (P : Params) : Obj :=
  { cls := .type "tuple", data := .seq #[] }
noncomputable def hb68 (P : Params) : Obj :=
  { cls := .none, data := .fields #[] }
noncomputable def hb69 (P : Params) : Obj :=
  { cls := .type "tuple", data := .seq #[.str "data" 317, .str "entities" 318] }
noncomputable def hb70 (P : Params) : Obj :=
  { cls := .type "tuple", data := .seq #[] }
noncomputable def hb71 (P : Params) : Obj :=
  { cls := .none, data := .func { name := Str.ofString "quoteattr", qualname := Str.ofString "quoteattr", params := (argsOf (defAt 6)), body := FuncBody.stmts (bodyOf (defAt 6)), scope := (scopeOf (defAt 6)), globals := 0, closure := [], defaults := .none, kwdefaults := .none } }
noncomputable def hb72 (P : Params) : Obj :=
  { cls := .type "code", data := .fields #[.str "quoteattr" 314, .str "quoteattr" 315, .str "/claim/cut.py" 316, .int 23 0, .int 2 0, .int 0 0, .int 0 0, .int 3 0, .ref 67, .bool true, .int 273 0, .ref 68, .none, .ref 69, .ref 70, .ref 71, .int 319 0, .int 23 0, .str "/claim/cut.py" 320] }
noncomputable def hb73 (P : Params) : Obj :=
  { cls := .type "function", data := .func { name := Str.ofString "quoteattr", qualname := Str.ofString "quoteattr", params := (argsOf (defAt 6)), body := FuncBody.stmts (bodyOf (defAt 6)), scope := (scopeOf (defAt 6)), globals := 3, closure := [], defaults := .ref 66, kwdefaults := .none, pyModule := .str "cpy313.xml.sax.saxutils" 286, code := .ref 72 } }
noncomputable def hb74 (P : Params) : Obj :=
  { cls := .type "tuple", data := .seq #[] }
noncomputable def hb75 (P : Params) : Obj :=
  { cls := .none, data := .fields #[] }
noncomputable def hb76 (P : Params) : Obj :=
  { cls := .type "tuple", data := .seq #[.str "n" 327, .str "what" 328] }
noncomputable def hb77 (P : Params) : Obj :=
  { cls := .type "tuple", data := .seq #[] }
noncomputable def hb78 (P : Params) : Obj :=
  { cls := .none, data := .func { name := Str.ofString "_whence", qualname := Str.ofString "_whence", params := (argsOf (defAt 8)), body := FuncBody.stmts (bodyOf (defAt 8)), scope := (scopeOf (defAt 8)), globals := 0, closure := [], defaults := .none, kwdefaults := .none } }
noncomputable def hb79 (P : Params) : Obj :=
  { cls := .type "code", data := .fields #[.str "_whence" 324, .str "_whence" 325, .str "/claim/cut.py" 326, .int 35 0, .int 2 0, .int 0 0, .int 0 0, .int 3 0, .ref 74, .bool true, .int 273 0, .ref 75, .none, .ref 76, .ref 77, .ref 78, .int 329 0, .int 35 0, .str "/claim/cut.py" 330] }
noncomputable def hb80 (P : Params) : Obj :=
  { cls := .type "function", data := .func { name := Str.ofString "_whence", qualname := Str.ofString "_whence", params := (argsOf (defAt 8)), body := FuncBody.stmts (bodyOf (defAt 8)), scope := (scopeOf (defAt 8)), globals := 3, closure := [], defaults := .none, kwdefaults := .none, pyModule := .str "io" 322, code := .ref 79 } }
noncomputable def hb81 (P : Params) : Obj :=
  { cls := .type "tuple", data := .seq #[] }
noncomputable def hb82 (P : Params) : Obj :=
  { cls := .none, data := .fields #[] }
noncomputable def hb83 (P : Params) : Obj :=
  { cls := .type "tuple", data := .seq #[.str "n" 335, .str "what" 336] }
noncomputable def hb84 (P : Params) : Obj :=
  { cls := .type "tuple", data := .seq #[] }
noncomputable def hb85 (P : Params) : Obj :=
  { cls := .none, data := .func { name := Str.ofString "_index", qualname := Str.ofString "_index", params := (argsOf (defAt 9)), body := FuncBody.stmts (bodyOf (defAt 9)), scope := (scopeOf (defAt 9)), globals := 0, closure := [], defaults := .none, kwdefaults := .none } }
noncomputable def hb86 (P : Params) : Obj :=
  { cls := .type "code", data := .fields #[.str "_index" 332, .str "_index" 333, .str "/claim/cut.py" 334, .int 40 0, .int 2 0, .int 0 0, .int 0 0, .int 3 0, .ref 81, .bool true, .int 273 0, .ref 82, .none, .ref 83, .ref 84, .ref 85, .int 337 0, .int 40 0, .str "/claim/cut.py" 338] }
noncomputable def hb87 (P : Params) : Obj :=
  { cls := .type "function", data := .func { name := Str.ofString "_index", qualname := Str.ofString "_index", params := (argsOf (defAt 9)), body := FuncBody.stmts (bodyOf (defAt 9)), scope := (scopeOf (defAt 9)), globals := 3, closure := [], defaults := .none, kwdefaults := .none, pyModule := .str "io" 322, code := .ref 86 } }
noncomputable def hb88 (P : Params) : Obj :=
  { cls := .type "tuple", data := .seq #[.type "OSError", .type "ValueError"] }
noncomputable def hb89 (P : Params) : Obj :=
  { cls := .type "builtin_function_or_method", data := .fields #[.builtin "type.__prepare__", .type "type"] }
noncomputable def hb90 (P : Params) : Obj :=
  { cls := .type "dict", data := .dict #[⟨keyHash P "__module__", .str "__module__" 347, .str "io" 352⟩, ⟨keyHash P "__qualname__", .str "__qualname__" 349, .str "UnsupportedOperation" 348⟩, ⟨keyHash P "__firstlineno__", .str "__firstlineno__" 351, .int 47 350⟩, ⟨keyHash P "__static_attributes__", .str "__static_attributes__" 354, .ref 95⟩] 4 }
noncomputable def hb91 (P : Params) : Obj :=
  { cls := .type "tuple", data := .seq #[] }
noncomputable def hb92 (P : Params) : Obj :=
  { cls := .none, data := .fields #[] }
noncomputable def hb93 (P : Params) : Obj :=
  { cls := .type "code", data := .fields #[.str "UnsupportedOperation" 342, .str "UnsupportedOperation" 343, .str "/claim/cut.py" 344, .int 47 0, .int 0 0, .int 0 0, .int 0 0, .int 0 0, .ref 91, .bool false, .int 273 0, .ref 92, .none, .none, .none, .none, .int 345 0, .int 47 0, .str "/claim/cut.py" 346] }
noncomputable def hb94 (P : Params) : Obj :=
  { cls := .type "frame", slots := #[some (.ref 93), some (.ref 3), some (.ref 90), none, some (.str "io" 322), none, some (.ref 0)] }
noncomputable def hb95 (P : Params) : Obj :=
  { cls := .type "tuple", data := .seq #[] }
noncomputable def hb96 (P : Params) : Obj :=
  { cls := .type "dict", data := .dict #[⟨keyHash P "__module__", .str "__module__" 347, .str "io" 352⟩, ⟨keyHash P "__firstlineno__", .str "__firstlineno__" 351, .int 47 350⟩, ⟨keyHash P "__static_attributes__", .str "__static_attributes__" 354, .ref 95⟩, ⟨keyHash P "__weakref__", .str "__weakref__" 356, .ref 98⟩, ⟨keyHash P "__doc__", .str "__doc__" 357, .none⟩] 3 }
noncomputable def hb97 (P : Params) : Obj :=
  { cls := .type "type", data := .cls { name := Str.ofString "UnsupportedOperation", bases := [.type "OSError", .type "ValueError"], mro := [.ref 97, .type "OSError", .type "ValueError", .type "Exception", .type "BaseException", .type "object"], ns := 96, qualname := Str.ofString "UnsupportedOperation" }, slots := #[some (.ref 88), none, some (.str "UnsupportedOperation" 340), some (.str "UnsupportedOperation" 348), some (.builtin "OSError.__new__"), some (.bool true)] }
noncomputable def hb98 (P : Params) : Obj :=
  { cls := .type "getset_descriptor", data := .fields #[.str "__weakref__" 355, .ref 97, .builtin "ExceptionGroup.__weakref__", .none] }
noncomputable def hb99 (P : Params) : Obj :=
  { cls := .type "super", data := .fields #[.ref 97, .ref 97, .ref 97] }
noncomputable def hb100 (P : Params) : Obj :=
  { cls := .type "builtin_function_or_method", data := .fields #[.builtin "object.__init_subclass__", .ref 97] }
noncomputable def hb101 (P : Params) : Obj :=
  { cls := .type "tuple", data := .seq #[] }
noncomputable def hb102 (P : Params) : Obj :=
  { cls := .type "builtin_function_or_method", data := .fields #[.builtin "type.__prepare__", .type "type"] }
noncomputable def hb103 (P : Params) : Obj :=
  { cls := .type "dict", data := .dict #[⟨keyHash P "__module__", .str "__module__" 369, .str "io" 374⟩, ⟨keyHash P "__qualname__", .str "__qualname__" 371, .str "IOBase" 370⟩, ⟨keyHash P "__firstlineno__", .str "__firstlineno__" 373, .int 49 372⟩, ⟨keyHash P "__new__", .str "__new__" 384, .ref 114⟩, ⟨keyHash P "__static_attributes__", .str "__static_attributes__" 385, .ref 115⟩] 5 }
noncomputable def hb104 (P : Params) : Obj :=
  { cls := .type "tuple", data := .seq #[] }
noncomputable def hb105 (P : Params) : Obj :=
  { cls := .none, data := .fields #[.int 52 0, .int 4 0, .ref 113] }
noncomputable def hb106 (P : Params) : Obj :=
  { cls := .type "code", data := .fields #[.str "IOBase" 364, .str "IOBase" 365, .str "/claim/cut.py" 366, .int 49 0, .int 0 0, .int 0 0, .int 0 0, .int 0 0, .ref 104, .bool false, .int 273 0, .ref 105, .none, .none, .none, .none, .int 367 0, .int 49 0, .str "/claim/cut.py" 368] }
noncomputable def hb107 (P : Params) : Obj :=
  { cls := .type "frame", slots := #[some (.ref 106), some (.ref 3), some (.ref 103), none, some (.str "io" 322), none, some (.ref 0)] }
noncomputable def hb108 (P : Params) : Obj :=
  { cls := .type "tuple", data := .seq #[] }
noncomputable def hb109 (P : Params) : Obj :=
  { cls := .none, data := .fields #[] }
noncomputable def hb110 (P : Params) : Obj :=
  { cls := .type "tuple", data := .seq #[.str "cls" 379, .str "args" 380, .str "kwargs" 381] }
noncomputable def hb111 (P : Params) : Obj :=
  { cls := .type "tuple", data := .seq #[] }
noncomputable def hb112 (P : Params) : Obj :=
  { cls := .none, data := .func { name := Str.ofString "__new__", qualname := Str.ofString "IOBase.__new__", params := (argsOf (methAt 11 1)), body := FuncBody.stmts (bodyOf (methAt 11 1)), scope := (scopeOf (methAt 11 1)), globals := 0, closure := [], defaults := .none, kwdefaults := .none } }
noncomputable def hb113 (P : Params) : Obj :=
  { cls := .type "code", data := .fields #[.str "__new__" 376, .str "IOBase.__new__" 377, .str "/claim/cut.py" 378, .int 52 0, .int 1 0, .int 1 0, .int 0 0, .int 15 0, .ref 108, .bool true, .int 273 0, .ref 109, .none, .ref 110, .ref 111, .ref 112, .int 382 0, .int 52 0, .str "/claim/cut.py" 383] }
noncomputable def hb114 (P : Params) : Obj :=
  { cls := .type "function", data := .func { name := Str.ofString "__new__", qualname := Str.ofString "IOBase.__new__", params := (argsOf (methAt 11 1)), body := FuncBody.stmts (bodyOf (methAt 11 1)), scope := (scopeOf (methAt 11 1)), globals := 3, closure := [], defaults := .none, kwdefaults := .none, pyModule := .str "io" 322, code := .ref 113 } }
noncomputable def hb115 (P : Params) : Obj :=
  { cls := .type "tuple", data := .seq #[] }
noncomputable def hb116 (P : Params) : Obj :=
  { cls := .type "dict", data := .dict #[⟨keyHash P "__module__", .str "__module__" 369, .str "io" 374⟩, ⟨keyHash P "__firstlineno__", .str "__firstlineno__" 373, .int 49 372⟩, ⟨keyHash P "__new__", .str "__new__" 384, .ref 118⟩, ⟨keyHash P "__static_attributes__", .str "__static_attributes__" 385, .ref 115⟩, ⟨keyHash P "__dict__", .str "__dict__" 388, .ref 119⟩, ⟨keyHash P "__weakref__", .str "__weakref__" 390, .ref 120⟩, ⟨keyHash P "__doc__", .str "__doc__" 391, .none⟩] 4 }
noncomputable def hb117 (P : Params) : Obj :=
  { cls := .type "type", data := .cls { name := Str.ofString "IOBase", bases := [.type "object"], mro := [.ref 117, .type "object"], ns := 116, qualname := Str.ofString "IOBase", subclasses := [.ref 132, .ref 144] }, slots := #[none, none, some (.str "IOBase" 362), some (.str "IOBase" 370), some .none, some (.bool true)] }
noncomputable def hb118 (P : Params) : Obj :=
  { cls := .type "staticmethod", data := .fields #[.ref 114] }
noncomputable def hb119 (P : Params) : Obj :=
  { cls := .type "getset_descriptor", data := .fields #[.str "__dict__" 387, .ref 117, .builtin "function.__dict__", .builtin "function.__dict__#set"] }
noncomputable def hb120 (P : Params) : Obj :=
  { cls := .type "getset_descriptor", data := .fields #[.str "__weakref__" 389, .ref 117, .builtin "ExceptionGroup.__weakref__", .none] }
noncomputable def hb121 (P : Params) : Obj :=
  { cls := .type "super", data := .fields #[.ref 117, .ref 117, .ref 117] }
noncomputable def hb122 (P : Params) : Obj :=
  { cls := .type "builtin_function_or_method", data := .fields #[.builtin "object.__init_subclass__", .ref 117] }
noncomputable def hb123 (P : Params) : Obj :=
  { cls := .type "tuple", data := .seq #[.ref 117] }
noncomputable def hb124 (P : Params) : Obj :=
  { cls := .type "builtin_function_or_method", data := .fields #[.builtin "type.__prepare__", .type "type"] }
noncomputable def hb125 (P : Params) : Obj :=
  { cls := .type "dict", data := .dict #[⟨keyHash P "__module__", .str "__module__" 401, .str "io" 406⟩, ⟨keyHash P "__qualname__", .str "__qualname__" 403, .str "BufferedIOBase" 402⟩, ⟨keyHash P "__firstlineno__", .str "__firstlineno__" 405, .int 56 404⟩, ⟨keyHash P "__static_attributes__", .str "__static_attributes__" 408, .ref 130⟩] 4 }
noncomputable def hb126 (P : Params) : Obj :=
  { cls := .type "tuple", data := .seq #[] }
noncomputable def hb127 (P : Params) : Obj :=
  { cls := .none, data := .fields #[] }
noncomputable def hb128 (P : Params) : Obj :=
  { cls := .type "code", data := .fields #[.str "BufferedIOBase" 396, .str "BufferedIOBase" 397, .str "/claim/cut.py" 398, .int 56 0, .int 0 0, .int 0 0, .int 0 0, .int 0 0, .ref 126, .bool false, .int 273 0, .ref 127, .none, .none, .none, .none, .int 399 0, .int 56 0, .str "/claim/cut.py" 400] }
noncomputable def hb129 (P : Params) : Obj :=
  { cls := .type "frame", slots := #[some (.ref 128), some (.ref 3), some (.ref 125), none, some (.str "io" 322), none, some (.ref 0)] }
noncomputable def hb130 (P : Params) : Obj :=
  { cls := .type "tuple", data := .seq #[] }
noncomputable def hb131 (P : Params) : Obj :=
  { cls := .type "dict", data := .dict #[⟨keyHash P "__module__", .str "__module__" 401, .str "io" 406⟩, ⟨keyHash P "__firstlineno__", .str "__firstlineno__" 405, .int 56 404⟩, ⟨keyHash P "__static_attributes__", .str "__static_attributes__" 408, .ref 130⟩, ⟨keyHash P "__doc__", .str "__doc__" 409, .none⟩] 2 }
noncomputable def hb132 (P : Params) : Obj :=
  { cls := .type "type", data := .cls { name := Str.ofString "BufferedIOBase", bases := [.ref 117], mro := [.ref 132, .ref 117, .type "object"], ns := 131, qualname := Str.ofString "BufferedIOBase" }, slots := #[some (.ref 123), none, some (.str "BufferedIOBase" 394), some (.str "BufferedIOBase" 402), some .none, some (.bool true)] }
noncomputable def hb133 (P : Params) : Obj :=
  { cls := .type "super", data := .fields #[.ref 132, .ref 132, .ref 132] }
noncomputable def hb134 (P : Params) : Obj :=
  { cls := .type "builtin_function_or_method", data := .fields #[.builtin "object.__init_subclass__", .ref 132] }
noncomputable def hb135 (P : Params) : Obj :=
  { cls := .type "tuple", data := .seq #[.ref 117] }
noncomputable def hb136 (P : Params) : Obj :=
  { cls := .type "builtin_function_or_method", data := .fields #[.builtin "type.__prepare__", .type "type"] }
noncomputable def hb137 (P : Params) : Obj :=
  { cls := .type "dict", data := .dict #[⟨keyHash P "__module__", .str "__module__" 419, .str "io" 424⟩, ⟨keyHash P "__qualname__", .str "__qualname__" 421, .str "TextIOBase" 420⟩, ⟨keyHash P "__firstlineno__", .str "__firstlineno__" 423, .int 58 422⟩, ⟨keyHash P "__static_attributes__", .str "__static_attributes__" 426, .ref 142⟩] 4 }
noncomputable def hb138 (P : Params) : Obj :=
  { cls := .type "tuple", data := .seq #[] }
noncomputable def hb139 (P : Params) : Obj :=
  { cls := .none, data := .fields #[] }
noncomputable def hb140 (P : Params) : Obj :=
  { cls := .type "code", data := .fields #[.str "TextIOBase" 414, .str "TextIOBase" 415, .str "/claim/cut.py" 416, .int 58 0, .int 0 0, .int 0 0, .int 0 0, .int 0 0, .ref 138, .bool false, .int 273 0, .ref 139, .none, .none, .none, .none, .int 417 0, .int 58 0, .str "/claim/cut.py" 418] }
noncomputable def hb141 (P : Params) : Obj :=
  { cls := .type "frame", slots := #[some (.ref 140), some (.ref 3), some (.ref 137), none, some (.str "io" 322), none, some (.ref 0)] }
noncomputable def hb142 (P : Params) : Obj :=
  { cls := .type "tuple", data := .seq #[] }
noncomputable def hb143 (P : Params) : Obj :=
  { cls := .type "dict", data := .dict #[⟨keyHash P "__module__", .str "__module__" 419, .str "io" 424⟩, ⟨keyHash P "__firstlineno__", .str "__firstlineno__" 423, .int 58 422⟩, ⟨keyHash P "__static_attributes__", .str "__static_attributes__" 426, .ref 142⟩, ⟨keyHash P "__doc__", .str "__doc__" 427, .none⟩] 2 }
noncomputable def hb144 (P : Params) : Obj :=
  { cls := .type "type", data := .cls { name := Str.ofString "TextIOBase", bases := [.ref 117], mro := [.ref 144, .ref 117, .type "object"], ns := 143, qualname := Str.ofString "TextIOBase" }, slots := #[some (.ref 135), none, some (.str "TextIOBase" 412), some (.str "TextIOBase" 420), some .none, some (.bool true)] }
noncomputable def hb145 (P : Params) : Obj :=
  { cls := .type "super", data := .fields #[.ref 144, .ref 144, .ref 144] }
noncomputable def hb146 (P : Params) : Obj :=
  { cls := .type "builtin_function_or_method", data := .fields #[.builtin "object.__init_subclass__", .ref 144] }
noncomputable def ha2 (P : Params) : Obj :=
  { cls := .none, data := .dict #[⟨keyHash P "impor\x74.loaded._collections", .str "impor\x74.loaded._collections" 185, .bool true⟩, ⟨keyHash P "class._frozen_importlib.BuiltinImporter", .str "class._frozen_importlib.BuiltinImporter" 187, .ref 15⟩, ⟨keyHash P "watched.impor\x74", .str "watched.impor\x74" 208, .ref 19⟩, ⟨keyHash P "class._frozen_importlib.ModuleSpec", .str "class._frozen_importlib.ModuleSpec" 218, .ref 23⟩, ⟨keyHash P "sys.modules.booked-epoch", .str "sys.modules.booked-epoch" 247, .int 3 0⟩, ⟨keyHash P "sys.modules.landed._collections", .str "sys.modules.landed._collections" 248, .bool true⟩, ⟨keyHash P "impor\x74.later-laid._collections", .str "impor\x74.later-laid._collections" 263, .bool true⟩, ⟨keyHash P "watched.library", .str "watched.library" 265, .ref 28⟩, ⟨keyHash P "watched.library-objects", .str "watched.library-objects" 0, .str (Str.mk #[13]) 0⟩, ⟨keyHash P "watched.library-deep._collections", .str "watched.library-deep._collections" 266, .str (Str.mk #[4, 0, 0, 12, 4, 0, 0, 12, 4, 0, 0, 3, 4, 0, 0, 12, 8, 4, 100, 105, 99, 116, 2]) 0⟩] 10 }
noncomputable def ha3 (P : Params) : Obj :=
  { cls := .type "dict", data := .dict #[⟨keyHash P "__name__", .str "__name__" 165, .str "__main__" 164⟩, ⟨keyHash P "__doc__", .str "__doc__" 166, .none⟩, ⟨keyHash P "__package__", .str "__package__" 167, .none⟩, ⟨keyHash P "__loader__", .str "__loader__" 168, .builtin "__main__.__loader__#opaque"⟩, ⟨keyHash P "__spec__", .str "__spec__" 169, .none⟩, ⟨keyHash P "__annotations__", .str "__annotations__" 170, .ref 6⟩, ⟨keyHash P "__builtins__", .str "__builtins__" 171, .ref 4⟩, ⟨keyHash P "__file__", .str "__file__" 173, .str "/claim/cut.py" 172⟩, ⟨keyHash P "__cached__", .str "__cached__" 174, .none⟩, ⟨keyHash P "deque", .str "deque" 272, .type "collections.deque"⟩] 10 }
noncomputable def hp12 (P : Params) : Obj :=
  { cls := .type "dict", data := .dict #[⟨keyHash P "__name__", .str "__name__" 250, .str "_collections" 249⟩, ⟨keyHash P "__doc__", .str "__doc__" 251, .builtin "_collections.__doc__:str#opaque"⟩, ⟨keyHash P "__package__", .str "__package__" 253, .str "" 252⟩, ⟨keyHash P "__loader__", .str "__loader__" 254, .ref 15⟩, ⟨keyHash P "__spec__", .str "__spec__" 255, .ref 27⟩, ⟨keyHash P "_count_elements", .str "_count_elements" 256, .builtin "_collections._count_elements"⟩, ⟨keyHash P "deque", .str "deque" 257, .type "collections.deque"⟩, ⟨keyHash P "defaultdict", .str "defaultdict" 258, .type "collections.defaultdict"⟩, ⟨keyHash P "_deque_iterator", .str "_deque_iterator" 259, .type "collections._deque_iterator"⟩, ⟨keyHash P "_deque_reverse_iterator", .str "_deque_reverse_iterator" 260, .type "collections._deque_reverse_iterator"⟩, ⟨keyHash P "_tuplegetter", .str "_tuplegetter" 261, .type "collections._tuplegetter"⟩, ⟨keyHash P "OrderedDict", .str "OrderedDict" 262, .type "collections.OrderedDict"⟩] 12 }
noncomputable def tA0 (P : Params) : BT := (.node (hb0 P) (.node (hb1 P) (.node (ha3 P) (.node (hb7 P) (.node (hb15 P) .nil .nil) (.node (hb23 P) .nil .nil)) (.node (hb11 P) (.node (hb19 P) .nil .nil) (.node (hb27 P) .nil .nil))) (.node (hb5 P) (.node (hb9 P) (.node (hb17 P) .nil .nil) (.node (hb25 P) .nil .nil)) (.node (hb13 P) (.node (hb21 P) .nil .nil) .nil))) (.node (ha2 P) (.node (hb4 P) (.node (hb8 P) (.node (hb16 P) .nil .nil) (.node (hb24 P) .nil .nil)) (.node (hp12 P) (.node (hb20 P) .nil .nil) (.node (hb28 P) .nil .nil))) (.node (hb6 P) (.node (hb10 P) (.node (hb18 P) .nil .nil) (.node (hb26 P) .nil .nil)) (.node (hb14 P) (.node (hb22 P) .nil .nil) .nil))))
noncomputable def tA (P : Params) : BT := (tA0 P).set 12 (fun _ => hb12 P)
noncomputable def tB (P : Params) : BT := (.node (hb0 P) (.node (hb1 P) (.node (hb3 P) (.node (hb7 P) (.node (hb15 P) (.node (hb31 P) (.node (hb63 P) (.node (hb127 P) .nil .nil) .nil) (.node (hb95 P) .nil .nil)) (.node (hb47 P) (.node (hb79 P) (.node (hb143 P) .nil .nil) .nil) (.node (hb111 P) .nil .nil))) (.node (hb23 P) (.node (hb39 P) (.node (hb71 P) (.node (hb135 P) .nil .nil) .nil) (.node (hb103 P) .nil .nil)) (.node (hb55 P) (.node (hb87 P) .nil .nil) (.node (hb119 P) .nil .nil)))) (.node (hb11 P) (.node (hb19 P) (.node (hb35 P) (.node (hb67 P) (.node (hb131 P) .nil .nil) .nil) (.node (hb99 P) .nil .nil)) (.node (hb51 P) (.node (hb83 P) .nil .nil) (.node (hb115 P) .nil .nil))) (.node (hb27 P) (.node (hb43 P) (.node (hb75 P) (.node (hb139 P) .nil .nil) .nil) (.node (hb107 P) .nil .nil)) (.node (hb59 P) (.node (hb91 P) .nil .nil) (.node (hb123 P) .nil .nil))))) (.node (hb5 P) (.node (hb9 P) (.node (hb17 P) (.node (hb33 P) (.node (hb65 P) (.node (hb129 P) .nil .nil) .nil) (.node (hb97 P) .nil .nil)) (.node (hb49 P) (.node (hb81 P) (.node (hb145 P) .nil .nil) .nil) (.node (hb113 P) .nil .nil))) (.node (hb25 P) (.node (hb41 P) (.node (hb73 P) (.node (hb137 P) .nil .nil) .nil) (.node (hb105 P) .nil .nil)) (.node (hb57 P) (.node (hb89 P) .nil .nil) (.node (hb121 P) .nil .nil)))) (.node (hb13 P) (.node (hb21 P) (.node (hb37 P) (.node (hb69 P) (.node (hb133 P) .nil .nil) .nil) (.node (hb101 P) .nil .nil)) (.node (hb53 P) (.node (hb85 P) .nil .nil) (.node (hb117 P) .nil .nil))) (.node (hb29 P) (.node (hb45 P) (.node (hb77 P) (.node (hb141 P) .nil .nil) .nil) (.node (hb109 P) .nil .nil)) (.node (hb61 P) (.node (hb93 P) .nil .nil) (.node (hb125 P) .nil .nil)))))) (.node (hb2 P) (.node (hb4 P) (.node (hb8 P) (.node (hb16 P) (.node (hb32 P) (.node (hb64 P) (.node (hb128 P) .nil .nil) .nil) (.node (hb96 P) .nil .nil)) (.node (hb48 P) (.node (hb80 P) (.node (hb144 P) .nil .nil) .nil) (.node (hb112 P) .nil .nil))) (.node (hb24 P) (.node (hb40 P) (.node (hb72 P) (.node (hb136 P) .nil .nil) .nil) (.node (hb104 P) .nil .nil)) (.node (hb56 P) (.node (hb88 P) .nil .nil) (.node (hb120 P) .nil .nil)))) (.node (hb12 P) (.node (hb20 P) (.node (hb36 P) (.node (hb68 P) (.node (hb132 P) .nil .nil) .nil) (.node (hb100 P) .nil .nil)) (.node (hb52 P) (.node (hb84 P) .nil .nil) (.node (hb116 P) .nil .nil))) (.node (hb28 P) (.node (hb44 P) (.node (hb76 P) (.node (hb140 P) .nil .nil) .nil) (.node (hb108 P) .nil .nil)) (.node (hb60 P) (.node (hb92 P) .nil .nil) (.node (hb124 P) .nil .nil))))) (.node (hb6 P) (.node (hb10 P) (.node (hb18 P) (.node (hb34 P) (.node (hb66 P) (.node (hb130 P) .nil .nil) .nil) (.node (hb98 P) .nil .nil)) (.node (hb50 P) (.node (hb82 P) (.node (hb146 P) .nil .nil) .nil) (.node (hb114 P) .nil .nil))) (.node (hb26 P) (.node (hb42 P) (.node (hb74 P) (.node (hb138 P) .nil .nil) .nil) (.node (hb106 P) .nil .nil)) (.node (hb58 P) (.node (hb90 P) .nil .nil) (.node (hb122 P) .nil .nil)))) (.node (hb14 P) (.node (hb22 P) (.node (hb38 P) (.node (hb70 P) (.node (hb134 P) .nil .nil) .nil) (.node (hb102 P) .nil .nil)) (.node (hb54 P) (.node (hb86 P) .nil .nil) (.node (hb118 P) .nil .nil))) (.node (hb30 P) (.node (hb46 P) (.node (hb78 P) (.node (hb142 P) .nil .nil) .nil) (.node (hb110 P) .nil .nil)) (.node (hb62 P) (.node (hb94 P) .nil .nil) (.node (hb126 P) .nil .nil)))))))
noncomputable def hc3 (P : Params) : Obj :=
  { cls := .type "dict", data := .dict #[⟨keyHash P "__name__", .str "__name__" 165, .str "io" 322⟩, ⟨keyHash P "__doc__", .str "__doc__" 166, .none⟩, ⟨keyHash P "__package__", .str "__package__" 167, .none⟩, ⟨keyHash P "__loader__", .str "__loader__" 168, .builtin "__main__.__loader__#opaque"⟩, ⟨keyHash P "__spec__", .str "__spec__" 169, .none⟩, ⟨keyHash P "__annotations__", .str "__annotations__" 170, .ref 6⟩, ⟨keyHash P "__builtins__", .str "__builtins__" 171, .ref 4⟩, ⟨keyHash P "__file__", .str "__file__" 173, .str "/claim/cut.py" 172⟩, ⟨keyHash P "__cached__", .str "__cached__" 174, .none⟩, ⟨keyHash P "deque", .str "deque" 272, .type "collections.deque"⟩, ⟨keyHash P "_wall", .str "_wall" 285, .ref 39⟩, ⟨keyHash P "dict_replace_saxutils", .str "dict_replace_saxutils" 297, .ref 46⟩, ⟨keyHash P "escape", .str "escape" 305, .ref 55⟩, ⟨keyHash P "unescape", .str "unescape" 313, .ref 64⟩, ⟨keyHash P "quoteattr", .str "quoteattr" 321, .ref 73⟩, ⟨keyHash P "_whence", .str "_whence" 331, .ref 80⟩, ⟨keyHash P "_index", .str "_index" 339, .ref 87⟩, ⟨keyHash P "UnsupportedOperation", .str "UnsupportedOperation" 361, .ref 97⟩, ⟨keyHash P "IOBase", .str "IOBase" 393, .ref 117⟩, ⟨keyHash P "BufferedIOBase", .str "BufferedIOBase" 411, .ref 132⟩, ⟨keyHash P "TextIOBase", .str "TextIOBase" 429, .ref 144⟩, ⟨keyHash P "BytesIO", .str "BytesIO" 691, .ref 374⟩] 22 }
noncomputable def hc30 (P : Params) : Obj :=
  { cls := .none, data := .fields #[.int 2 0, .int 0 0, .ref 38, .int 6 0, .int 0 0, .ref 45, .int 10 0, .int 0 0, .ref 54, .int 17 0, .int 0 0, .ref 63, .int 23 0, .int 0 0, .ref 72, .int 35 0, .int 0 0, .ref 79, .int 40 0, .int 0 0, .ref 86, .int 47 0, .int 0 0, .ref 93, .int 49 0, .int 0 0, .ref 106, .int 56 0, .int 0 0, .ref 128, .int 58 0, .int 0 0, .ref 140, .int 60 0, .int 0 0, .ref 152] }
noncomputable def hc132 (P : Params) : Obj :=
  { cls := .type "type", data := .cls { name := Str.ofString "BufferedIOBase", bases := [.ref 117], mro := [.ref 132, .ref 117, .type "object"], ns := 131, qualname := Str.ofString "BufferedIOBase", subclasses := [.ref 374] }, slots := #[some (.ref 123), none, some (.str "BufferedIOBase" 394), some (.str "BufferedIOBase" 402), some .none, some (.bool true)] }
noncomputable def hc147 (P : Params) : Obj :=
  { cls := .type "tuple", data := .seq #[.ref 132] }
noncomputable def hc148 (P : Params) : Obj :=
  { cls := .type "builtin_function_or_method", data := .fields #[.builtin "type.__prepare__", .type "type"] }
noncomputable def hc149 (P : Params) : Obj :=
  { cls := .type "dict", data := .dict #[⟨keyHash P "__module__", .str "__module__" 437, .str "_io" 442⟩, ⟨keyHash P "__qualname__", .str "__qualname__" 439, .str "BytesIO" 438⟩, ⟨keyHash P "__firstlineno__", .str "__firstlineno__" 441, .int 60 440⟩, ⟨keyHash P "__init__", .str "__init__" 451, .ref 161⟩, ⟨keyHash P "_BytesIO__check", .str "_BytesIO__check" 458, .ref 168⟩, ⟨keyHash P "_BytesIO__line", .str "_BytesIO__line" 469, .ref 175⟩, ⟨keyHash P "closed", .str "closed" 477, .ref 183⟩, ⟨keyHash P "close", .str "close" 484, .ref 190⟩, ⟨keyHash P "__enter__", .str "__enter__" 491, .ref 197⟩, ⟨keyHash P "__exit__", .str "__exit__" 499, .ref 204⟩, ⟨keyHash P "readable", .str "readable" 506, .ref 211⟩, ⟨keyHash P "writable", .str "writable" 513, .ref 218⟩, ⟨keyHash P "seekable", .str "seekable" 520, .ref 225⟩, ⟨keyHash P "isatty", .str "isatty" 527, .ref 232⟩, ⟨keyHash P "flush", .str "flush" 534, .ref 239⟩, ⟨keyHash P "fileno", .str "fileno" 541, .ref 246⟩, ⟨keyHash P "detach", .str "detach" 548, .ref 253⟩, ⟨keyHash P "getvalue", .str "getvalue" 555, .ref 260⟩, ⟨keyHash P "getbuffer", .str "getbuffer" 562, .ref 267⟩, ⟨keyHash P "tell", .str "tell" 569, .ref 274⟩, ⟨keyHash P "seek", .str "seek" 579, .ref 282⟩, ⟨keyHash P "truncate", .str "truncate" 587, .ref 290⟩, ⟨keyHash P "read", .str "read" 599, .ref 298⟩, ⟨keyHash P "read1", .str "read1" 609, .ref 306⟩, ⟨keyHash P "readinto", .str "readinto" 619, .ref 313⟩, ⟨keyHash P "readinto1", .str "readinto1" 627, .ref 320⟩, ⟨keyHash P "readline", .str "readline" 637, .ref 328⟩, ⟨keyHash P "readlines", .str "readlines" 645, .ref 336⟩, ⟨keyHash P "__iter__", .str "__iter__" 652, .ref 343⟩, ⟨keyHash P "__next__", .str "__next__" 660, .ref 350⟩, ⟨keyHash P "write", .str "write" 670, .ref 357⟩, ⟨keyHash P "writelines", .str "writelines" 678, .ref 364⟩, ⟨keyHash P "__repr__", .str "__repr__" 685, .ref 371⟩, ⟨keyHash P "__static_attributes__", .str "__static_attributes__" 688, .ref 372⟩] 34 }
noncomputable def hc150 (P : Params) : Obj :=
  { cls := .type "tuple", data := .seq #[] }
noncomputable def hc151 (P : Params) : Obj :=
  { cls := .none, data := .fields #[.int 63 0, .int 4 0, .ref 160, .int 69 0, .int 4 0, .ref 167, .int 73 0, .int 4 0, .ref 174, .int 87 0, .int 4 0, .ref 181, .int 90 0, .int 4 0, .ref 189, .int 93 0, .int 4 0, .ref 196, .int 97 0, .int 4 0, .ref 203, .int 100 0, .int 4 0, .ref 210, .int 104 0, .int 4 0, .ref 217, .int 108 0, .int 4 0, .ref 224, .int 112 0, .int 4 0, .ref 231, .int 116 0, .int 4 0, .ref 238, .int 119 0, .int 4 0, .ref 245, .int 122 0, .int 4 0, .ref 252, .int 125 0, .int 4 0, .ref 259, .int 128 0, .int 4 0, .ref 266, .int 131 0, .int 4 0, .ref 273, .int 135 0, .int 4 0, .ref 281, .int 152 0, .int 4 0, .ref 289, .int 155 0, .int 4 0, .ref 297, .int 169 0, .int 4 0, .ref 305, .int 172 0, .int 4 0, .ref 312, .int 186 0, .int 4 0, .ref 319, .int 189 0, .int 4 0, .ref 327, .int 196 0, .int 4 0, .ref 335, .int 199 0, .int 4 0, .ref 342, .int 202 0, .int 4 0, .ref 349, .int 209 0, .int 4 0, .ref 356, .int 225 0, .int 4 0, .ref 363, .int 228 0, .int 4 0, .ref 370] }
noncomputable def hc152 (P : Params) : Obj :=
  { cls := .type "code", data := .fields #[.str "BytesIO" 432, .str "BytesIO" 433, .str "/claim/cut.py" 434, .int 60 0, .int 0 0, .int 0 0, .int 0 0, .int 0 0, .ref 150, .bool false, .int 273 0, .ref 151, .none, .none, .none, .none, .int 435 0, .int 60 0, .str "/claim/cut.py" 436] }
noncomputable def hc153 (P : Params) : Obj :=
  { cls := .type "frame", slots := #[some (.ref 152), some (.ref 3), some (.ref 149), none, some (.str "io" 322), none, some (.ref 0)] }
noncomputable def hc154 (P : Params) : Obj :=
  { cls := .type "tuple", data := .seq #[.none] }
noncomputable def hc155 (P : Params) : Obj :=
  { cls := .type "tuple", data := .seq #[] }
noncomputable def hc156 (P : Params) : Obj :=
  { cls := .none, data := .fields #[] }
noncomputable def hc157 (P : Params) : Obj :=
  { cls := .type "tuple", data := .seq #[.str "self" 447, .str "initial_bytes" 448] }
noncomputable def hc158 (P : Params) : Obj :=
  { cls := .type "tuple", data := .seq #[] }
noncomputable def hc159 (P : Params) : Obj :=
  { cls := .none, data := .func { name := Str.ofString "__init__", qualname := Str.ofString "BytesIO.__init__", params := (argsOf (methAt 14 1)), body := FuncBody.stmts (bodyOf (methAt 14 1)), scope := (scopeOf (methAt 14 1)), globals := 0, closure := [], defaults := .none, kwdefaults := .none } }
noncomputable def hc160 (P : Params) : Obj :=
  { cls := .type "code", data := .fields #[.str "__init__" 444, .str "BytesIO.__init__" 445, .str "/claim/cut.py" 446, .int 63 0, .int 2 0, .int 0 0, .int 0 0, .int 3 0, .ref 155, .bool true, .int 273 0, .ref 156, .none, .ref 157, .ref 158, .ref 159, .int 449 0, .int 63 0, .str "/claim/cut.py" 450] }
noncomputable def hc161 (P : Params) : Obj :=
  { cls := .type "function", data := .func { name := Str.ofString "__init__", qualname := Str.ofString "BytesIO.__init__", params := (argsOf (methAt 14 1)), body := FuncBody.stmts (bodyOf (methAt 14 1)), scope := (scopeOf (methAt 14 1)), globals := 3, closure := [], defaults := .ref 154, kwdefaults := .none, pyModule := .str "io" 322, code := .ref 160 } }
noncomputable def hc162 (P : Params) : Obj :=
  { cls := .type "tuple", data := .seq #[] }
noncomputable def hc163 (P : Params) : Obj :=
  { cls := .none, data := .fields #[] }
noncomputable def hc164 (P : Params) : Obj :=
  { cls := .type "tuple", data := .seq #[.str "self" 455] }
noncomputable def hc165 (P : Params) : Obj :=
  { cls := .type "tuple", data := .seq #[] }
noncomputable def hc166 (P : Params) : Obj :=
  { cls := .none, data := .func { name := Str.ofString "__check", qualname := Str.ofString "BytesIO.__check", params := (argsOf (methAt 14 2)), body := FuncBody.stmts (bodyOf (methAt 14 2)), scope := (scopeOf (methAt 14 2)), globals := 0, closure := [], defaults := .none, kwdefaults := .none } }
noncomputable def hc167 (P : Params) : Obj :=
  { cls := .type "code", data := .fields #[.str "__check" 452, .str "BytesIO.__check" 453, .str "/claim/cut.py" 454, .int 69 0, .int 1 0, .int 0 0, .int 0 0, .int 3 0, .ref 162, .bool true, .int 273 0, .ref 163, .none, .ref 164, .ref 165, .ref 166, .int 456 0, .int 69 0, .str "/claim/cut.py" 457] }
noncomputable def hc168 (P : Params) : Obj :=
  { cls := .type "function", data := .func { name := Str.ofString "__check", qualname := Str.ofString "BytesIO.__check", params := (argsOf (methAt 14 2)), body := FuncBody.stmts (bodyOf (methAt 14 2)), scope := (scopeOf (methAt 14 2)), globals := 3, closure := [], defaults := .none, kwdefaults := .none, pyModule := .str "io" 322, code := .ref 167 } }
noncomputable def hc169 (P : Params) : Obj :=
  { cls := .type "tuple", data := .seq #[] }
noncomputable def hc170 (P : Params) : Obj :=
  { cls := .none, data := .fields #[] }
noncomputable def hc171 (P : Params) : Obj :=
  { cls := .type "tuple", data := .seq #[.str "self" 462, .str "limit" 463, .str "start" 464, .str "stop" 465, .str "i" 466] }
noncomputable def hc172 (P : Params) : Obj :=
  { cls := .type "tuple", data := .seq #[] }
noncomputable def hc173 (P : Params) : Obj :=
  { cls := .none, data := .func { name := Str.ofString "__line", qualname := Str.ofString "BytesIO.__line", params := (argsOf (methAt 14 3)), body := FuncBody.stmts (bodyOf (methAt 14 3)), scope := (scopeOf (methAt 14 3)), globals := 0, closure := [], defaults := .none, kwdefaults := .none } }
noncomputable def hc174 (P : Params) : Obj :=
  { cls := .type "code", data := .fields #[.str "__line" 459, .str "BytesIO.__line" 460, .str "/claim/cut.py" 461, .int 73 0, .int 2 0, .int 0 0, .int 0 0, .int 3 0, .ref 169, .bool true, .int 273 0, .ref 170, .none, .ref 171, .ref 172, .ref 173, .int 467 0, .int 73 0, .str "/claim/cut.py" 468] }
noncomputable def hc175 (P : Params) : Obj :=
  { cls := .type "function", data := .func { name := Str.ofString "__line", qualname := Str.ofString "BytesIO.__line", params := (argsOf (methAt 14 3)), body := FuncBody.stmts (bodyOf (methAt 14 3)), scope := (scopeOf (methAt 14 3)), globals := 3, closure := [], defaults := .none, kwdefaults := .none, pyModule := .str "io" 322, code := .ref 174 } }
noncomputable def hc176 (P : Params) : Obj :=
  { cls := .type "tuple", data := .seq #[] }
noncomputable def hc177 (P : Params) : Obj :=
  { cls := .none, data := .fields #[] }
noncomputable def hc178 (P : Params) : Obj :=
  { cls := .type "tuple", data := .seq #[.str "self" 473] }
noncomputable def hc179 (P : Params) : Obj :=
  { cls := .type "tuple", data := .seq #[] }
noncomputable def hc180 (P : Params) : Obj :=
  { cls := .none, data := .func { name := Str.ofString "closed", qualname := Str.ofString "BytesIO.closed", params := (argsOf (methAt 14 4)), body := FuncBody.stmts (bodyOf (methAt 14 4)), scope := (scopeOf (methAt 14 4)), globals := 0, closure := [], defaults := .none, kwdefaults := .none } }
noncomputable def hc181 (P : Params) : Obj :=
  { cls := .type "code", data := .fields #[.str "closed" 470, .str "BytesIO.closed" 471, .str "/claim/cut.py" 472, .int 86 0, .int 1 0, .int 0 0, .int 0 0, .int 3 0, .ref 176, .bool true, .int 273 0, .ref 177, .none, .ref 178, .ref 179, .ref 180, .int 474 0, .int 86 0, .str "/claim/cut.py" 475] }
noncomputable def hc182 (P : Params) : Obj :=
  { cls := .type "function", data := .func { name := Str.ofString "closed", qualname := Str.ofString "BytesIO.closed", params := (argsOf (methAt 14 4)), body := FuncBody.stmts (bodyOf (methAt 14 4)), scope := (scopeOf (methAt 14 4)), globals := 3, closure := [], defaults := .none, kwdefaults := .none, pyModule := .str "io" 322, code := .ref 181 } }
noncomputable def hc183 (P : Params) : Obj :=
  { cls := .type "property", data := .fields #[.ref 182, .none, .none, .none, .str "closed" 477, .bool false] }
noncomputable def hc184 (P : Params) : Obj :=
  { cls := .type "tuple", data := .seq #[] }
noncomputable def hc185 (P : Params) : Obj :=
  { cls := .none, data := .fields #[] }
noncomputable def hc186 (P : Params) : Obj :=
  { cls := .type "tuple", data := .seq #[.str "self" 481] }
noncomputable def hc187 (P : Params) : Obj :=
  { cls := .type "tuple", data := .seq #[] }
noncomputable def hc188 (P : Params) : Obj :=
  { cls := .none, data := .func { name := Str.ofString "close", qualname := Str.ofString "BytesIO.close", params := (argsOf (methAt 14 5)), body := FuncBody.stmts (bodyOf (methAt 14 5)), scope := (scopeOf (methAt 14 4)), globals := 0, closure := [], defaults := .none, kwdefaults := .none } }
noncomputable def hc189 (P : Params) : Obj :=
  { cls := .type "code", data := .fields #[.str "close" 478, .str "BytesIO.close" 479, .str "/claim/cut.py" 480, .int 90 0, .int 1 0, .int 0 0, .int 0 0, .int 3 0, .ref 184, .bool true, .int 273 0, .ref 185, .none, .ref 186, .ref 187, .ref 188, .int 482 0, .int 90 0, .str "/claim/cut.py" 483] }
noncomputable def hc190 (P : Params) : Obj :=
  { cls := .type "function", data := .func { name := Str.ofString "close", qualname := Str.ofString "BytesIO.close", params := (argsOf (methAt 14 5)), body := FuncBody.stmts (bodyOf (methAt 14 5)), scope := (scopeOf (methAt 14 4)), globals := 3, closure := [], defaults := .none, kwdefaults := .none, pyModule := .str "io" 322, code := .ref 189 } }
noncomputable def hc191 (P : Params) : Obj :=
  { cls := .type "tuple", data := .seq #[] }
noncomputable def hc192 (P : Params) : Obj :=
  { cls := .none, data := .fields #[] }
noncomputable def hc193 (P : Params) : Obj :=
  { cls := .type "tuple", data := .seq #[.str "self" 488] }
noncomputable def hc194 (P : Params) : Obj :=
  { cls := .type "tuple", data := .seq #[] }
noncomputable def hc195 (P : Params) : Obj :=
  { cls := .none, data := .func { name := Str.ofString "__enter__", qualname := Str.ofString "BytesIO.__enter__", params := (argsOf (methAt 14 6)), body := FuncBody.stmts (bodyOf (methAt 14 6)), scope := (scopeOf (methAt 14 4)), globals := 0, closure := [], defaults := .none, kwdefaults := .none } }
noncomputable def hc196 (P : Params) : Obj :=
  { cls := .type "code", data := .fields #[.str "__enter__" 485, .str "BytesIO.__enter__" 486, .str "/claim/cut.py" 487, .int 93 0, .int 1 0, .int 0 0, .int 0 0, .int 3 0, .ref 191, .bool true, .int 273 0, .ref 192, .none, .ref 193, .ref 194, .ref 195, .int 489 0, .int 93 0, .str "/claim/cut.py" 490] }
noncomputable def hc197 (P : Params) : Obj :=
  { cls := .type "function", data := .func { name := Str.ofString "__enter__", qualname := Str.ofString "BytesIO.__enter__", params := (argsOf (methAt 14 6)), body := FuncBody.stmts (bodyOf (methAt 14 6)), scope := (scopeOf (methAt 14 4)), globals := 3, closure := [], defaults := .none, kwdefaults := .none, pyModule := .str "io" 322, code := .ref 196 } }
noncomputable def hc198 (P : Params) : Obj :=
  { cls := .type "tuple", data := .seq #[] }
noncomputable def hc199 (P : Params) : Obj :=
  { cls := .none, data := .fields #[] }
noncomputable def hc200 (P : Params) : Obj :=
  { cls := .type "tuple", data := .seq #[.str "self" 495, .str "args" 496] }
noncomputable def hc201 (P : Params) : Obj :=
  { cls := .type "tuple", data := .seq #[] }
noncomputable def hc202 (P : Params) : Obj :=
  { cls := .none, data := .func { name := Str.ofString "__exit__", qualname := Str.ofString "BytesIO.__exit__", params := (argsOf (methAt 14 7)), body := FuncBody.stmts (bodyOf (methAt 14 7)), scope := (scopeOf (methAt 14 7)), globals := 0, closure := [], defaults := .none, kwdefaults := .none } }
noncomputable def hc203 (P : Params) : Obj :=
  { cls := .type "code", data := .fields #[.str "__exit__" 492, .str "BytesIO.__exit__" 493, .str "/claim/cut.py" 494, .int 97 0, .int 1 0, .int 0 0, .int 0 0, .int 7 0, .ref 198, .bool true, .int 273 0, .ref 199, .none, .ref 200, .ref 201, .ref 202, .int 497 0, .int 97 0, .str "/claim/cut.py" 498] }
noncomputable def hc204 (P : Params) : Obj :=
  { cls := .type "function", data := .func { name := Str.ofString "__exit__", qualname := Str.ofString "BytesIO.__exit__", params := (argsOf (methAt 14 7)), body := FuncBody.stmts (bodyOf (methAt 14 7)), scope := (scopeOf (methAt 14 7)), globals := 3, closure := [], defaults := .none, kwdefaults := .none, pyModule := .str "io" 322, code := .ref 203 } }
noncomputable def hc205 (P : Params) : Obj :=
  { cls := .type "tuple", data := .seq #[] }
noncomputable def hc206 (P : Params) : Obj :=
  { cls := .none, data := .fields #[] }
noncomputable def hc207 (P : Params) : Obj :=
  { cls := .type "tuple", data := .seq #[.str "self" 503] }
noncomputable def hc208 (P : Params) : Obj :=
  { cls := .type "tuple", data := .seq #[] }
noncomputable def hc209 (P : Params) : Obj :=
  { cls := .none, data := .func { name := Str.ofString "readable", qualname := Str.ofString "BytesIO.readable", params := (argsOf (methAt 14 8)), body := FuncBody.stmts (bodyOf (methAt 14 8)), scope := (scopeOf (methAt 14 4)), globals := 0, closure := [], defaults := .none, kwdefaults := .none } }
noncomputable def hc210 (P : Params) : Obj :=
  { cls := .type "code", data := .fields #[.str "readable" 500, .str "BytesIO.readable" 501, .str "/claim/cut.py" 502, .int 100 0, .int 1 0, .int 0 0, .int 0 0, .int 3 0, .ref 205, .bool true, .int 273 0, .ref 206, .none, .ref 207, .ref 208, .ref 209, .int 504 0, .int 100 0, .str "/claim/cut.py" 505] }
noncomputable def hc211 (P : Params) : Obj :=
  { cls := .type "function", data := .func { name := Str.ofString "readable", qualname := Str.ofString "BytesIO.readable", params := (argsOf (methAt 14 8)), body := FuncBody.stmts (bodyOf (methAt 14 8)), scope := (scopeOf (methAt 14 4)), globals := 3, closure := [], defaults := .none, kwdefaults := .none, pyModule := .str "io" 322, code := .ref 210 } }
noncomputable def hc212 (P : Params) : Obj :=
  { cls := .type "tuple", data := .seq #[] }
noncomputable def hc213 (P : Params) : Obj :=
  { cls := .none, data := .fields #[] }
noncomputable def hc214 (P : Params) : Obj :=
  { cls := .type "tuple", data := .seq #[.str "self" 510] }
noncomputable def hc215 (P : Params) : Obj :=
  { cls := .type "tuple", data := .seq #[] }
noncomputable def hc216 (P : Params) : Obj :=
  { cls := .none, data := .func { name := Str.ofString "writable", qualname := Str.ofString "BytesIO.writable", params := (argsOf (methAt 14 9)), body := FuncBody.stmts (bodyOf (methAt 14 9)), scope := (scopeOf (methAt 14 4)), globals := 0, closure := [], defaults := .none, kwdefaults := .none } }
noncomputable def hc217 (P : Params) : Obj :=
  { cls := .type "code", data := .fields #[.str "writable" 507, .str "BytesIO.writable" 508, .str "/claim/cut.py" 509, .int 104 0, .int 1 0, .int 0 0, .int 0 0, .int 3 0, .ref 212, .bool true, .int 273 0, .ref 213, .none, .ref 214, .ref 215, .ref 216, .int 511 0, .int 104 0, .str "/claim/cut.py" 512] }
noncomputable def hc218 (P : Params) : Obj :=
  { cls := .type "function", data := .func { name := Str.ofString "writable", qualname := Str.ofString "BytesIO.writable", params := (argsOf (methAt 14 9)), body := FuncBody.stmts (bodyOf (methAt 14 9)), scope := (scopeOf (methAt 14 4)), globals := 3, closure := [], defaults := .none, kwdefaults := .none, pyModule := .str "io" 322, code := .ref 217 } }
noncomputable def hc219 (P : Params) : Obj :=
  { cls := .type "tuple", data := .seq #[] }
noncomputable def hc220 (P : Params) : Obj :=
  { cls := .none, data := .fields #[] }
noncomputable def hc221 (P : Params) : Obj :=
  { cls := .type "tuple", data := .seq #[.str "self" 517] }
noncomputable def hc222 (P : Params) : Obj :=
  { cls := .type "tuple", data := .seq #[] }
noncomputable def hc223 (P : Params) : Obj :=
  { cls := .none, data := .func { name := Str.ofString "seekable", qualname := Str.ofString "BytesIO.seekable", params := (argsOf (methAt 14 10)), body := FuncBody.stmts (bodyOf (methAt 14 10)), scope := (scopeOf (methAt 14 4)), globals := 0, closure := [], defaults := .none, kwdefaults := .none } }
noncomputable def hc224 (P : Params) : Obj :=
  { cls := .type "code", data := .fields #[.str "seekable" 514, .str "BytesIO.seekable" 515, .str "/claim/cut.py" 516, .int 108 0, .int 1 0, .int 0 0, .int 0 0, .int 3 0, .ref 219, .bool true, .int 273 0, .ref 220, .none, .ref 221, .ref 222, .ref 223, .int 518 0, .int 108 0, .str "/claim/cut.py" 519] }
noncomputable def hc225 (P : Params) : Obj :=
  { cls := .type "function", data := .func { name := Str.ofString "seekable", qualname := Str.ofString "BytesIO.seekable", params := (argsOf (methAt 14 10)), body := FuncBody.stmts (bodyOf (methAt 14 10)), scope := (scopeOf (methAt 14 4)), globals := 3, closure := [], defaults := .none, kwdefaults := .none, pyModule := .str "io" 322, code := .ref 224 } }
noncomputable def hc226 (P : Params) : Obj :=
  { cls := .type "tuple", data := .seq #[] }
noncomputable def hc227 (P : Params) : Obj :=
  { cls := .none, data := .fields #[] }
noncomputable def hc228 (P : Params) : Obj :=
  { cls := .type "tuple", data := .seq #[.str "self" 524] }
noncomputable def hc229 (P : Params) : Obj :=
  { cls := .type "tuple", data := .seq #[] }
noncomputable def hc230 (P : Params) : Obj :=
  { cls := .none, data := .func { name := Str.ofString "isatty", qualname := Str.ofString "BytesIO.isatty", params := (argsOf (methAt 14 11)), body := FuncBody.stmts (bodyOf (methAt 14 11)), scope := (scopeOf (methAt 14 4)), globals := 0, closure := [], defaults := .none, kwdefaults := .none } }
noncomputable def hc231 (P : Params) : Obj :=
  { cls := .type "code", data := .fields #[.str "isatty" 521, .str "BytesIO.isatty" 522, .str "/claim/cut.py" 523, .int 112 0, .int 1 0, .int 0 0, .int 0 0, .int 3 0, .ref 226, .bool true, .int 273 0, .ref 227, .none, .ref 228, .ref 229, .ref 230, .int 525 0, .int 112 0, .str "/claim/cut.py" 526] }
noncomputable def hc232 (P : Params) : Obj :=
  { cls := .type "function", data := .func { name := Str.ofString "isatty", qualname := Str.ofString "BytesIO.isatty", params := (argsOf (methAt 14 11)), body := FuncBody.stmts (bodyOf (methAt 14 11)), scope := (scopeOf (methAt 14 4)), globals := 3, closure := [], defaults := .none, kwdefaults := .none, pyModule := .str "io" 322, code := .ref 231 } }
noncomputable def hc233 (P : Params) : Obj :=
  { cls := .type "tuple", data := .seq #[] }
noncomputable def hc234 (P : Params) : Obj :=
  { cls := .none, data := .fields #[] }
noncomputable def hc235 (P : Params) : Obj :=
  { cls := .type "tuple", data := .seq #[.str "self" 531] }
noncomputable def hc236 (P : Params) : Obj :=
  { cls := .type "tuple", data := .seq #[] }
noncomputable def hc237 (P : Params) : Obj :=
  { cls := .none, data := .func { name := Str.ofString "flush", qualname := Str.ofString "BytesIO.flush", params := (argsOf (methAt 14 12)), body := FuncBody.stmts (bodyOf (methAt 14 12)), scope := (scopeOf (methAt 14 4)), globals := 0, closure := [], defaults := .none, kwdefaults := .none } }
noncomputable def hc238 (P : Params) : Obj :=
  { cls := .type "code", data := .fields #[.str "flush" 528, .str "BytesIO.flush" 529, .str "/claim/cut.py" 530, .int 116 0, .int 1 0, .int 0 0, .int 0 0, .int 3 0, .ref 233, .bool true, .int 273 0, .ref 234, .none, .ref 235, .ref 236, .ref 237, .int 532 0, .int 116 0, .str "/claim/cut.py" 533] }
noncomputable def hc239 (P : Params) : Obj :=
  { cls := .type "function", data := .func { name := Str.ofString "flush", qualname := Str.ofString "BytesIO.flush", params := (argsOf (methAt 14 12)), body := FuncBody.stmts (bodyOf (methAt 14 12)), scope := (scopeOf (methAt 14 4)), globals := 3, closure := [], defaults := .none, kwdefaults := .none, pyModule := .str "io" 322, code := .ref 238 } }
noncomputable def hc240 (P : Params) : Obj :=
  { cls := .type "tuple", data := .seq #[] }
noncomputable def hc241 (P : Params) : Obj :=
  { cls := .none, data := .fields #[] }
noncomputable def hc242 (P : Params) : Obj :=
  { cls := .type "tuple", data := .seq #[.str "self" 538] }
noncomputable def hc243 (P : Params) : Obj :=
  { cls := .type "tuple", data := .seq #[] }
noncomputable def hc244 (P : Params) : Obj :=
  { cls := .none, data := .func { name := Str.ofString "fileno", qualname := Str.ofString "BytesIO.fileno", params := (argsOf (methAt 14 13)), body := FuncBody.stmts (bodyOf (methAt 14 13)), scope := (scopeOf (methAt 14 13)), globals := 0, closure := [], defaults := .none, kwdefaults := .none } }
noncomputable def hc245 (P : Params) : Obj :=
  { cls := .type "code", data := .fields #[.str "fileno" 535, .str "BytesIO.fileno" 536, .str "/claim/cut.py" 537, .int 119 0, .int 1 0, .int 0 0, .int 0 0, .int 3 0, .ref 240, .bool true, .int 273 0, .ref 241, .none, .ref 242, .ref 243, .ref 244, .int 539 0, .int 119 0, .str "/claim/cut.py" 540] }
noncomputable def hc246 (P : Params) : Obj :=
  { cls := .type "function", data := .func { name := Str.ofString "fileno", qualname := Str.ofString "BytesIO.fileno", params := (argsOf (methAt 14 13)), body := FuncBody.stmts (bodyOf (methAt 14 13)), scope := (scopeOf (methAt 14 13)), globals := 3, closure := [], defaults := .none, kwdefaults := .none, pyModule := .str "io" 322, code := .ref 245 } }
noncomputable def hc247 (P : Params) : Obj :=
  { cls := .type "tuple", data := .seq #[] }
noncomputable def hc248 (P : Params) : Obj :=
  { cls := .none, data := .fields #[] }
noncomputable def hc249 (P : Params) : Obj :=
  { cls := .type "tuple", data := .seq #[.str "self" 545] }
noncomputable def hc250 (P : Params) : Obj :=
  { cls := .type "tuple", data := .seq #[] }
noncomputable def hc251 (P : Params) : Obj :=
  { cls := .none, data := .func { name := Str.ofString "detach", qualname := Str.ofString "BytesIO.detach", params := (argsOf (methAt 14 14)), body := FuncBody.stmts (bodyOf (methAt 14 14)), scope := (scopeOf (methAt 14 14)), globals := 0, closure := [], defaults := .none, kwdefaults := .none } }
noncomputable def hc252 (P : Params) : Obj :=
  { cls := .type "code", data := .fields #[.str "detach" 542, .str "BytesIO.detach" 543, .str "/claim/cut.py" 544, .int 122 0, .int 1 0, .int 0 0, .int 0 0, .int 3 0, .ref 247, .bool true, .int 273 0, .ref 248, .none, .ref 249, .ref 250, .ref 251, .int 546 0, .int 122 0, .str "/claim/cut.py" 547] }
noncomputable def hc253 (P : Params) : Obj :=
  { cls := .type "function", data := .func { name := Str.ofString "detach", qualname := Str.ofString "BytesIO.detach", params := (argsOf (methAt 14 14)), body := FuncBody.stmts (bodyOf (methAt 14 14)), scope := (scopeOf (methAt 14 14)), globals := 3, closure := [], defaults := .none, kwdefaults := .none, pyModule := .str "io" 322, code := .ref 252 } }
noncomputable def hc254 (P : Params) : Obj :=
  { cls := .type "tuple", data := .seq #[] }
noncomputable def hc255 (P : Params) : Obj :=
  { cls := .none, data := .fields #[] }
noncomputable def hc256 (P : Params) : Obj :=
  { cls := .type "tuple", data := .seq #[.str "self" 552] }
noncomputable def hc257 (P : Params) : Obj :=
  { cls := .type "tuple", data := .seq #[] }
noncomputable def hc258 (P : Params) : Obj :=
  { cls := .none, data := .func { name := Str.ofString "getvalue", qualname := Str.ofString "BytesIO.getvalue", params := (argsOf (methAt 14 15)), body := FuncBody.stmts (bodyOf (methAt 14 15)), scope := (scopeOf (methAt 14 14)), globals := 0, closure := [], defaults := .none, kwdefaults := .none } }
noncomputable def hc259 (P : Params) : Obj :=
  { cls := .type "code", data := .fields #[.str "getvalue" 549, .str "BytesIO.getvalue" 550, .str "/claim/cut.py" 551, .int 125 0, .int 1 0, .int 0 0, .int 0 0, .int 3 0, .ref 254, .bool true, .int 273 0, .ref 255, .none, .ref 256, .ref 257, .ref 258, .int 553 0, .int 125 0, .str "/claim/cut.py" 554] }
noncomputable def hc260 (P : Params) : Obj :=
  { cls := .type "function", data := .func { name := Str.ofString "getvalue", qualname := Str.ofString "BytesIO.getvalue", params := (argsOf (methAt 14 15)), body := FuncBody.stmts (bodyOf (methAt 14 15)), scope := (scopeOf (methAt 14 14)), globals := 3, closure := [], defaults := .none, kwdefaults := .none, pyModule := .str "io" 322, code := .ref 259 } }
noncomputable def hc261 (P : Params) : Obj :=
  { cls := .type "tuple", data := .seq #[] }
noncomputable def hc262 (P : Params) : Obj :=
  { cls := .none, data := .fields #[] }
noncomputable def hc263 (P : Params) : Obj :=
  { cls := .type "tuple", data := .seq #[.str "self" 559] }
noncomputable def hc264 (P : Params) : Obj :=
  { cls := .type "tuple", data := .seq #[] }
noncomputable def hc265 (P : Params) : Obj :=
  { cls := .none, data := .func { name := Str.ofString "getbuffer", qualname := Str.ofString "BytesIO.getbuffer", params := (argsOf (methAt 14 16)), body := FuncBody.stmts (bodyOf (methAt 14 16)), scope := (scopeOf (methAt 14 14)), globals := 0, closure := [], defaults := .none, kwdefaults := .none } }
noncomputable def hc266 (P : Params) : Obj :=
  { cls := .type "code", data := .fields #[.str "getbuffer" 556, .str "BytesIO.getbuffer" 557, .str "/claim/cut.py" 558, .int 128 0, .int 1 0, .int 0 0, .int 0 0, .int 3 0, .ref 261, .bool true, .int 273 0, .ref 262, .none, .ref 263, .ref 264, .ref 265, .int 560 0, .int 128 0, .str "/claim/cut.py" 561] }
noncomputable def hc267 (P : Params) : Obj :=
  { cls := .type "function", data := .func { name := Str.ofString "getbuffer", qualname := Str.ofString "BytesIO.getbuffer", params := (argsOf (methAt 14 16)), body := FuncBody.stmts (bodyOf (methAt 14 16)), scope := (scopeOf (methAt 14 14)), globals := 3, closure := [], defaults := .none, kwdefaults := .none, pyModule := .str "io" 322, code := .ref 266 } }
noncomputable def hc268 (P : Params) : Obj :=
  { cls := .type "tuple", data := .seq #[] }
noncomputable def hc269 (P : Params) : Obj :=
  { cls := .none, data := .fields #[] }
noncomputable def hc270 (P : Params) : Obj :=
  { cls := .type "tuple", data := .seq #[.str "self" 566] }
noncomputable def hc271 (P : Params) : Obj :=
  { cls := .type "tuple", data := .seq #[] }
noncomputable def hc272 (P : Params) : Obj :=
  { cls := .none, data := .func { name := Str.ofString "tell", qualname := Str.ofString "BytesIO.tell", params := (argsOf (methAt 14 17)), body := FuncBody.stmts (bodyOf (methAt 14 17)), scope := (scopeOf (methAt 14 4)), globals := 0, closure := [], defaults := .none, kwdefaults := .none } }
noncomputable def hc273 (P : Params) : Obj :=
  { cls := .type "code", data := .fields #[.str "tell" 563, .str "BytesIO.tell" 564, .str "/claim/cut.py" 565, .int 131 0, .int 1 0, .int 0 0, .int 0 0, .int 3 0, .ref 268, .bool true, .int 273 0, .ref 269, .none, .ref 270, .ref 271, .ref 272, .int 567 0, .int 131 0, .str "/claim/cut.py" 568] }
noncomputable def hc274 (P : Params) : Obj :=
  { cls := .type "function", data := .func { name := Str.ofString "tell", qualname := Str.ofString "BytesIO.tell", params := (argsOf (methAt 14 17)), body := FuncBody.stmts (bodyOf (methAt 14 17)), scope := (scopeOf (methAt 14 4)), globals := 3, closure := [], defaults := .none, kwdefaults := .none, pyModule := .str "io" 322, code := .ref 273 } }
noncomputable def hc275 (P : Params) : Obj :=
  { cls := .type "tuple", data := .seq #[.int 0 570] }
noncomputable def hc276 (P : Params) : Obj :=
  { cls := .type "tuple", data := .seq #[] }
noncomputable def hc277 (P : Params) : Obj :=
  { cls := .none, data := .fields #[] }
noncomputable def hc278 (P : Params) : Obj :=
  { cls := .type "tuple", data := .seq #[.str "self" 574, .str "pos" 575, .str "whence" 576] }
noncomputable def hc279 (P : Params) : Obj :=
  { cls := .type "tuple", data := .seq #[] }
noncomputable def hc280 (P : Params) : Obj :=
  { cls := .none, data := .func { name := Str.ofString "seek", qualname := Str.ofString "BytesIO.seek", params := (argsOf (methAt 14 18)), body := FuncBody.stmts (bodyOf (methAt 14 18)), scope := (scopeOf (methAt 14 18)), globals := 0, closure := [], defaults := .none, kwdefaults := .none } }
noncomputable def hc281 (P : Params) : Obj :=
  { cls := .type "code", data := .fields #[.str "seek" 571, .str "BytesIO.seek" 572, .str "/claim/cut.py" 573, .int 135 0, .int 3 0, .int 3 0, .int 0 0, .int 3 0, .ref 276, .bool true, .int 273 0, .ref 277, .none, .ref 278, .ref 279, .ref 280, .int 577 0, .int 135 0, .str "/claim/cut.py" 578] }
noncomputable def hc282 (P : Params) : Obj :=
  { cls := .type "function", data := .func { name := Str.ofString "seek", qualname := Str.ofString "BytesIO.seek", params := (argsOf (methAt 14 18)), body := FuncBody.stmts (bodyOf (methAt 14 18)), scope := (scopeOf (methAt 14 18)), globals := 3, closure := [], defaults := .ref 275, kwdefaults := .none, pyModule := .str "io" 322, code := .ref 281 } }
noncomputable def hc283 (P : Params) : Obj :=
  { cls := .type "tuple", data := .seq #[.none] }
noncomputable def hc284 (P : Params) : Obj :=
  { cls := .type "tuple", data := .seq #[] }
noncomputable def hc285 (P : Params) : Obj :=
  { cls := .none, data := .fields #[] }
noncomputable def hc286 (P : Params) : Obj :=
  { cls := .type "tuple", data := .seq #[.str "self" 583, .str "size" 584] }
noncomputable def hc287 (P : Params) : Obj :=
  { cls := .type "tuple", data := .seq #[] }
noncomputable def hc288 (P : Params) : Obj :=
  { cls := .none, data := .func { name := Str.ofString "truncate", qualname := Str.ofString "BytesIO.truncate", params := (argsOf (methAt 14 19)), body := FuncBody.stmts (bodyOf (methAt 14 19)), scope := (scopeOf (methAt 14 19)), globals := 0, closure := [], defaults := .none, kwdefaults := .none } }
noncomputable def hc289 (P : Params) : Obj :=
  { cls := .type "code", data := .fields #[.str "truncate" 580, .str "BytesIO.truncate" 581, .str "/claim/cut.py" 582, .int 152 0, .int 2 0, .int 2 0, .int 0 0, .int 3 0, .ref 284, .bool true, .int 273 0, .ref 285, .none, .ref 286, .ref 287, .ref 288, .int 585 0, .int 152 0, .str "/claim/cut.py" 586] }
noncomputable def hc290 (P : Params) : Obj :=
  { cls := .type "function", data := .func { name := Str.ofString "truncate", qualname := Str.ofString "BytesIO.truncate", params := (argsOf (methAt 14 19)), body := FuncBody.stmts (bodyOf (methAt 14 19)), scope := (scopeOf (methAt 14 19)), globals := 3, closure := [], defaults := .ref 283, kwdefaults := .none, pyModule := .str "io" 322, code := .ref 289 } }
noncomputable def hc291 (P : Params) : Obj :=
  { cls := .type "tuple", data := .seq #[.int (-1) 589] }
noncomputable def hc292 (P : Params) : Obj :=
  { cls := .type "tuple", data := .seq #[] }
noncomputable def hc293 (P : Params) : Obj :=
  { cls := .none, data := .fields #[] }
noncomputable def hc294 (P : Params) : Obj :=
  { cls := .type "tuple", data := .seq #[.str "self" 593, .str "size" 594, .str "start" 595, .str "stop" 596] }
noncomputable def hc295 (P : Params) : Obj :=
  { cls := .type "tuple", data := .seq #[] }
noncomputable def hc296 (P : Params) : Obj :=
  { cls := .none, data := .func { name := Str.ofString "read", qualname := Str.ofString "BytesIO.read", params := (argsOf (methAt 14 20)), body := FuncBody.stmts (bodyOf (methAt 14 20)), scope := (scopeOf (methAt 14 20)), globals := 0, closure := [], defaults := .none, kwdefaults := .none } }
noncomputable def hc297 (P : Params) : Obj :=
  { cls := .type "code", data := .fields #[.str "read" 590, .str "BytesIO.read" 591, .str "/claim/cut.py" 592, .int 155 0, .int 2 0, .int 2 0, .int 0 0, .int 3 0, .ref 292, .bool true, .int 273 0, .ref 293, .none, .ref 294, .ref 295, .ref 296, .int 597 0, .int 155 0, .str "/claim/cut.py" 598] }
noncomputable def hc298 (P : Params) : Obj :=
  { cls := .type "function", data := .func { name := Str.ofString "read", qualname := Str.ofString "BytesIO.read", params := (argsOf (methAt 14 20)), body := FuncBody.stmts (bodyOf (methAt 14 20)), scope := (scopeOf (methAt 14 20)), globals := 3, closure := [], defaults := .ref 291, kwdefaults := .none, pyModule := .str "io" 322, code := .ref 297 } }
noncomputable def hc299 (P : Params) : Obj :=
  { cls := .type "tuple", data := .seq #[.int (-1) 601] }
noncomputable def hc300 (P : Params) : Obj :=
  { cls := .type "tuple", data := .seq #[] }
noncomputable def hc301 (P : Params) : Obj :=
  { cls := .none, data := .fields #[] }
noncomputable def hc302 (P : Params) : Obj :=
  { cls := .type "tuple", data := .seq #[.str "self" 605, .str "size" 606] }
noncomputable def hc303 (P : Params) : Obj :=
  { cls := .type "tuple", data := .seq #[] }
noncomputable def hc304 (P : Params) : Obj :=
  { cls := .none, data := .func { name := Str.ofString "read1", qualname := Str.ofString "BytesIO.read1", params := (argsOf (methAt 14 21)), body := FuncBody.stmts (bodyOf (methAt 14 21)), scope := (scopeOf (methAt 14 19)), globals := 0, closure := [], defaults := .none, kwdefaults := .none } }
noncomputable def hc305 (P : Params) : Obj :=
  { cls := .type "code", data := .fields #[.str "read1" 602, .str "BytesIO.read1" 603, .str "/claim/cut.py" 604, .int 169 0, .int 2 0, .int 2 0, .int 0 0, .int 3 0, .ref 300, .bool true, .int 273 0, .ref 301, .none, .ref 302, .ref 303, .ref 304, .int 607 0, .int 169 0, .str "/claim/cut.py" 608] }
noncomputable def hc306 (P : Params) : Obj :=
  { cls := .type "function", data := .func { name := Str.ofString "read1", qualname := Str.ofString "BytesIO.read1", params := (argsOf (methAt 14 21)), body := FuncBody.stmts (bodyOf (methAt 14 21)), scope := (scopeOf (methAt 14 19)), globals := 3, closure := [], defaults := .ref 299, kwdefaults := .none, pyModule := .str "io" 322, code := .ref 305 } }
noncomputable def hc307 (P : Params) : Obj :=
  { cls := .type "tuple", data := .seq #[] }
noncomputable def hc308 (P : Params) : Obj :=
  { cls := .none, data := .fields #[] }
noncomputable def hc309 (P : Params) : Obj :=
  { cls := .type "tuple", data := .seq #[.str "self" 613, .str "buffer" 614, .str "start" 615, .str "n" 616] }
noncomputable def hc310 (P : Params) : Obj :=
  { cls := .type "tuple", data := .seq #[] }
noncomputable def hc311 (P : Params) : Obj :=
  { cls := .none, data := .func { name := Str.ofString "readinto", qualname := Str.ofString "BytesIO.readinto", params := (argsOf (methAt 14 22)), body := FuncBody.stmts (bodyOf (methAt 14 22)), scope := (scopeOf (methAt 14 22)), globals := 0, closure := [], defaults := .none, kwdefaults := .none } }
noncomputable def hc312 (P : Params) : Obj :=
  { cls := .type "code", data := .fields #[.str "readinto" 610, .str "BytesIO.readinto" 611, .str "/claim/cut.py" 612, .int 172 0, .int 2 0, .int 2 0, .int 0 0, .int 3 0, .ref 307, .bool true, .int 273 0, .ref 308, .none, .ref 309, .ref 310, .ref 311, .int 617 0, .int 172 0, .str "/claim/cut.py" 618] }
noncomputable def hc313 (P : Params) : Obj :=
  { cls := .type "function", data := .func { name := Str.ofString "readinto", qualname := Str.ofString "BytesIO.readinto", params := (argsOf (methAt 14 22)), body := FuncBody.stmts (bodyOf (methAt 14 22)), scope := (scopeOf (methAt 14 22)), globals := 3, closure := [], defaults := .none, kwdefaults := .none, pyModule := .str "io" 322, code := .ref 312 } }
noncomputable def hc314 (P : Params) : Obj :=
  { cls := .type "tuple", data := .seq #[] }
noncomputable def hc315 (P : Params) : Obj :=
  { cls := .none, data := .fields #[] }
noncomputable def hc316 (P : Params) : Obj :=
  { cls := .type "tuple", data := .seq #[.str "self" 623, .str "buffer" 624] }
noncomputable def hc317 (P : Params) : Obj :=
  { cls := .type "tuple", data := .seq #[] }
noncomputable def hc318 (P : Params) : Obj :=
  { cls := .none, data := .func { name := Str.ofString "readinto1", qualname := Str.ofString "BytesIO.readinto1", params := (argsOf (methAt 14 23)), body := FuncBody.stmts (bodyOf (methAt 14 23)), scope := (scopeOf (methAt 14 23)), globals := 0, closure := [], defaults := .none, kwdefaults := .none } }
noncomputable def hc319 (P : Params) : Obj :=
  { cls := .type "code", data := .fields #[.str "readinto1" 620, .str "BytesIO.readinto1" 621, .str "/claim/cut.py" 622, .int 186 0, .int 2 0, .int 2 0, .int 0 0, .int 3 0, .ref 314, .bool true, .int 273 0, .ref 315, .none, .ref 316, .ref 317, .ref 318, .int 625 0, .int 186 0, .str "/claim/cut.py" 626] }
noncomputable def hc320 (P : Params) : Obj :=
  { cls := .type "function", data := .func { name := Str.ofString "readinto1", qualname := Str.ofString "BytesIO.readinto1", params := (argsOf (methAt 14 23)), body := FuncBody.stmts (bodyOf (methAt 14 23)), scope := (scopeOf (methAt 14 23)), globals := 3, closure := [], defaults := .none, kwdefaults := .none, pyModule := .str "io" 322, code := .ref 319 } }
noncomputable def hc321 (P : Params) : Obj :=
  { cls := .type "tuple", data := .seq #[.int (-1) 629] }
noncomputable def hc322 (P : Params) : Obj :=
  { cls := .type "tuple", data := .seq #[] }
noncomputable def hc323 (P : Params) : Obj :=
  { cls := .none, data := .fields #[] }
noncomputable def hc324 (P : Params) : Obj :=
  { cls := .type "tuple", data := .seq #[.str "self" 633, .str "size" 634] }
noncomputable def hc325 (P : Params) : Obj :=
  { cls := .type "tuple", data := .seq #[] }
noncomputable def hc326 (P : Params) : Obj :=
  { cls := .none, data := .func { name := Str.ofString "readline", qualname := Str.ofString "BytesIO.readline", params := (argsOf (methAt 14 24)), body := FuncBody.stmts (bodyOf (methAt 14 24)), scope := (scopeOf (methAt 14 24)), globals := 0, closure := [], defaults := .none, kwdefaults := .none } }
noncomputable def hc327 (P : Params) : Obj :=
  { cls := .type "code", data := .fields #[.str "readline" 630, .str "BytesIO.readline" 631, .str "/claim/cut.py" 632, .int 189 0, .int 2 0, .int 2 0, .int 0 0, .int 3 0, .ref 322, .bool true, .int 273 0, .ref 323, .none, .ref 324, .ref 325, .ref 326, .int 635 0, .int 189 0, .str "/claim/cut.py" 636] }
noncomputable def hc328 (P : Params) : Obj :=
  { cls := .type "function", data := .func { name := Str.ofString "readline", qualname := Str.ofString "BytesIO.readline", params := (argsOf (methAt 14 24)), body := FuncBody.stmts (bodyOf (methAt 14 24)), scope := (scopeOf (methAt 14 24)), globals := 3, closure := [], defaults := .ref 321, kwdefaults := .none, pyModule := .str "io" 322, code := .ref 327 } }
noncomputable def hc329 (P : Params) : Obj :=
  { cls := .type "tuple", data := .seq #[.none] }
noncomputable def hc330 (P : Params) : Obj :=
  { cls := .type "tuple", data := .seq #[] }
noncomputable def hc331 (P : Params) : Obj :=
  { cls := .none, data := .fields #[] }
noncomputable def hc332 (P : Params) : Obj :=
  { cls := .type "tuple", data := .seq #[.str "self" 641, .str "size" 642] }
noncomputable def hc333 (P : Params) : Obj :=
  { cls := .type "tuple", data := .seq #[] }
noncomputable def hc334 (P : Params) : Obj :=
  { cls := .none, data := .func { name := Str.ofString "readlines", qualname := Str.ofString "BytesIO.readlines", params := (argsOf (methAt 14 25)), body := FuncBody.stmts (bodyOf (methAt 14 25)), scope := (scopeOf (methAt 14 19)), globals := 0, closure := [], defaults := .none, kwdefaults := .none } }
noncomputable def hc335 (P : Params) : Obj :=
  { cls := .type "code", data := .fields #[.str "readlines" 638, .str "BytesIO.readlines" 639, .str "/claim/cut.py" 640, .int 196 0, .int 2 0, .int 2 0, .int 0 0, .int 3 0, .ref 330, .bool true, .int 273 0, .ref 331, .none, .ref 332, .ref 333, .ref 334, .int 643 0, .int 196 0, .str "/claim/cut.py" 644] }
noncomputable def hc336 (P : Params) : Obj :=
  { cls := .type "function", data := .func { name := Str.ofString "readlines", qualname := Str.ofString "BytesIO.readlines", params := (argsOf (methAt 14 25)), body := FuncBody.stmts (bodyOf (methAt 14 25)), scope := (scopeOf (methAt 14 19)), globals := 3, closure := [], defaults := .ref 329, kwdefaults := .none, pyModule := .str "io" 322, code := .ref 335 } }
noncomputable def hc337 (P : Params) : Obj :=
  { cls := .type "tuple", data := .seq #[] }
noncomputable def hc338 (P : Params) : Obj :=
  { cls := .none, data := .fields #[] }
noncomputable def hc339 (P : Params) : Obj :=
  { cls := .type "tuple", data := .seq #[.str "self" 649] }
noncomputable def hc340 (P : Params) : Obj :=
  { cls := .type "tuple", data := .seq #[] }
noncomputable def hc341 (P : Params) : Obj :=
  { cls := .none, data := .func { name := Str.ofString "__iter__", qualname := Str.ofString "BytesIO.__iter__", params := (argsOf (methAt 14 26)), body := FuncBody.stmts (bodyOf (methAt 14 26)), scope := (scopeOf (methAt 14 4)), globals := 0, closure := [], defaults := .none, kwdefaults := .none } }
noncomputable def hc342 (P : Params) : Obj :=
  { cls := .type "code", data := .fields #[.str "__iter__" 646, .str "BytesIO.__iter__" 647, .str "/claim/cut.py" 648, .int 199 0, .int 1 0, .int 0 0, .int 0 0, .int 3 0, .ref 337, .bool true, .int 273 0, .ref 338, .none, .ref 339, .ref 340, .ref 341, .int 650 0, .int 199 0, .str "/claim/cut.py" 651] }
noncomputable def hc343 (P : Params) : Obj :=
  { cls := .type "function", data := .func { name := Str.ofString "__iter__", qualname := Str.ofString "BytesIO.__iter__", params := (argsOf (methAt 14 26)), body := FuncBody.stmts (bodyOf (methAt 14 26)), scope := (scopeOf (methAt 14 4)), globals := 3, closure := [], defaults := .none, kwdefaults := .none, pyModule := .str "io" 322, code := .ref 342 } }
noncomputable def hc344 (P : Params) : Obj :=
  { cls := .type "tuple", data := .seq #[] }
noncomputable def hc345 (P : Params) : Obj :=
  { cls := .none, data := .fields #[] }
noncomputable def hc346 (P : Params) : Obj :=
  { cls := .type "tuple", data := .seq #[.str "self" 656, .str "line" 657] }
noncomputable def hc347 (P : Params) : Obj :=
  { cls := .type "tuple", data := .seq #[] }
noncomputable def hc348 (P : Params) : Obj :=
  { cls := .none, data := .func { name := Str.ofString "__next__", qualname := Str.ofString "BytesIO.__next__", params := (argsOf (methAt 14 27)), body := FuncBody.stmts (bodyOf (methAt 14 27)), scope := (scopeOf (methAt 14 27)), globals := 0, closure := [], defaults := .none, kwdefaults := .none } }
noncomputable def hc349 (P : Params) : Obj :=
  { cls := .type "code", data := .fields #[.str "__next__" 653, .str "BytesIO.__next__" 654, .str "/claim/cut.py" 655, .int 202 0, .int 1 0, .int 0 0, .int 0 0, .int 3 0, .ref 344, .bool true, .int 273 0, .ref 345, .none, .ref 346, .ref 347, .ref 348, .int 658 0, .int 202 0, .str "/claim/cut.py" 659] }
noncomputable def hc350 (P : Params) : Obj :=
  { cls := .type "function", data := .func { name := Str.ofString "__next__", qualname := Str.ofString "BytesIO.__next__", params := (argsOf (methAt 14 27)), body := FuncBody.stmts (bodyOf (methAt 14 27)), scope := (scopeOf (methAt 14 27)), globals := 3, closure := [], defaults := .none, kwdefaults := .none, pyModule := .str "io" 322, code := .ref 349 } }
noncomputable def hc351 (P : Params) : Obj :=
  { cls := .type "tuple", data := .seq #[] }
noncomputable def hc352 (P : Params) : Obj :=
  { cls := .none, data := .fields #[] }
noncomputable def hc353 (P : Params) : Obj :=
  { cls := .type "tuple", data := .seq #[.str "self" 664, .str "b" 665, .str "n" 666, .str "start" 667] }
noncomputable def hc354 (P : Params) : Obj :=
  { cls := .type "tuple", data := .seq #[] }
noncomputable def hc355 (P : Params) : Obj :=
  { cls := .none, data := .func { name := Str.ofString "write", qualname := Str.ofString "BytesIO.write", params := (argsOf (methAt 14 28)), body := FuncBody.stmts (bodyOf (methAt 14 28)), scope := (scopeOf (methAt 14 28)), globals := 0, closure := [], defaults := .none, kwdefaults := .none } }
noncomputable def hc356 (P : Params) : Obj :=
  { cls := .type "code", data := .fields #[.str "write" 661, .str "BytesIO.write" 662, .str "/claim/cut.py" 663, .int 209 0, .int 2 0, .int 2 0, .int 0 0, .int 3 0, .ref 351, .bool true, .int 273 0, .ref 352, .none, .ref 353, .ref 354, .ref 355, .int 668 0, .int 209 0, .str "/claim/cut.py" 669] }
noncomputable def hc357 (P : Params) : Obj :=
  { cls := .type "function", data := .func { name := Str.ofString "write", qualname := Str.ofString "BytesIO.write", params := (argsOf (methAt 14 28)), body := FuncBody.stmts (bodyOf (methAt 14 28)), scope := (scopeOf (methAt 14 28)), globals := 3, closure := [], defaults := .none, kwdefaults := .none, pyModule := .str "io" 322, code := .ref 356 } }
noncomputable def hc358 (P : Params) : Obj :=
  { cls := .type "tuple", data := .seq #[] }
noncomputable def hc359 (P : Params) : Obj :=
  { cls := .none, data := .fields #[] }
noncomputable def hc360 (P : Params) : Obj :=
  { cls := .type "tuple", data := .seq #[.str "self" 674, .str "lines" 675] }
noncomputable def hc361 (P : Params) : Obj :=
  { cls := .type "tuple", data := .seq #[] }
noncomputable def hc362 (P : Params) : Obj :=
  { cls := .none, data := .func { name := Str.ofString "writelines", qualname := Str.ofString "BytesIO.writelines", params := (argsOf (methAt 14 29)), body := FuncBody.stmts (bodyOf (methAt 14 29)), scope := (scopeOf (methAt 14 29)), globals := 0, closure := [], defaults := .none, kwdefaults := .none } }
noncomputable def hc363 (P : Params) : Obj :=
  { cls := .type "code", data := .fields #[.str "writelines" 671, .str "BytesIO.writelines" 672, .str "/claim/cut.py" 673, .int 225 0, .int 2 0, .int 2 0, .int 0 0, .int 3 0, .ref 358, .bool true, .int 273 0, .ref 359, .none, .ref 360, .ref 361, .ref 362, .int 676 0, .int 225 0, .str "/claim/cut.py" 677] }
noncomputable def hc364 (P : Params) : Obj :=
  { cls := .type "function", data := .func { name := Str.ofString "writelines", qualname := Str.ofString "BytesIO.writelines", params := (argsOf (methAt 14 29)), body := FuncBody.stmts (bodyOf (methAt 14 29)), scope := (scopeOf (methAt 14 29)), globals := 3, closure := [], defaults := .none, kwdefaults := .none, pyModule := .str "io" 322, code := .ref 363 } }
noncomputable def hc365 (P : Params) : Obj :=
  { cls := .type "tuple", data := .seq #[] }
noncomputable def hc366 (P : Params) : Obj :=
  { cls := .none, data := .fields #[] }
noncomputable def hc367 (P : Params) : Obj :=
  { cls := .type "tuple", data := .seq #[.str "self" 682] }
noncomputable def hc368 (P : Params) : Obj :=
  { cls := .type "tuple", data := .seq #[] }
noncomputable def hc369 (P : Params) : Obj :=
  { cls := .none, data := .func { name := Str.ofString "__repr__", qualname := Str.ofString "BytesIO.__repr__", params := (argsOf (methAt 14 30)), body := FuncBody.stmts (bodyOf (methAt 14 30)), scope := (scopeOf (methAt 14 14)), globals := 0, closure := [], defaults := .none, kwdefaults := .none } }
noncomputable def hc370 (P : Params) : Obj :=
  { cls := .type "code", data := .fields #[.str "__repr__" 679, .str "BytesIO.__repr__" 680, .str "/claim/cut.py" 681, .int 228 0, .int 1 0, .int 0 0, .int 0 0, .int 3 0, .ref 365, .bool true, .int 273 0, .ref 366, .none, .ref 367, .ref 368, .ref 369, .int 683 0, .int 228 0, .str "/claim/cut.py" 684] }
noncomputable def hc371 (P : Params) : Obj :=
  { cls := .type "function", data := .func { name := Str.ofString "__repr__", qualname := Str.ofString "BytesIO.__repr__", params := (argsOf (methAt 14 30)), body := FuncBody.stmts (bodyOf (methAt 14 30)), scope := (scopeOf (methAt 14 14)), globals := 3, closure := [], defaults := .none, kwdefaults := .none, pyModule := .str "io" 322, code := .ref 370 } }
noncomputable def hc372 (P : Params) : Obj :=
  { cls := .type "tuple", data := .seq #[.str "__buf" 686, .str "__pos" 687] }
noncomputable def hc373 (P : Params) : Obj :=
  { cls := .type "dict", data := .dict #[⟨keyHash P "__module__", .str "__module__" 437, .str "_io" 442⟩, ⟨keyHash P "__firstlineno__", .str "__firstlineno__" 441, .int 60 440⟩, ⟨keyHash P "__init__", .str "__init__" 451, .ref 161⟩, ⟨keyHash P "_BytesIO__check", .str "_BytesIO__check" 458, .ref 168⟩, ⟨keyHash P "_BytesIO__line", .str "_BytesIO__line" 469, .ref 175⟩, ⟨keyHash P "closed", .str "closed" 477, .ref 183⟩, ⟨keyHash P "close", .str "close" 484, .ref 190⟩, ⟨keyHash P "__enter__", .str "__enter__" 491, .ref 197⟩, ⟨keyHash P "__exit__", .str "__exit__" 499, .ref 204⟩, ⟨keyHash P "readable", .str "readable" 506, .ref 211⟩, ⟨keyHash P "writable", .str "writable" 513, .ref 218⟩, ⟨keyHash P "seekable", .str "seekable" 520, .ref 225⟩, ⟨keyHash P "isatty", .str "isatty" 527, .ref 232⟩, ⟨keyHash P "flush", .str "flush" 534, .ref 239⟩, ⟨keyHash P "fileno", .str "fileno" 541, .ref 246⟩, ⟨keyHash P "detach", .str "detach" 548, .ref 253⟩, ⟨keyHash P "getvalue", .str "getvalue" 555, .ref 260⟩, ⟨keyHash P "getbuffer", .str "getbuffer" 562, .ref 267⟩, ⟨keyHash P "tell", .str "tell" 569, .ref 274⟩, ⟨keyHash P "seek", .str "seek" 579, .ref 282⟩, ⟨keyHash P "truncate", .str "truncate" 587, .ref 290⟩, ⟨keyHash P "read", .str "read" 599, .ref 298⟩, ⟨keyHash P "read1", .str "read1" 609, .ref 306⟩, ⟨keyHash P "readinto", .str "readinto" 619, .ref 313⟩, ⟨keyHash P "readinto1", .str "readinto1" 627, .ref 320⟩, ⟨keyHash P "readline", .str "readline" 637, .ref 328⟩, ⟨keyHash P "readlines", .str "readlines" 645, .ref 336⟩, ⟨keyHash P "__iter__", .str "__iter__" 652, .ref 343⟩, ⟨keyHash P "__next__", .str "__next__" 660, .ref 350⟩, ⟨keyHash P "write", .str "write" 670, .ref 357⟩, ⟨keyHash P "writelines", .str "writelines" 678, .ref 364⟩, ⟨keyHash P "__repr__", .str "__repr__" 685, .ref 371⟩, ⟨keyHash P "__static_attributes__", .str "__static_attributes__" 688, .ref 372⟩, ⟨keyHash P "__doc__", .str "__doc__" 689, .none⟩] 2 }
noncomputable def hc374 (P : Params) : Obj :=
  { cls := .type "type", data := .cls { name := Str.ofString "BytesIO", bases := [.ref 132], mro := [.ref 374, .ref 132, .ref 117, .type "object"], ns := 373, qualname := Str.ofString "BytesIO" }, slots := #[some (.ref 147), none, some (.str "BytesIO" 430), some (.str "BytesIO" 438), some .none, some (.bool true)] }
noncomputable def hc375 (P : Params) : Obj :=
  { cls := .type "super", data := .fields #[.ref 374, .ref 374, .ref 374] }
noncomputable def hc376 (P : Params) : Obj :=
  { cls := .type "builtin_function_or_method", data := .fields #[.builtin "object.__init_subclass__", .ref 374] }
noncomputable def tC (P : Params) : BT := (.node (hb0 P) (.node (hb1 P) (.node (hc3 P) (.node (hb7 P) (.node (hb15 P) (.node (hb31 P) (.node (hb63 P) (.node (hb127 P) (.node (hc255 P) .nil .nil) .nil) (.node (hc191 P) (.node (hc319 P) .nil .nil) .nil)) (.node (hb95 P) (.node (hc159 P) (.node (hc287 P) .nil .nil) .nil) (.node (hc223 P) (.node (hc351 P) .nil .nil) .nil))) (.node (hb47 P) (.node (hb79 P) (.node (hb143 P) (.node (hc271 P) .nil .nil) .nil) (.node (hc207 P) (.node (hc335 P) .nil .nil) .nil)) (.node (hb111 P) (.node (hc175 P) (.node (hc303 P) .nil .nil) .nil) (.node (hc239 P) (.node (hc367 P) .nil .nil) .nil)))) (.node (hb23 P) (.node (hb39 P) (.node (hb71 P) (.node (hb135 P) (.node (hc263 P) .nil .nil) .nil) (.node (hc199 P) (.node (hc327 P) .nil .nil) .nil)) (.node (hb103 P) (.node (hc167 P) (.node (hc295 P) .nil .nil) .nil) (.node (hc231 P) (.node (hc359 P) .nil .nil) .nil))) (.node (hb55 P) (.node (hb87 P) (.node (hc151 P) (.node (hc279 P) .nil .nil) .nil) (.node (hc215 P) (.node (hc343 P) .nil .nil) .nil)) (.node (hb119 P) (.node (hc183 P) (.node (hc311 P) .nil .nil) .nil) (.node (hc247 P) (.node (hc375 P) .nil .nil) .nil))))) (.node (hb11 P) (.node (hb19 P) (.node (hb35 P) (.node (hb67 P) (.node (hb131 P) (.node (hc259 P) .nil .nil) .nil) (.node (hc195 P) (.node (hc323 P) .nil .nil) .nil)) (.node (hb99 P) (.node (hc163 P) (.node (hc291 P) .nil .nil) .nil) (.node (hc227 P) (.node (hc355 P) .nil .nil) .nil))) (.node (hb51 P) (.node (hb83 P) (.node (hc147 P) (.node (hc275 P) .nil .nil) .nil) (.node (hc211 P) (.node (hc339 P) .nil .nil) .nil)) (.node (hb115 P) (.node (hc179 P) (.node (hc307 P) .nil .nil) .nil) (.node (hc243 P) (.node (hc371 P) .nil .nil) .nil)))) (.node (hb27 P) (.node (hb43 P) (.node (hb75 P) (.node (hb139 P) (.node (hc267 P) .nil .nil) .nil) (.node (hc203 P) (.node (hc331 P) .nil .nil) .nil)) (.node (hb107 P) (.node (hc171 P) (.node (hc299 P) .nil .nil) .nil) (.node (hc235 P) (.node (hc363 P) .nil .nil) .nil))) (.node (hb59 P) (.node (hb91 P) (.node (hc155 P) (.node (hc283 P) .nil .nil) .nil) (.node (hc219 P) (.node (hc347 P) .nil .nil) .nil)) (.node (hb123 P) (.node (hc187 P) (.node (hc315 P) .nil .nil) .nil) (.node (hc251 P) .nil .nil)))))) (.node (hb5 P) (.node (hb9 P) (.node (hb17 P) (.node (hb33 P) (.node (hb65 P) (.node (hb129 P) (.node (hc257 P) .nil .nil) .nil) (.node (hc193 P) (.node (hc321 P) .nil .nil) .nil)) (.node (hb97 P) (.node (hc161 P) (.node (hc289 P) .nil .nil) .nil) (.node (hc225 P) (.node (hc353 P) .nil .nil) .nil))) (.node (hb49 P) (.node (hb81 P) (.node (hb145 P) (.node (hc273 P) .nil .nil) .nil) (.node (hc209 P) (.node (hc337 P) .nil .nil) .nil)) (.node (hb113 P) (.node (hc177 P) (.node (hc305 P) .nil .nil) .nil) (.node (hc241 P) (.node (hc369 P) .nil .nil) .nil)))) (.node (hb25 P) (.node (hb41 P) (.node (hb73 P) (.node (hb137 P) (.node (hc265 P) .nil .nil) .nil) (.node (hc201 P) (.node (hc329 P) .nil .nil) .nil)) (.node (hb105 P) (.node (hc169 P) (.node (hc297 P) .nil .nil) .nil) (.node (hc233 P) (.node (hc361 P) .nil .nil) .nil))) (.node (hb57 P) (.node (hb89 P) (.node (hc153 P) (.node (hc281 P) .nil .nil) .nil) (.node (hc217 P) (.node (hc345 P) .nil .nil) .nil)) (.node (hb121 P) (.node (hc185 P) (.node (hc313 P) .nil .nil) .nil) (.node (hc249 P) .nil .nil))))) (.node (hb13 P) (.node (hb21 P) (.node (hb37 P) (.node (hb69 P) (.node (hb133 P) (.node (hc261 P) .nil .nil) .nil) (.node (hc197 P) (.node (hc325 P) .nil .nil) .nil)) (.node (hb101 P) (.node (hc165 P) (.node (hc293 P) .nil .nil) .nil) (.node (hc229 P) (.node (hc357 P) .nil .nil) .nil))) (.node (hb53 P) (.node (hb85 P) (.node (hc149 P) (.node (hc277 P) .nil .nil) .nil) (.node (hc213 P) (.node (hc341 P) .nil .nil) .nil)) (.node (hb117 P) (.node (hc181 P) (.node (hc309 P) .nil .nil) .nil) (.node (hc245 P) (.node (hc373 P) .nil .nil) .nil)))) (.node (hb29 P) (.node (hb45 P) (.node (hb77 P) (.node (hb141 P) (.node (hc269 P) .nil .nil) .nil) (.node (hc205 P) (.node (hc333 P) .nil .nil) .nil)) (.node (hb109 P) (.node (hc173 P) (.node (hc301 P) .nil .nil) .nil) (.node (hc237 P) (.node (hc365 P) .nil .nil) .nil))) (.node (hb61 P) (.node (hb93 P) (.node (hc157 P) (.node (hc285 P) .nil .nil) .nil) (.node (hc221 P) (.node (hc349 P) .nil .nil) .nil)) (.node (hb125 P) (.node (hc189 P) (.node (hc317 P) .nil .nil) .nil) (.node (hc253 P) .nil .nil))))))) (.node (hb2 P) (.node (hb4 P) (.node (hb8 P) (.node (hb16 P) (.node (hb32 P) (.node (hb64 P) (.node (hb128 P) (.node (hc256 P) .nil .nil) .nil) (.node (hc192 P) (.node (hc320 P) .nil .nil) .nil)) (.node (hb96 P) (.node (hc160 P) (.node (hc288 P) .nil .nil) .nil) (.node (hc224 P) (.node (hc352 P) .nil .nil) .nil))) (.node (hb48 P) (.node (hb80 P) (.node (hb144 P) (.node (hc272 P) .nil .nil) .nil) (.node (hc208 P) (.node (hc336 P) .nil .nil) .nil)) (.node (hb112 P) (.node (hc176 P) (.node (hc304 P) .nil .nil) .nil) (.node (hc240 P) (.node (hc368 P) .nil .nil) .nil)))) (.node (hb24 P) (.node (hb40 P) (.node (hb72 P) (.node (hb136 P) (.node (hc264 P) .nil .nil) .nil) (.node (hc200 P) (.node (hc328 P) .nil .nil) .nil)) (.node (hb104 P) (.node (hc168 P) (.node (hc296 P) .nil .nil) .nil) (.node (hc232 P) (.node (hc360 P) .nil .nil) .nil))) (.node (hb56 P) (.node (hb88 P) (.node (hc152 P) (.node (hc280 P) .nil .nil) .nil) (.node (hc216 P) (.node (hc344 P) .nil .nil) .nil)) (.node (hb120 P) (.node (hc184 P) (.node (hc312 P) .nil .nil) .nil) (.node (hc248 P) (.node (hc376 P) .nil .nil) .nil))))) (.node (hb12 P) (.node (hb20 P) (.node (hb36 P) (.node (hb68 P) (.node (hc132 P) (.node (hc260 P) .nil .nil) .nil) (.node (hc196 P) (.node (hc324 P) .nil .nil) .nil)) (.node (hb100 P) (.node (hc164 P) (.node (hc292 P) .nil .nil) .nil) (.node (hc228 P) (.node (hc356 P) .nil .nil) .nil))) (.node (hb52 P) (.node (hb84 P) (.node (hc148 P) (.node (hc276 P) .nil .nil) .nil) (.node (hc212 P) (.node (hc340 P) .nil .nil) .nil)) (.node (hb116 P) (.node (hc180 P) (.node (hc308 P) .nil .nil) .nil) (.node (hc244 P) (.node (hc372 P) .nil .nil) .nil)))) (.node (hb28 P) (.node (hb44 P) (.node (hb76 P) (.node (hb140 P) (.node (hc268 P) .nil .nil) .nil) (.node (hc204 P) (.node (hc332 P) .nil .nil) .nil)) (.node (hb108 P) (.node (hc172 P) (.node (hc300 P) .nil .nil) .nil) (.node (hc236 P) (.node (hc364 P) .nil .nil) .nil))) (.node (hb60 P) (.node (hb92 P) (.node (hc156 P) (.node (hc284 P) .nil .nil) .nil) (.node (hc220 P) (.node (hc348 P) .nil .nil) .nil)) (.node (hb124 P) (.node (hc188 P) (.node (hc316 P) .nil .nil) .nil) (.node (hc252 P) .nil .nil)))))) (.node (hb6 P) (.node (hb10 P) (.node (hb18 P) (.node (hb34 P) (.node (hb66 P) (.node (hb130 P) (.node (hc258 P) .nil .nil) .nil) (.node (hc194 P) (.node (hc322 P) .nil .nil) .nil)) (.node (hb98 P) (.node (hc162 P) (.node (hc290 P) .nil .nil) .nil) (.node (hc226 P) (.node (hc354 P) .nil .nil) .nil))) (.node (hb50 P) (.node (hb82 P) (.node (hb146 P) (.node (hc274 P) .nil .nil) .nil) (.node (hc210 P) (.node (hc338 P) .nil .nil) .nil)) (.node (hb114 P) (.node (hc178 P) (.node (hc306 P) .nil .nil) .nil) (.node (hc242 P) (.node (hc370 P) .nil .nil) .nil)))) (.node (hb26 P) (.node (hb42 P) (.node (hb74 P) (.node (hb138 P) (.node (hc266 P) .nil .nil) .nil) (.node (hc202 P) (.node (hc330 P) .nil .nil) .nil)) (.node (hb106 P) (.node (hc170 P) (.node (hc298 P) .nil .nil) .nil) (.node (hc234 P) (.node (hc362 P) .nil .nil) .nil))) (.node (hb58 P) (.node (hb90 P) (.node (hc154 P) (.node (hc282 P) .nil .nil) .nil) (.node (hc218 P) (.node (hc346 P) .nil .nil) .nil)) (.node (hb122 P) (.node (hc186 P) (.node (hc314 P) .nil .nil) .nil) (.node (hc250 P) .nil .nil))))) (.node (hb14 P) (.node (hb22 P) (.node (hb38 P) (.node (hb70 P) (.node (hb134 P) (.node (hc262 P) .nil .nil) .nil) (.node (hc198 P) (.node (hc326 P) .nil .nil) .nil)) (.node (hb102 P) (.node (hc166 P) (.node (hc294 P) .nil .nil) .nil) (.node (hc230 P) (.node (hc358 P) .nil .nil) .nil))) (.node (hb54 P) (.node (hb86 P) (.node (hc150 P) (.node (hc278 P) .nil .nil) .nil) (.node (hc214 P) (.node (hc342 P) .nil .nil) .nil)) (.node (hb118 P) (.node (hc182 P) (.node (hc310 P) .nil .nil) .nil) (.node (hc246 P) (.node (hc374 P) .nil .nil) .nil)))) (.node (hc30 P) (.node (hb46 P) (.node (hb78 P) (.node (hb142 P) (.node (hc270 P) .nil .nil) .nil) (.node (hc206 P) (.node (hc334 P) .nil .nil) .nil)) (.node (hb110 P) (.node (hc174 P) (.node (hc302 P) .nil .nil) .nil) (.node (hc238 P) (.node (hc366 P) .nil .nil) .nil))) (.node (hb62 P) (.node (hb94 P) (.node (hc158 P) (.node (hc286 P) .nil .nil) .nil) (.node (hc222 P) (.node (hc350 P) .nil .nil) .nil)) (.node (hb126 P) (.node (hc190 P) (.node (hc318 P) .nil .nil) .nil) (.node (hc254 P) .nil .nil))))))))
noncomputable def hd3 (P : Params) : Obj :=
  { cls := .type "dict", data := .dict #[⟨keyHash P "__name__", .str "__name__" 165, .str "io" 322⟩, ⟨keyHash P "__doc__", .str "__doc__" 166, .none⟩, ⟨keyHash P "__package__", .str "__package__" 167, .none⟩, ⟨keyHash P "__loader__", .str "__loader__" 168, .builtin "__main__.__loader__#opaque"⟩, ⟨keyHash P "__spec__", .str "__spec__" 169, .none⟩, ⟨keyHash P "__annotations__", .str "__annotations__" 170, .ref 6⟩, ⟨keyHash P "__builtins__", .str "__builtins__" 171, .ref 4⟩, ⟨keyHash P "__file__", .str "__file__" 173, .str "/claim/cut.py" 172⟩, ⟨keyHash P "__cached__", .str "__cached__" 174, .none⟩, ⟨keyHash P "deque", .str "deque" 272, .type "collections.deque"⟩, ⟨keyHash P "_wall", .str "_wall" 285, .ref 39⟩, ⟨keyHash P "dict_replace_saxutils", .str "dict_replace_saxutils" 297, .ref 46⟩, ⟨keyHash P "escape", .str "escape" 305, .ref 55⟩, ⟨keyHash P "unescape", .str "unescape" 313, .ref 64⟩, ⟨keyHash P "quoteattr", .str "quoteattr" 321, .ref 73⟩, ⟨keyHash P "_whence", .str "_whence" 331, .ref 80⟩, ⟨keyHash P "_index", .str "_index" 339, .ref 87⟩, ⟨keyHash P "UnsupportedOperation", .str "UnsupportedOperation" 361, .ref 97⟩, ⟨keyHash P "IOBase", .str "IOBase" 393, .ref 117⟩, ⟨keyHash P "BufferedIOBase", .str "BufferedIOBase" 411, .ref 132⟩, ⟨keyHash P "TextIOBase", .str "TextIOBase" 429, .ref 144⟩, ⟨keyHash P "BytesIO", .str "BytesIO" 691, .ref 374⟩, ⟨keyHash P "StringIO", .str "StringIO" 978, .ref 621⟩] 23 }
noncomputable def hd30 (P : Params) : Obj :=
  { cls := .none, data := .fields #[.int 2 0, .int 0 0, .ref 38, .int 6 0, .int 0 0, .ref 45, .int 10 0, .int 0 0, .ref 54, .int 17 0, .int 0 0, .ref 63, .int 23 0, .int 0 0, .ref 72, .int 35 0, .int 0 0, .ref 79, .int 40 0, .int 0 0, .ref 86, .int 47 0, .int 0 0, .ref 93, .int 49 0, .int 0 0, .ref 106, .int 56 0, .int 0 0, .ref 128, .int 58 0, .int 0 0, .ref 140, .int 60 0, .int 0 0, .ref 152, .int 230 0, .int 0 0, .ref 382] }
noncomputable def hd144 (P : Params) : Obj :=
  { cls := .type "type", data := .cls { name := Str.ofString "TextIOBase", bases := [.ref 117], mro := [.ref 144, .ref 117, .type "object"], ns := 143, qualname := Str.ofString "TextIOBase", subclasses := [.ref 621] }, slots := #[some (.ref 135), none, some (.str "TextIOBase" 412), some (.str "TextIOBase" 420), some .none, some (.bool true)] }
noncomputable def hd377 (P : Params) : Obj :=
  { cls := .type "tuple", data := .seq #[.ref 144] }
noncomputable def hd378 (P : Params) : Obj :=
  { cls := .type "builtin_function_or_method", data := .fields #[.builtin "type.__prepare__", .type "type"] }
noncomputable def hd379 (P : Params) : Obj :=
  { cls := .type "dict", data := .dict #[⟨keyHash P "__module__", .str "__module__" 699, .str "_io" 704⟩, ⟨keyHash P "__qualname__", .str "__qualname__" 701, .str "StringIO" 700⟩, ⟨keyHash P "__firstlineno__", .str "__firstlineno__" 703, .int 230 702⟩, ⟨keyHash P "__init__", .str "__init__" 716, .ref 391⟩, ⟨keyHash P "_StringIO__translated", .str "_StringIO__translated" 725, .ref 398⟩, ⟨keyHash P "_StringIO__check", .str "_StringIO__check" 732, .ref 405⟩, ⟨keyHash P "_StringIO__check_dot", .str "_StringIO__check_dot" 739, .ref 412⟩, ⟨keyHash P "_StringIO__line", .str "_StringIO__line" 754, .ref 419⟩, ⟨keyHash P "closed", .str "closed" 762, .ref 427⟩, ⟨keyHash P "line_buffering", .str "line_buffering" 770, .ref 435⟩, ⟨keyHash P "newlines", .str "newlines" 778, .ref 443⟩, ⟨keyHash P "encoding", .str "encoding" 786, .ref 451⟩, ⟨keyHash P "errors", .str "errors" 794, .ref 459⟩, ⟨keyHash P "close", .str "close" 801, .ref 466⟩, ⟨keyHash P "__enter__", .str "__enter__" 808, .ref 473⟩, ⟨keyHash P "__exit__", .str "__exit__" 816, .ref 480⟩, ⟨keyHash P "readable", .str "readable" 823, .ref 487⟩, ⟨keyHash P "writable", .str "writable" 830, .ref 494⟩, ⟨keyHash P "seekable", .str "seekable" 837, .ref 501⟩, ⟨keyHash P "isatty", .str "isatty" 844, .ref 508⟩, ⟨keyHash P "flush", .str "flush" 851, .ref 515⟩, ⟨keyHash P "fileno", .str "fileno" 858, .ref 522⟩, ⟨keyHash P "detach", .str "detach" 865, .ref 529⟩, ⟨keyHash P "getvalue", .str "getvalue" 872, .ref 536⟩, ⟨keyHash P "tell", .str "tell" 879, .ref 543⟩, ⟨keyHash P "seek", .str "seek" 889, .ref 551⟩, ⟨keyHash P "truncate", .str "truncate" 897, .ref 559⟩, ⟨keyHash P "read", .str "read" 909, .ref 567⟩, ⟨keyHash P "readline", .str "readline" 919, .ref 575⟩, ⟨keyHash P "readlines", .str "readlines" 929, .ref 583⟩, ⟨keyHash P "__iter__", .str "__iter__" 936, .ref 590⟩, ⟨keyHash P "__next__", .str "__next__" 944, .ref 597⟩, ⟨keyHash P "write", .str "write" 956, .ref 604⟩, ⟨keyHash P "writelines", .str "writelines" 964, .ref 611⟩, ⟨keyHash P "__repr__", .str "__repr__" 971, .ref 618⟩, ⟨keyHash P "__static_attributes__", .str "__static_attributes__" 975, .ref 619⟩] 36 }
noncomputable def hd380 (P : Params) : Obj :=
  { cls := .type "tuple", data := .seq #[] }
noncomputable def hd381 (P : Params) : Obj :=
  { cls := .none, data := .fields #[.int 233 0, .int 4 0, .ref 390, .int 246 0, .int 4 0, .ref 397, .int 254 0, .int 4 0, .ref 404, .int 258 0, .int 4 0, .ref 411, .int 262 0, .int 4 0, .ref 418, .int 295 0, .int 4 0, .ref 425, .int 299 0, .int 4 0, .ref 433, .int 303 0, .int 4 0, .ref 441, .int 307 0, .int 4 0, .ref 449, .int 311 0, .int 4 0, .ref 457, .int 314 0, .int 4 0, .ref 465, .int 317 0, .int 4 0, .ref 472, .int 321 0, .int 4 0, .ref 479, .int 324 0, .int 4 0, .ref 486, .int 328 0, .int 4 0, .ref 493, .int 332 0, .int 4 0, .ref 500, .int 336 0, .int 4 0, .ref 507, .int 340 0, .int 4 0, .ref 514, .int 343 0, .int 4 0, .ref 521, .int 346 0, .int 4 0, .ref 528, .int 349 0, .int 4 0, .ref 535, .int 352 0, .int 4 0, .ref 542, .int 356 0, .int 4 0, .ref 550, .int 373 0, .int 4 0, .ref 558, .int 376 0, .int 4 0, .ref 566, .int 390 0, .int 4 0, .ref 574, .int 397 0, .int 4 0, .ref 582, .int 400 0, .int 4 0, .ref 589, .int 404 0, .int 4 0, .ref 596, .int 411 0, .int 4 0, .ref 603, .int 430 0, .int 4 0, .ref 610, .int 433 0, .int 4 0, .ref 617] }
noncomputable def hd382 (P : Params) : Obj :=
  { cls := .type "code", data := .fields #[.str "StringIO" 694, .str "StringIO" 695, .str "/claim/cut.py" 696, .int 230 0, .int 0 0, .int 0 0, .int 0 0, .int 0 0, .ref 380, .bool false, .int 273 0, .ref 381, .none, .none, .none, .none, .int 697 0, .int 230 0, .str "/claim/cut.py" 698] }
noncomputable def hd383 (P : Params) : Obj :=
  { cls := .type "frame", slots := #[some (.ref 382), some (.ref 3), some (.ref 379), none, some (.str "io" 322), none, some (.ref 0)] }
noncomputable def hd384 (P : Params) : Obj :=
  { cls := .type "tuple", data := .seq #[.str "" 706, .str (Str.ofString "\n") 707] }
noncomputable def hd385 (P : Params) : Obj :=
  { cls := .type "tuple", data := .seq #[] }
noncomputable def hd386 (P : Params) : Obj :=
  { cls := .none, data := .fields #[] }
noncomputable def hd387 (P : Params) : Obj :=
  { cls := .type "tuple", data := .seq #[.str "self" 711, .str "initial_value" 712, .str "newline" 713] }
noncomputable def hd388 (P : Params) : Obj :=
  { cls := .type "tuple", data := .seq #[] }
noncomputable def hd389 (P : Params) : Obj :=
  { cls := .none, data := .func { name := Str.ofString "__init__", qualname := Str.ofString "StringIO.__init__", params := (argsOf (methAt 15 1)), body := FuncBody.stmts (bodyOf (methAt 15 1)), scope := (scopeOf (methAt 15 1)), globals := 0, closure := [], defaults := .none, kwdefaults := .none } }
noncomputable def hd390 (P : Params) : Obj :=
  { cls := .type "code", data := .fields #[.str "__init__" 708, .str "StringIO.__init__" 709, .str "/claim/cut.py" 710, .int 233 0, .int 3 0, .int 0 0, .int 0 0, .int 3 0, .ref 385, .bool true, .int 273 0, .ref 386, .none, .ref 387, .ref 388, .ref 389, .int 714 0, .int 233 0, .str "/claim/cut.py" 715] }
noncomputable def hd391 (P : Params) : Obj :=
  { cls := .type "function", data := .func { name := Str.ofString "__init__", qualname := Str.ofString "StringIO.__init__", params := (argsOf (methAt 15 1)), body := FuncBody.stmts (bodyOf (methAt 15 1)), scope := (scopeOf (methAt 15 1)), globals := 3, closure := [], defaults := .ref 384, kwdefaults := .none, pyModule := .str "io" 322, code := .ref 390 } }
noncomputable def hd392 (P : Params) : Obj :=
  { cls := .type "tuple", data := .seq #[] }
noncomputable def hd393 (P : Params) : Obj :=
  { cls := .none, data := .fields #[] }
noncomputable def hd394 (P : Params) : Obj :=
  { cls := .type "tuple", data := .seq #[.str "self" 720, .str "s" 721, .str "newline" 722] }
noncomputable def hd395 (P : Params) : Obj :=
  { cls := .type "tuple", data := .seq #[] }
noncomputable def hd396 (P : Params) : Obj :=
  { cls := .none, data := .func { name := Str.ofString "__translated", qualname := Str.ofString "StringIO.__translated", params := (argsOf (methAt 15 2)), body := FuncBody.stmts (bodyOf (methAt 15 2)), scope := (scopeOf (methAt 15 2)), globals := 0, closure := [], defaults := .none, kwdefaults := .none } }
noncomputable def hd397 (P : Params) : Obj :=
  { cls := .type "code", data := .fields #[.str "__translated" 717, .str "StringIO.__translated" 718, .str "/claim/cut.py" 719, .int 246 0, .int 2 0, .int 0 0, .int 0 0, .int 3 0, .ref 392, .bool true, .int 273 0, .ref 393, .none, .ref 394, .ref 395, .ref 396, .int 723 0, .int 246 0, .str "/claim/cut.py" 724] }
noncomputable def hd398 (P : Params) : Obj :=
  { cls := .type "function", data := .func { name := Str.ofString "__translated", qualname := Str.ofString "StringIO.__translated", params := (argsOf (methAt 15 2)), body := FuncBody.stmts (bodyOf (methAt 15 2)), scope := (scopeOf (methAt 15 2)), globals := 3, closure := [], defaults := .none, kwdefaults := .none, pyModule := .str "io" 322, code := .ref 397 } }
noncomputable def hd399 (P : Params) : Obj :=
  { cls := .type "tuple", data := .seq #[] }
noncomputable def hd400 (P : Params) : Obj :=
  { cls := .none, data := .fields #[] }
noncomputable def hd401 (P : Params) : Obj :=
  { cls := .type "tuple", data := .seq #[.str "self" 729] }
noncomputable def hd402 (P : Params) : Obj :=
  { cls := .type "tuple", data := .seq #[] }
noncomputable def hd403 (P : Params) : Obj :=
  { cls := .none, data := .func { name := Str.ofString "__check", qualname := Str.ofString "StringIO.__check", params := (argsOf (methAt 15 3)), body := FuncBody.stmts (bodyOf (methAt 15 3)), scope := (scopeOf (methAt 14 2)), globals := 0, closure := [], defaults := .none, kwdefaults := .none } }
noncomputable def hd404 (P : Params) : Obj :=
  { cls := .type "code", data := .fields #[.str "__check" 726, .str "StringIO.__check" 727, .str "/claim/cut.py" 728, .int 254 0, .int 1 0, .int 0 0, .int 0 0, .int 3 0, .ref 399, .bool true, .int 273 0, .ref 400, .none, .ref 401, .ref 402, .ref 403, .int 730 0, .int 254 0, .str "/claim/cut.py" 731] }
noncomputable def hd405 (P : Params) : Obj :=
  { cls := .type "function", data := .func { name := Str.ofString "__check", qualname := Str.ofString "StringIO.__check", params := (argsOf (methAt 15 3)), body := FuncBody.stmts (bodyOf (methAt 15 3)), scope := (scopeOf (methAt 14 2)), globals := 3, closure := [], defaults := .none, kwdefaults := .none, pyModule := .str "io" 322, code := .ref 404 } }
noncomputable def hd406 (P : Params) : Obj :=
  { cls := .type "tuple", data := .seq #[] }
noncomputable def hd407 (P : Params) : Obj :=
  { cls := .none, data := .fields #[] }
noncomputable def hd408 (P : Params) : Obj :=
  { cls := .type "tuple", data := .seq #[.str "self" 736] }
noncomputable def hd409 (P : Params) : Obj :=
  { cls := .type "tuple", data := .seq #[] }
noncomputable def hd410 (P : Params) : Obj :=
  { cls := .none, data := .func { name := Str.ofString "__check_dot", qualname := Str.ofString "StringIO.__check_dot", params := (argsOf (methAt 15 4)), body := FuncBody.stmts (bodyOf (methAt 15 4)), scope := (scopeOf (methAt 14 2)), globals := 0, closure := [], defaults := .none, kwdefaults := .none } }
noncomputable def hd411 (P : Params) : Obj :=
  { cls := .type "code", data := .fields #[.str "__check_dot" 733, .str "StringIO.__check_dot" 734, .str "/claim/cut.py" 735, .int 258 0, .int 1 0, .int 0 0, .int 0 0, .int 3 0, .ref 406, .bool true, .int 273 0, .ref 407, .none, .ref 408, .ref 409, .ref 410, .int 737 0, .int 258 0, .str "/claim/cut.py" 738] }
noncomputable def hd412 (P : Params) : Obj :=
  { cls := .type "function", data := .func { name := Str.ofString "__check_dot", qualname := Str.ofString "StringIO.__check_dot", params := (argsOf (methAt 15 4)), body := FuncBody.stmts (bodyOf (methAt 15 4)), scope := (scopeOf (methAt 14 2)), globals := 3, closure := [], defaults := .none, kwdefaults := .none, pyModule := .str "io" 322, code := .ref 411 } }
noncomputable def hd413 (P : Params) : Obj :=
  { cls := .type "tuple", data := .seq #[] }
noncomputable def hd414 (P : Params) : Obj :=
  { cls := .none, data := .fields #[] }
noncomputable def hd415 (P : Params) : Obj :=
  { cls := .type "tuple", data := .seq #[.str "self" 743, .str "limit" 744, .str "start" 745, .str "stop" 746, .str "cut" 747, .str "newline" 748, .str "i" 749, .str "j" 750, .str "end" 751] }
noncomputable def hd416 (P : Params) : Obj :=
  { cls := .type "tuple", data := .seq #[] }
noncomputable def hd417 (P : Params) : Obj :=
  { cls := .none, data := .func { name := Str.ofString "__line", qualname := Str.ofString "StringIO.__line", params := (argsOf (methAt 15 5)), body := FuncBody.stmts (bodyOf (methAt 15 5)), scope := (scopeOf (methAt 15 5)), globals := 0, closure := [], defaults := .none, kwdefaults := .none } }
noncomputable def hd418 (P : Params) : Obj :=
  { cls := .type "code", data := .fields #[.str "__line" 740, .str "StringIO.__line" 741, .str "/claim/cut.py" 742, .int 262 0, .int 2 0, .int 0 0, .int 0 0, .int 3 0, .ref 413, .bool true, .int 273 0, .ref 414, .none, .ref 415, .ref 416, .ref 417, .int 752 0, .int 262 0, .str "/claim/cut.py" 753] }
noncomputable def hd419 (P : Params) : Obj :=
  { cls := .type "function", data := .func { name := Str.ofString "__line", qualname := Str.ofString "StringIO.__line", params := (argsOf (methAt 15 5)), body := FuncBody.stmts (bodyOf (methAt 15 5)), scope := (scopeOf (methAt 15 5)), globals := 3, closure := [], defaults := .none, kwdefaults := .none, pyModule := .str "io" 322, code := .ref 418 } }
noncomputable def hd420 (P : Params) : Obj :=
  { cls := .type "tuple", data := .seq #[] }
noncomputable def hd421 (P : Params) : Obj :=
  { cls := .none, data := .fields #[] }
noncomputable def hd422 (P : Params) : Obj :=
  { cls := .type "tuple", data := .seq #[.str "self" 758] }
noncomputable def hd423 (P : Params) : Obj :=
  { cls := .type "tuple", data := .seq #[] }
noncomputable def hd424 (P : Params) : Obj :=
  { cls := .none, data := .func { name := Str.ofString "closed", qualname := Str.ofString "StringIO.closed", params := (argsOf (methAt 15 6)), body := FuncBody.stmts (bodyOf (methAt 15 6)), scope := (scopeOf (methAt 14 4)), globals := 0, closure := [], defaults := .none, kwdefaults := .none } }
noncomputable def hd425 (P : Params) : Obj :=
  { cls := .type "code", data := .fields #[.str "closed" 755, .str "StringIO.closed" 756, .str "/claim/cut.py" 757, .int 294 0, .int 1 0, .int 0 0, .int 0 0, .int 3 0, .ref 420, .bool true, .int 273 0, .ref 421, .none, .ref 422, .ref 423, .ref 424, .int 759 0, .int 294 0, .str "/claim/cut.py" 760] }
noncomputable def hd426 (P : Params) : Obj :=
  { cls := .type "function", data := .func { name := Str.ofString "closed", qualname := Str.ofString "StringIO.closed", params := (argsOf (methAt 15 6)), body := FuncBody.stmts (bodyOf (methAt 15 6)), scope := (scopeOf (methAt 14 4)), globals := 3, closure := [], defaults := .none, kwdefaults := .none, pyModule := .str "io" 322, code := .ref 425 } }
noncomputable def hd427 (P : Params) : Obj :=
  { cls := .type "property", data := .fields #[.ref 426, .none, .none, .none, .str "closed" 762, .bool false] }
noncomputable def hd428 (P : Params) : Obj :=
  { cls := .type "tuple", data := .seq #[] }
noncomputable def hd429 (P : Params) : Obj :=
  { cls := .none, data := .fields #[] }
noncomputable def hd430 (P : Params) : Obj :=
  { cls := .type "tuple", data := .seq #[.str "self" 766] }
noncomputable def hd431 (P : Params) : Obj :=
  { cls := .type "tuple", data := .seq #[] }
noncomputable def hd432 (P : Params) : Obj :=
  { cls := .none, data := .func { name := Str.ofString "line_buffering", qualname := Str.ofString "StringIO.line_buffering", params := (argsOf (methAt 15 7)), body := FuncBody.stmts (bodyOf (methAt 15 7)), scope := (scopeOf (methAt 14 14)), globals := 0, closure := [], defaults := .none, kwdefaults := .none } }
noncomputable def hd433 (P : Params) : Obj :=
  { cls := .type "code", data := .fields #[.str "line_buffering" 763, .str "StringIO.line_buffering" 764, .str "/claim/cut.py" 765, .int 298 0, .int 1 0, .int 0 0, .int 0 0, .int 3 0, .ref 428, .bool true, .int 273 0, .ref 429, .none, .ref 430, .ref 431, .ref 432, .int 767 0, .int 298 0, .str "/claim/cut.py" 768] }
noncomputable def hd434 (P : Params) : Obj :=
  { cls := .type "function", data := .func { name := Str.ofString "line_buffering", qualname := Str.ofString "StringIO.line_buffering", params := (argsOf (methAt 15 7)), body := FuncBody.stmts (bodyOf (methAt 15 7)), scope := (scopeOf (methAt 14 14)), globals := 3, closure := [], defaults := .none, kwdefaults := .none, pyModule := .str "io" 322, code := .ref 433 } }
noncomputable def hd435 (P : Params) : Obj :=
  { cls := .type "property", data := .fields #[.ref 434, .none, .none, .none, .str "line_buffering" 770, .bool false] }
noncomputable def hd436 (P : Params) : Obj :=
  { cls := .type "tuple", data := .seq #[] }
noncomputable def hd437 (P : Params) : Obj :=
  { cls := .none, data := .fields #[] }
noncomputable def hd438 (P : Params) : Obj :=
  { cls := .type "tuple", data := .seq #[.str "self" 774] }
noncomputable def hd439 (P : Params) : Obj :=
  { cls := .type "tuple", data := .seq #[] }
noncomputable def hd440 (P : Params) : Obj :=
  { cls := .none, data := .func { name := Str.ofString "newlines", qualname := Str.ofString "StringIO.newlines", params := (argsOf (methAt 15 8)), body := FuncBody.stmts (bodyOf (methAt 15 8)), scope := (scopeOf (methAt 14 14)), globals := 0, closure := [], defaults := .none, kwdefaults := .none } }
noncomputable def hd441 (P : Params) : Obj :=
  { cls := .type "code", data := .fields #[.str "newlines" 771, .str "StringIO.newlines" 772, .str "/claim/cut.py" 773, .int 302 0, .int 1 0, .int 0 0, .int 0 0, .int 3 0, .ref 436, .bool true, .int 273 0, .ref 437, .none, .ref 438, .ref 439, .ref 440, .int 775 0, .int 302 0, .str "/claim/cut.py" 776] }
noncomputable def hd442 (P : Params) : Obj :=
  { cls := .type "function", data := .func { name := Str.ofString "newlines", qualname := Str.ofString "StringIO.newlines", params := (argsOf (methAt 15 8)), body := FuncBody.stmts (bodyOf (methAt 15 8)), scope := (scopeOf (methAt 14 14)), globals := 3, closure := [], defaults := .none, kwdefaults := .none, pyModule := .str "io" 322, code := .ref 441 } }
noncomputable def hd443 (P : Params) : Obj :=
  { cls := .type "property", data := .fields #[.ref 442, .none, .none, .none, .str "newlines" 778, .bool false] }
noncomputable def hd444 (P : Params) : Obj :=
  { cls := .type "tuple", data := .seq #[] }
noncomputable def hd445 (P : Params) : Obj :=
  { cls := .none, data := .fields #[] }
noncomputable def hd446 (P : Params) : Obj :=
  { cls := .type "tuple", data := .seq #[.str "self" 782] }
noncomputable def hd447 (P : Params) : Obj :=
  { cls := .type "tuple", data := .seq #[] }
noncomputable def hd448 (P : Params) : Obj :=
  { cls := .none, data := .func { name := Str.ofString "encoding", qualname := Str.ofString "StringIO.encoding", params := (argsOf (methAt 15 9)), body := FuncBody.stmts (bodyOf (methAt 15 9)), scope := (scopeOf (methAt 14 14)), globals := 0, closure := [], defaults := .none, kwdefaults := .none } }
noncomputable def hd449 (P : Params) : Obj :=
  { cls := .type "code", data := .fields #[.str "encoding" 779, .str "StringIO.encoding" 780, .str "/claim/cut.py" 781, .int 306 0, .int 1 0, .int 0 0, .int 0 0, .int 3 0, .ref 444, .bool true, .int 273 0, .ref 445, .none, .ref 446, .ref 447, .ref 448, .int 783 0, .int 306 0, .str "/claim/cut.py" 784] }
noncomputable def hd450 (P : Params) : Obj :=
  { cls := .type "function", data := .func { name := Str.ofString "encoding", qualname := Str.ofString "StringIO.encoding", params := (argsOf (methAt 15 9)), body := FuncBody.stmts (bodyOf (methAt 15 9)), scope := (scopeOf (methAt 14 14)), globals := 3, closure := [], defaults := .none, kwdefaults := .none, pyModule := .str "io" 322, code := .ref 449 } }
noncomputable def hd451 (P : Params) : Obj :=
  { cls := .type "property", data := .fields #[.ref 450, .none, .none, .none, .str "encoding" 786, .bool false] }
noncomputable def hd452 (P : Params) : Obj :=
  { cls := .type "tuple", data := .seq #[] }
noncomputable def hd453 (P : Params) : Obj :=
  { cls := .none, data := .fields #[] }
noncomputable def hd454 (P : Params) : Obj :=
  { cls := .type "tuple", data := .seq #[.str "self" 790] }
noncomputable def hd455 (P : Params) : Obj :=
  { cls := .type "tuple", data := .seq #[] }
noncomputable def hd456 (P : Params) : Obj :=
  { cls := .none, data := .func { name := Str.ofString "errors", qualname := Str.ofString "StringIO.errors", params := (argsOf (methAt 15 10)), body := FuncBody.stmts (bodyOf (methAt 15 10)), scope := (scopeOf (methAt 14 14)), globals := 0, closure := [], defaults := .none, kwdefaults := .none } }
noncomputable def hd457 (P : Params) : Obj :=
  { cls := .type "code", data := .fields #[.str "errors" 787, .str "StringIO.errors" 788, .str "/claim/cut.py" 789, .int 310 0, .int 1 0, .int 0 0, .int 0 0, .int 3 0, .ref 452, .bool true, .int 273 0, .ref 453, .none, .ref 454, .ref 455, .ref 456, .int 791 0, .int 310 0, .str "/claim/cut.py" 792] }
noncomputable def hd458 (P : Params) : Obj :=
  { cls := .type "function", data := .func { name := Str.ofString "errors", qualname := Str.ofString "StringIO.errors", params := (argsOf (methAt 15 10)), body := FuncBody.stmts (bodyOf (methAt 15 10)), scope := (scopeOf (methAt 14 14)), globals := 3, closure := [], defaults := .none, kwdefaults := .none, pyModule := .str "io" 322, code := .ref 457 } }
noncomputable def hd459 (P : Params) : Obj :=
  { cls := .type "property", data := .fields #[.ref 458, .none, .none, .none, .str "errors" 794, .bool false] }
noncomputable def hd460 (P : Params) : Obj :=
  { cls := .type "tuple", data := .seq #[] }
noncomputable def hd461 (P : Params) : Obj :=
  { cls := .none, data := .fields #[] }
noncomputable def hd462 (P : Params) : Obj :=
  { cls := .type "tuple", data := .seq #[.str "self" 798] }
noncomputable def hd463 (P : Params) : Obj :=
  { cls := .type "tuple", data := .seq #[] }
noncomputable def hd464 (P : Params) : Obj :=
  { cls := .none, data := .func { name := Str.ofString "close", qualname := Str.ofString "StringIO.close", params := (argsOf (methAt 15 11)), body := FuncBody.stmts (bodyOf (methAt 15 11)), scope := (scopeOf (methAt 14 4)), globals := 0, closure := [], defaults := .none, kwdefaults := .none } }
noncomputable def hd465 (P : Params) : Obj :=
  { cls := .type "code", data := .fields #[.str "close" 795, .str "StringIO.close" 796, .str "/claim/cut.py" 797, .int 314 0, .int 1 0, .int 0 0, .int 0 0, .int 3 0, .ref 460, .bool true, .int 273 0, .ref 461, .none, .ref 462, .ref 463, .ref 464, .int 799 0, .int 314 0, .str "/claim/cut.py" 800] }
noncomputable def hd466 (P : Params) : Obj :=
  { cls := .type "function", data := .func { name := Str.ofString "close", qualname := Str.ofString "StringIO.close", params := (argsOf (methAt 15 11)), body := FuncBody.stmts (bodyOf (methAt 15 11)), scope := (scopeOf (methAt 14 4)), globals := 3, closure := [], defaults := .none, kwdefaults := .none, pyModule := .str "io" 322, code := .ref 465 } }
noncomputable def hd467 (P : Params) : Obj :=
  { cls := .type "tuple", data := .seq #[] }
noncomputable def hd468 (P : Params) : Obj :=
  { cls := .none, data := .fields #[] }
noncomputable def hd469 (P : Params) : Obj :=
  { cls := .type "tuple", data := .seq #[.str "self" 805] }
noncomputable def hd470 (P : Params) : Obj :=
  { cls := .type "tuple", data := .seq #[] }
noncomputable def hd471 (P : Params) : Obj :=
  { cls := .none, data := .func { name := Str.ofString "__enter__", qualname := Str.ofString "StringIO.__enter__", params := (argsOf (methAt 15 12)), body := FuncBody.stmts (bodyOf (methAt 15 12)), scope := (scopeOf (methAt 14 4)), globals := 0, closure := [], defaults := .none, kwdefaults := .none } }
noncomputable def hd472 (P : Params) : Obj :=
  { cls := .type "code", data := .fields #[.str "__enter__" 802, .str "StringIO.__enter__" 803, .str "/claim/cut.py" 804, .int 317 0, .int 1 0, .int 0 0, .int 0 0, .int 3 0, .ref 467, .bool true, .int 273 0, .ref 468, .none, .ref 469, .ref 470, .ref 471, .int 806 0, .int 317 0, .str "/claim/cut.py" 807] }
noncomputable def hd473 (P : Params) : Obj :=
  { cls := .type "function", data := .func { name := Str.ofString "__enter__", qualname := Str.ofString "StringIO.__enter__", params := (argsOf (methAt 15 12)), body := FuncBody.stmts (bodyOf (methAt 15 12)), scope := (scopeOf (methAt 14 4)), globals := 3, closure := [], defaults := .none, kwdefaults := .none, pyModule := .str "io" 322, code := .ref 472 } }
noncomputable def hd474 (P : Params) : Obj :=
  { cls := .type "tuple", data := .seq #[] }
noncomputable def hd475 (P : Params) : Obj :=
  { cls := .none, data := .fields #[] }
noncomputable def hd476 (P : Params) : Obj :=
  { cls := .type "tuple", data := .seq #[.str "self" 812, .str "args" 813] }
noncomputable def hd477 (P : Params) : Obj :=
  { cls := .type "tuple", data := .seq #[] }
noncomputable def hd478 (P : Params) : Obj :=
  { cls := .none, data := .func { name := Str.ofString "__exit__", qualname := Str.ofString "StringIO.__exit__", params := (argsOf (methAt 15 13)), body := FuncBody.stmts (bodyOf (methAt 15 13)), scope := (scopeOf (methAt 14 7)), globals := 0, closure := [], defaults := .none, kwdefaults := .none } }
noncomputable def hd479 (P : Params) : Obj :=
  { cls := .type "code", data := .fields #[.str "__exit__" 809, .str "StringIO.__exit__" 810, .str "/claim/cut.py" 811, .int 321 0, .int 1 0, .int 0 0, .int 0 0, .int 7 0, .ref 474, .bool true, .int 273 0, .ref 475, .none, .ref 476, .ref 477, .ref 478, .int 814 0, .int 321 0, .str "/claim/cut.py" 815] }
noncomputable def hd480 (P : Params) : Obj :=
  { cls := .type "function", data := .func { name := Str.ofString "__exit__", qualname := Str.ofString "StringIO.__exit__", params := (argsOf (methAt 15 13)), body := FuncBody.stmts (bodyOf (methAt 15 13)), scope := (scopeOf (methAt 14 7)), globals := 3, closure := [], defaults := .none, kwdefaults := .none, pyModule := .str "io" 322, code := .ref 479 } }
noncomputable def hd481 (P : Params) : Obj :=
  { cls := .type "tuple", data := .seq #[] }
noncomputable def hd482 (P : Params) : Obj :=
  { cls := .none, data := .fields #[] }
noncomputable def hd483 (P : Params) : Obj :=
  { cls := .type "tuple", data := .seq #[.str "self" 820] }
noncomputable def hd484 (P : Params) : Obj :=
  { cls := .type "tuple", data := .seq #[] }
noncomputable def hd485 (P : Params) : Obj :=
  { cls := .none, data := .func { name := Str.ofString "readable", qualname := Str.ofString "StringIO.readable", params := (argsOf (methAt 15 14)), body := FuncBody.stmts (bodyOf (methAt 15 14)), scope := (scopeOf (methAt 14 4)), globals := 0, closure := [], defaults := .none, kwdefaults := .none } }
noncomputable def hd486 (P : Params) : Obj :=
  { cls := .type "code", data := .fields #[.str "readable" 817, .str "StringIO.readable" 818, .str "/claim/cut.py" 819, .int 324 0, .int 1 0, .int 0 0, .int 0 0, .int 3 0, .ref 481, .bool true, .int 273 0, .ref 482, .none, .ref 483, .ref 484, .ref 485, .int 821 0, .int 324 0, .str "/claim/cut.py" 822] }
noncomputable def hd487 (P : Params) : Obj :=
  { cls := .type "function", data := .func { name := Str.ofString "readable", qualname := Str.ofString "StringIO.readable", params := (argsOf (methAt 15 14)), body := FuncBody.stmts (bodyOf (methAt 15 14)), scope := (scopeOf (methAt 14 4)), globals := 3, closure := [], defaults := .none, kwdefaults := .none, pyModule := .str "io" 322, code := .ref 486 } }
noncomputable def hd488 (P : Params) : Obj :=
  { cls := .type "tuple", data := .seq #[] }
noncomputable def hd489 (P : Params) : Obj :=
  { cls := .none, data := .fields #[] }
noncomputable def hd490 (P : Params) : Obj :=
  { cls := .type "tuple", data := .seq #[.str "self" 827] }
noncomputable def hd491 (P : Params) : Obj :=
  { cls := .type "tuple", data := .seq #[] }
noncomputable def hd492 (P : Params) : Obj :=
  { cls := .none, data := .func { name := Str.ofString "writable", qualname := Str.ofString "StringIO.writable", params := (argsOf (methAt 15 15)), body := FuncBody.stmts (bodyOf (methAt 15 15)), scope := (scopeOf (methAt 14 4)), globals := 0, closure := [], defaults := .none, kwdefaults := .none } }
noncomputable def hd493 (P : Params) : Obj :=
  { cls := .type "code", data := .fields #[.str "writable" 824, .str "StringIO.writable" 825, .str "/claim/cut.py" 826, .int 328 0, .int 1 0, .int 0 0, .int 0 0, .int 3 0, .ref 488, .bool true, .int 273 0, .ref 489, .none, .ref 490, .ref 491, .ref 492, .int 828 0, .int 328 0, .str "/claim/cut.py" 829] }
noncomputable def hd494 (P : Params) : Obj :=
  { cls := .type "function", data := .func { name := Str.ofString "writable", qualname := Str.ofString "StringIO.writable", params := (argsOf (methAt 15 15)), body := FuncBody.stmts (bodyOf (methAt 15 15)), scope := (scopeOf (methAt 14 4)), globals := 3, closure := [], defaults := .none, kwdefaults := .none, pyModule := .str "io" 322, code := .ref 493 } }
noncomputable def hd495 (P : Params) : Obj :=
  { cls := .type "tuple", data := .seq #[] }
noncomputable def hd496 (P : Params) : Obj :=
  { cls := .none, data := .fields #[] }
noncomputable def hd497 (P : Params) : Obj :=
  { cls := .type "tuple", data := .seq #[.str "self" 834] }
noncomputable def hd498 (P : Params) : Obj :=
  { cls := .type "tuple", data := .seq #[] }
noncomputable def hd499 (P : Params) : Obj :=
  { cls := .none, data := .func { name := Str.ofString "seekable", qualname := Str.ofString "StringIO.seekable", params := (argsOf (methAt 15 16)), body := FuncBody.stmts (bodyOf (methAt 15 16)), scope := (scopeOf (methAt 14 4)), globals := 0, closure := [], defaults := .none, kwdefaults := .none } }
noncomputable def hd500 (P : Params) : Obj :=
  { cls := .type "code", data := .fields #[.str "seekable" 831, .str "StringIO.seekable" 832, .str "/claim/cut.py" 833, .int 332 0, .int 1 0, .int 0 0, .int 0 0, .int 3 0, .ref 495, .bool true, .int 273 0, .ref 496, .none, .ref 497, .ref 498, .ref 499, .int 835 0, .int 332 0, .str "/claim/cut.py" 836] }
noncomputable def hd501 (P : Params) : Obj :=
  { cls := .type "function", data := .func { name := Str.ofString "seekable", qualname := Str.ofString "StringIO.seekable", params := (argsOf (methAt 15 16)), body := FuncBody.stmts (bodyOf (methAt 15 16)), scope := (scopeOf (methAt 14 4)), globals := 3, closure := [], defaults := .none, kwdefaults := .none, pyModule := .str "io" 322, code := .ref 500 } }
noncomputable def hd502 (P : Params) : Obj :=
  { cls := .type "tuple", data := .seq #[] }
noncomputable def hd503 (P : Params) : Obj :=
  { cls := .none, data := .fields #[] }
noncomputable def hd504 (P : Params) : Obj :=
  { cls := .type "tuple", data := .seq #[.str "self" 841] }
noncomputable def hd505 (P : Params) : Obj :=
  { cls := .type "tuple", data := .seq #[] }
noncomputable def hd506 (P : Params) : Obj :=
  { cls := .none, data := .func { name := Str.ofString "isatty", qualname := Str.ofString "StringIO.isatty", params := (argsOf (methAt 15 17)), body := FuncBody.stmts (bodyOf (methAt 15 17)), scope := (scopeOf (methAt 14 4)), globals := 0, closure := [], defaults := .none, kwdefaults := .none } }
noncomputable def hd507 (P : Params) : Obj :=
  { cls := .type "code", data := .fields #[.str "isatty" 838, .str "StringIO.isatty" 839, .str "/claim/cut.py" 840, .int 336 0, .int 1 0, .int 0 0, .int 0 0, .int 3 0, .ref 502, .bool true, .int 273 0, .ref 503, .none, .ref 504, .ref 505, .ref 506, .int 842 0, .int 336 0, .str "/claim/cut.py" 843] }
noncomputable def hd508 (P : Params) : Obj :=
  { cls := .type "function", data := .func { name := Str.ofString "isatty", qualname := Str.ofString "StringIO.isatty", params := (argsOf (methAt 15 17)), body := FuncBody.stmts (bodyOf (methAt 15 17)), scope := (scopeOf (methAt 14 4)), globals := 3, closure := [], defaults := .none, kwdefaults := .none, pyModule := .str "io" 322, code := .ref 507 } }
noncomputable def hd509 (P : Params) : Obj :=
  { cls := .type "tuple", data := .seq #[] }
noncomputable def hd510 (P : Params) : Obj :=
  { cls := .none, data := .fields #[] }
noncomputable def hd511 (P : Params) : Obj :=
  { cls := .type "tuple", data := .seq #[.str "self" 848] }
noncomputable def hd512 (P : Params) : Obj :=
  { cls := .type "tuple", data := .seq #[] }
noncomputable def hd513 (P : Params) : Obj :=
  { cls := .none, data := .func { name := Str.ofString "flush", qualname := Str.ofString "StringIO.flush", params := (argsOf (methAt 15 18)), body := FuncBody.stmts (bodyOf (methAt 15 18)), scope := (scopeOf (methAt 14 4)), globals := 0, closure := [], defaults := .none, kwdefaults := .none } }
noncomputable def hd514 (P : Params) : Obj :=
  { cls := .type "code", data := .fields #[.str "flush" 845, .str "StringIO.flush" 846, .str "/claim/cut.py" 847, .int 340 0, .int 1 0, .int 0 0, .int 0 0, .int 3 0, .ref 509, .bool true, .int 273 0, .ref 510, .none, .ref 511, .ref 512, .ref 513, .int 849 0, .int 340 0, .str "/claim/cut.py" 850] }
noncomputable def hd515 (P : Params) : Obj :=
  { cls := .type "function", data := .func { name := Str.ofString "flush", qualname := Str.ofString "StringIO.flush", params := (argsOf (methAt 15 18)), body := FuncBody.stmts (bodyOf (methAt 15 18)), scope := (scopeOf (methAt 14 4)), globals := 3, closure := [], defaults := .none, kwdefaults := .none, pyModule := .str "io" 322, code := .ref 514 } }
noncomputable def hd516 (P : Params) : Obj :=
  { cls := .type "tuple", data := .seq #[] }
noncomputable def hd517 (P : Params) : Obj :=
  { cls := .none, data := .fields #[] }
noncomputable def hd518 (P : Params) : Obj :=
  { cls := .type "tuple", data := .seq #[.str "self" 855] }
noncomputable def hd519 (P : Params) : Obj :=
  { cls := .type "tuple", data := .seq #[] }
noncomputable def hd520 (P : Params) : Obj :=
  { cls := .none, data := .func { name := Str.ofString "fileno", qualname := Str.ofString "StringIO.fileno", params := (argsOf (methAt 15 19)), body := FuncBody.stmts (bodyOf (methAt 15 19)), scope := (scopeOf (methAt 14 13)), globals := 0, closure := [], defaults := .none, kwdefaults := .none } }
noncomputable def hd521 (P : Params) : Obj :=
  { cls := .type "code", data := .fields #[.str "fileno" 852, .str "StringIO.fileno" 853, .str "/claim/cut.py" 854, .int 343 0, .int 1 0, .int 0 0, .int 0 0, .int 3 0, .ref 516, .bool true, .int 273 0, .ref 517, .none, .ref 518, .ref 519, .ref 520, .int 856 0, .int 343 0, .str "/claim/cut.py" 857] }
noncomputable def hd522 (P : Params) : Obj :=
  { cls := .type "function", data := .func { name := Str.ofString "fileno", qualname := Str.ofString "StringIO.fileno", params := (argsOf (methAt 15 19)), body := FuncBody.stmts (bodyOf (methAt 15 19)), scope := (scopeOf (methAt 14 13)), globals := 3, closure := [], defaults := .none, kwdefaults := .none, pyModule := .str "io" 322, code := .ref 521 } }
noncomputable def hd523 (P : Params) : Obj :=
  { cls := .type "tuple", data := .seq #[] }
noncomputable def hd524 (P : Params) : Obj :=
  { cls := .none, data := .fields #[] }
noncomputable def hd525 (P : Params) : Obj :=
  { cls := .type "tuple", data := .seq #[.str "self" 862] }
noncomputable def hd526 (P : Params) : Obj :=
  { cls := .type "tuple", data := .seq #[] }
noncomputable def hd527 (P : Params) : Obj :=
  { cls := .none, data := .func { name := Str.ofString "detach", qualname := Str.ofString "StringIO.detach", params := (argsOf (methAt 15 20)), body := FuncBody.stmts (bodyOf (methAt 15 20)), scope := (scopeOf (methAt 14 14)), globals := 0, closure := [], defaults := .none, kwdefaults := .none } }
noncomputable def hd528 (P : Params) : Obj :=
  { cls := .type "code", data := .fields #[.str "detach" 859, .str "StringIO.detach" 860, .str "/claim/cut.py" 861, .int 346 0, .int 1 0, .int 0 0, .int 0 0, .int 3 0, .ref 523, .bool true, .int 273 0, .ref 524, .none, .ref 525, .ref 526, .ref 527, .int 863 0, .int 346 0, .str "/claim/cut.py" 864] }
noncomputable def hd529 (P : Params) : Obj :=
  { cls := .type "function", data := .func { name := Str.ofString "detach", qualname := Str.ofString "StringIO.detach", params := (argsOf (methAt 15 20)), body := FuncBody.stmts (bodyOf (methAt 15 20)), scope := (scopeOf (methAt 14 14)), globals := 3, closure := [], defaults := .none, kwdefaults := .none, pyModule := .str "io" 322, code := .ref 528 } }
noncomputable def hd530 (P : Params) : Obj :=
  { cls := .type "tuple", data := .seq #[] }
noncomputable def hd531 (P : Params) : Obj :=
  { cls := .none, data := .fields #[] }
noncomputable def hd532 (P : Params) : Obj :=
  { cls := .type "tuple", data := .seq #[.str "self" 869] }
noncomputable def hd533 (P : Params) : Obj :=
  { cls := .type "tuple", data := .seq #[] }
noncomputable def hd534 (P : Params) : Obj :=
  { cls := .none, data := .func { name := Str.ofString "getvalue", qualname := Str.ofString "StringIO.getvalue", params := (argsOf (methAt 15 21)), body := FuncBody.stmts (bodyOf (methAt 15 21)), scope := (scopeOf (methAt 14 14)), globals := 0, closure := [], defaults := .none, kwdefaults := .none } }
noncomputable def hd535 (P : Params) : Obj :=
  { cls := .type "code", data := .fields #[.str "getvalue" 866, .str "StringIO.getvalue" 867, .str "/claim/cut.py" 868, .int 349 0, .int 1 0, .int 0 0, .int 0 0, .int 3 0, .ref 530, .bool true, .int 273 0, .ref 531, .none, .ref 532, .ref 533, .ref 534, .int 870 0, .int 349 0, .str "/claim/cut.py" 871] }
noncomputable def hd536 (P : Params) : Obj :=
  { cls := .type "function", data := .func { name := Str.ofString "getvalue", qualname := Str.ofString "StringIO.getvalue", params := (argsOf (methAt 15 21)), body := FuncBody.stmts (bodyOf (methAt 15 21)), scope := (scopeOf (methAt 14 14)), globals := 3, closure := [], defaults := .none, kwdefaults := .none, pyModule := .str "io" 322, code := .ref 535 } }
noncomputable def hd537 (P : Params) : Obj :=
  { cls := .type "tuple", data := .seq #[] }
noncomputable def hd538 (P : Params) : Obj :=
  { cls := .none, data := .fields #[] }
noncomputable def hd539 (P : Params) : Obj :=
  { cls := .type "tuple", data := .seq #[.str "self" 876] }
noncomputable def hd540 (P : Params) : Obj :=
  { cls := .type "tuple", data := .seq #[] }
noncomputable def hd541 (P : Params) : Obj :=
  { cls := .none, data := .func { name := Str.ofString "tell", qualname := Str.ofString "StringIO.tell", params := (argsOf (methAt 15 22)), body := FuncBody.stmts (bodyOf (methAt 15 22)), scope := (scopeOf (methAt 14 4)), globals := 0, closure := [], defaults := .none, kwdefaults := .none } }
noncomputable def hd542 (P : Params) : Obj :=
  { cls := .type "code", data := .fields #[.str "tell" 873, .str "StringIO.tell" 874, .str "/claim/cut.py" 875, .int 352 0, .int 1 0, .int 0 0, .int 0 0, .int 3 0, .ref 537, .bool true, .int 273 0, .ref 538, .none, .ref 539, .ref 540, .ref 541, .int 877 0, .int 352 0, .str "/claim/cut.py" 878] }
noncomputable def hd543 (P : Params) : Obj :=
  { cls := .type "function", data := .func { name := Str.ofString "tell", qualname := Str.ofString "StringIO.tell", params := (argsOf (methAt 15 22)), body := FuncBody.stmts (bodyOf (methAt 15 22)), scope := (scopeOf (methAt 14 4)), globals := 3, closure := [], defaults := .none, kwdefaults := .none, pyModule := .str "io" 322, code := .ref 542 } }
noncomputable def hd544 (P : Params) : Obj :=
  { cls := .type "tuple", data := .seq #[.int 0 880] }
noncomputable def hd545 (P : Params) : Obj :=
  { cls := .type "tuple", data := .seq #[] }
noncomputable def hd546 (P : Params) : Obj :=
  { cls := .none, data := .fields #[] }
noncomputable def hd547 (P : Params) : Obj :=
  { cls := .type "tuple", data := .seq #[.str "self" 884, .str "pos" 885, .str "whence" 886] }
noncomputable def hd548 (P : Params) : Obj :=
  { cls := .type "tuple", data := .seq #[] }
noncomputable def hd549 (P : Params) : Obj :=
  { cls := .none, data := .func { name := Str.ofString "seek", qualname := Str.ofString "StringIO.seek", params := (argsOf (methAt 15 23)), body := FuncBody.stmts (bodyOf (methAt 15 23)), scope := (scopeOf (methAt 15 23)), globals := 0, closure := [], defaults := .none, kwdefaults := .none } }
noncomputable def hd550 (P : Params) : Obj :=
  { cls := .type "code", data := .fields #[.str "seek" 881, .str "StringIO.seek" 882, .str "/claim/cut.py" 883, .int 356 0, .int 3 0, .int 3 0, .int 0 0, .int 3 0, .ref 545, .bool true, .int 273 0, .ref 546, .none, .ref 547, .ref 548, .ref 549, .int 887 0, .int 356 0, .str "/claim/cut.py" 888] }
noncomputable def hd551 (P : Params) : Obj :=
  { cls := .type "function", data := .func { name := Str.ofString "seek", qualname := Str.ofString "StringIO.seek", params := (argsOf (methAt 15 23)), body := FuncBody.stmts (bodyOf (methAt 15 23)), scope := (scopeOf (methAt 15 23)), globals := 3, closure := [], defaults := .ref 544, kwdefaults := .none, pyModule := .str "io" 322, code := .ref 550 } }
noncomputable def hd552 (P : Params) : Obj :=
  { cls := .type "tuple", data := .seq #[.none] }
noncomputable def hd553 (P : Params) : Obj :=
  { cls := .type "tuple", data := .seq #[] }
noncomputable def hd554 (P : Params) : Obj :=
  { cls := .none, data := .fields #[] }
noncomputable def hd555 (P : Params) : Obj :=
  { cls := .type "tuple", data := .seq #[.str "self" 893, .str "pos" 894] }
noncomputable def hd556 (P : Params) : Obj :=
  { cls := .type "tuple", data := .seq #[] }
noncomputable def hd557 (P : Params) : Obj :=
  { cls := .none, data := .func { name := Str.ofString "truncate", qualname := Str.ofString "StringIO.truncate", params := (argsOf (methAt 15 24)), body := FuncBody.stmts (bodyOf (methAt 15 24)), scope := (scopeOf (methAt 15 24)), globals := 0, closure := [], defaults := .none, kwdefaults := .none } }
noncomputable def hd558 (P : Params) : Obj :=
  { cls := .type "code", data := .fields #[.str "truncate" 890, .str "StringIO.truncate" 891, .str "/claim/cut.py" 892, .int 373 0, .int 2 0, .int 2 0, .int 0 0, .int 3 0, .ref 553, .bool true, .int 273 0, .ref 554, .none, .ref 555, .ref 556, .ref 557, .int 895 0, .int 373 0, .str "/claim/cut.py" 896] }
noncomputable def hd559 (P : Params) : Obj :=
  { cls := .type "function", data := .func { name := Str.ofString "truncate", qualname := Str.ofString "StringIO.truncate", params := (argsOf (methAt 15 24)), body := FuncBody.stmts (bodyOf (methAt 15 24)), scope := (scopeOf (methAt 15 24)), globals := 3, closure := [], defaults := .ref 552, kwdefaults := .none, pyModule := .str "io" 322, code := .ref 558 } }
noncomputable def hd560 (P : Params) : Obj :=
  { cls := .type "tuple", data := .seq #[.int (-1) 899] }
noncomputable def hd561 (P : Params) : Obj :=
  { cls := .type "tuple", data := .seq #[] }
noncomputable def hd562 (P : Params) : Obj :=
  { cls := .none, data := .fields #[] }
noncomputable def hd563 (P : Params) : Obj :=
  { cls := .type "tuple", data := .seq #[.str "self" 903, .str "size" 904, .str "start" 905, .str "stop" 906] }
noncomputable def hd564 (P : Params) : Obj :=
  { cls := .type "tuple", data := .seq #[] }
noncomputable def hd565 (P : Params) : Obj :=
  { cls := .none, data := .func { name := Str.ofString "read", qualname := Str.ofString "StringIO.read", params := (argsOf (methAt 15 25)), body := FuncBody.stmts (bodyOf (methAt 15 25)), scope := (scopeOf (methAt 15 25)), globals := 0, closure := [], defaults := .none, kwdefaults := .none } }
noncomputable def hd566 (P : Params) : Obj :=
  { cls := .type "code", data := .fields #[.str "read" 900, .str "StringIO.read" 901, .str "/claim/cut.py" 902, .int 376 0, .int 2 0, .int 2 0, .int 0 0, .int 3 0, .ref 561, .bool true, .int 273 0, .ref 562, .none, .ref 563, .ref 564, .ref 565, .int 907 0, .int 376 0, .str "/claim/cut.py" 908] }
noncomputable def hd567 (P : Params) : Obj :=
  { cls := .type "function", data := .func { name := Str.ofString "read", qualname := Str.ofString "StringIO.read", params := (argsOf (methAt 15 25)), body := FuncBody.stmts (bodyOf (methAt 15 25)), scope := (scopeOf (methAt 15 25)), globals := 3, closure := [], defaults := .ref 560, kwdefaults := .none, pyModule := .str "io" 322, code := .ref 566 } }
noncomputable def hd568 (P : Params) : Obj :=
  { cls := .type "tuple", data := .seq #[.int (-1) 911] }
noncomputable def hd569 (P : Params) : Obj :=
  { cls := .type "tuple", data := .seq #[] }
noncomputable def hd570 (P : Params) : Obj :=
  { cls := .none, data := .fields #[] }
noncomputable def hd571 (P : Params) : Obj :=
  { cls := .type "tuple", data := .seq #[.str "self" 915, .str "size" 916] }
noncomputable def hd572 (P : Params) : Obj :=
  { cls := .type "tuple", data := .seq #[] }
noncomputable def hd573 (P : Params) : Obj :=
  { cls := .none, data := .func { name := Str.ofString "readline", qualname := Str.ofString "StringIO.readline", params := (argsOf (methAt 15 26)), body := FuncBody.stmts (bodyOf (methAt 15 26)), scope := (scopeOf (methAt 14 24)), globals := 0, closure := [], defaults := .none, kwdefaults := .none } }
noncomputable def hd574 (P : Params) : Obj :=
  { cls := .type "code", data := .fields #[.str "readline" 912, .str "StringIO.readline" 913, .str "/claim/cut.py" 914, .int 390 0, .int 2 0, .int 2 0, .int 0 0, .int 3 0, .ref 569, .bool true, .int 273 0, .ref 570, .none, .ref 571, .ref 572, .ref 573, .int 917 0, .int 390 0, .str "/claim/cut.py" 918] }
noncomputable def hd575 (P : Params) : Obj :=
  { cls := .type "function", data := .func { name := Str.ofString "readline", qualname := Str.ofString "StringIO.readline", params := (argsOf (methAt 15 26)), body := FuncBody.stmts (bodyOf (methAt 15 26)), scope := (scopeOf (methAt 14 24)), globals := 3, closure := [], defaults := .ref 568, kwdefaults := .none, pyModule := .str "io" 322, code := .ref 574 } }
noncomputable def hd576 (P : Params) : Obj :=
  { cls := .type "tuple", data := .seq #[.int (-1) 921] }
noncomputable def hd577 (P : Params) : Obj :=
  { cls := .type "tuple", data := .seq #[] }
noncomputable def hd578 (P : Params) : Obj :=
  { cls := .none, data := .fields #[] }
noncomputable def hd579 (P : Params) : Obj :=
  { cls := .type "tuple", data := .seq #[.str "self" 925, .str "hint" 926] }
noncomputable def hd580 (P : Params) : Obj :=
  { cls := .type "tuple", data := .seq #[] }
noncomputable def hd581 (P : Params) : Obj :=
  { cls := .none, data := .func { name := Str.ofString "readlines", qualname := Str.ofString "StringIO.readlines", params := (argsOf (methAt 15 27)), body := FuncBody.stmts (bodyOf (methAt 15 27)), scope := (scopeOf (methAt 15 27)), globals := 0, closure := [], defaults := .none, kwdefaults := .none } }
noncomputable def hd582 (P : Params) : Obj :=
  { cls := .type "code", data := .fields #[.str "readlines" 922, .str "StringIO.readlines" 923, .str "/claim/cut.py" 924, .int 397 0, .int 2 0, .int 2 0, .int 0 0, .int 3 0, .ref 577, .bool true, .int 273 0, .ref 578, .none, .ref 579, .ref 580, .ref 581, .int 927 0, .int 397 0, .str "/claim/cut.py" 928] }
noncomputable def hd583 (P : Params) : Obj :=
  { cls := .type "function", data := .func { name := Str.ofString "readlines", qualname := Str.ofString "StringIO.readlines", params := (argsOf (methAt 15 27)), body := FuncBody.stmts (bodyOf (methAt 15 27)), scope := (scopeOf (methAt 15 27)), globals := 3, closure := [], defaults := .ref 576, kwdefaults := .none, pyModule := .str "io" 322, code := .ref 582 } }
noncomputable def hd584 (P : Params) : Obj :=
  { cls := .type "tuple", data := .seq #[] }
noncomputable def hd585 (P : Params) : Obj :=
  { cls := .none, data := .fields #[] }
noncomputable def hd586 (P : Params) : Obj :=
  { cls := .type "tuple", data := .seq #[.str "self" 933] }
noncomputable def hd587 (P : Params) : Obj :=
  { cls := .type "tuple", data := .seq #[] }
noncomputable def hd588 (P : Params) : Obj :=
  { cls := .none, data := .func { name := Str.ofString "__iter__", qualname := Str.ofString "StringIO.__iter__", params := (argsOf (methAt 15 28)), body := FuncBody.stmts (bodyOf (methAt 15 28)), scope := (scopeOf (methAt 14 4)), globals := 0, closure := [], defaults := .none, kwdefaults := .none } }
noncomputable def hd589 (P : Params) : Obj :=
  { cls := .type "code", data := .fields #[.str "__iter__" 930, .str "StringIO.__iter__" 931, .str "/claim/cut.py" 932, .int 400 0, .int 1 0, .int 0 0, .int 0 0, .int 3 0, .ref 584, .bool true, .int 273 0, .ref 585, .none, .ref 586, .ref 587, .ref 588, .int 934 0, .int 400 0, .str "/claim/cut.py" 935] }
noncomputable def hd590 (P : Params) : Obj :=
  { cls := .type "function", data := .func { name := Str.ofString "__iter__", qualname := Str.ofString "StringIO.__iter__", params := (argsOf (methAt 15 28)), body := FuncBody.stmts (bodyOf (methAt 15 28)), scope := (scopeOf (methAt 14 4)), globals := 3, closure := [], defaults := .none, kwdefaults := .none, pyModule := .str "io" 322, code := .ref 589 } }
noncomputable def hd591 (P : Params) : Obj :=
  { cls := .type "tuple", data := .seq #[] }
noncomputable def hd592 (P : Params) : Obj :=
  { cls := .none, data := .fields #[] }
noncomputable def hd593 (P : Params) : Obj :=
  { cls := .type "tuple", data := .seq #[.str "self" 940, .str "line" 941] }
noncomputable def hd594 (P : Params) : Obj :=
  { cls := .type "tuple", data := .seq #[] }
noncomputable def hd595 (P : Params) : Obj :=
  { cls := .none, data := .func { name := Str.ofString "__next__", qualname := Str.ofString "StringIO.__next__", params := (argsOf (methAt 15 29)), body := FuncBody.stmts (bodyOf (methAt 15 29)), scope := (scopeOf (methAt 14 27)), globals := 0, closure := [], defaults := .none, kwdefaults := .none } }
noncomputable def hd596 (P : Params) : Obj :=
  { cls := .type "code", data := .fields #[.str "__next__" 937, .str "StringIO.__next__" 938, .str "/claim/cut.py" 939, .int 404 0, .int 1 0, .int 0 0, .int 0 0, .int 3 0, .ref 591, .bool true, .int 273 0, .ref 592, .none, .ref 593, .ref 594, .ref 595, .int 942 0, .int 404 0, .str "/claim/cut.py" 943] }
noncomputable def hd597 (P : Params) : Obj :=
  { cls := .type "function", data := .func { name := Str.ofString "__next__", qualname := Str.ofString "StringIO.__next__", params := (argsOf (methAt 15 29)), body := FuncBody.stmts (bodyOf (methAt 15 29)), scope := (scopeOf (methAt 14 27)), globals := 3, closure := [], defaults := .none, kwdefaults := .none, pyModule := .str "io" 322, code := .ref 596 } }
noncomputable def hd598 (P : Params) : Obj :=
  { cls := .type "tuple", data := .seq #[] }
noncomputable def hd599 (P : Params) : Obj :=
  { cls := .none, data := .fields #[] }
noncomputable def hd600 (P : Params) : Obj :=
  { cls := .type "tuple", data := .seq #[.str "self" 948, .str "s" 949, .str "n" 950, .str "m" 951, .str "start" 952, .str "buf" 953] }
noncomputable def hd601 (P : Params) : Obj :=
  { cls := .type "tuple", data := .seq #[] }
noncomputable def hd602 (P : Params) : Obj :=
  { cls := .none, data := .func { name := Str.ofString "write", qualname := Str.ofString "StringIO.write", params := (argsOf (methAt 15 30)), body := FuncBody.stmts (bodyOf (methAt 15 30)), scope := (scopeOf (methAt 15 30)), globals := 0, closure := [], defaults := .none, kwdefaults := .none } }
noncomputable def hd603 (P : Params) : Obj :=
  { cls := .type "code", data := .fields #[.str "write" 945, .str "StringIO.write" 946, .str "/claim/cut.py" 947, .int 411 0, .int 2 0, .int 2 0, .int 0 0, .int 3 0, .ref 598, .bool true, .int 273 0, .ref 599, .none, .ref 600, .ref 601, .ref 602, .int 954 0, .int 411 0, .str "/claim/cut.py" 955] }
noncomputable def hd604 (P : Params) : Obj :=
  { cls := .type "function", data := .func { name := Str.ofString "write", qualname := Str.ofString "StringIO.write", params := (argsOf (methAt 15 30)), body := FuncBody.stmts (bodyOf (methAt 15 30)), scope := (scopeOf (methAt 15 30)), globals := 3, closure := [], defaults := .none, kwdefaults := .none, pyModule := .str "io" 322, code := .ref 603 } }
noncomputable def hd605 (P : Params) : Obj :=
  { cls := .type "tuple", data := .seq #[] }
noncomputable def hd606 (P : Params) : Obj :=
  { cls := .none, data := .fields #[] }
noncomputable def hd607 (P : Params) : Obj :=
  { cls := .type "tuple", data := .seq #[.str "self" 960, .str "lines" 961] }
noncomputable def hd608 (P : Params) : Obj :=
  { cls := .type "tuple", data := .seq #[] }
noncomputable def hd609 (P : Params) : Obj :=
  { cls := .none, data := .func { name := Str.ofString "writelines", qualname := Str.ofString "StringIO.writelines", params := (argsOf (methAt 15 31)), body := FuncBody.stmts (bodyOf (methAt 15 31)), scope := (scopeOf (methAt 14 29)), globals := 0, closure := [], defaults := .none, kwdefaults := .none } }
noncomputable def hd610 (P : Params) : Obj :=
  { cls := .type "code", data := .fields #[.str "writelines" 957, .str "StringIO.writelines" 958, .str "/claim/cut.py" 959, .int 430 0, .int 2 0, .int 2 0, .int 0 0, .int 3 0, .ref 605, .bool true, .int 273 0, .ref 606, .none, .ref 607, .ref 608, .ref 609, .int 962 0, .int 430 0, .str "/claim/cut.py" 963] }
noncomputable def hd611 (P : Params) : Obj :=
  { cls := .type "function", data := .func { name := Str.ofString "writelines", qualname := Str.ofString "StringIO.writelines", params := (argsOf (methAt 15 31)), body := FuncBody.stmts (bodyOf (methAt 15 31)), scope := (scopeOf (methAt 14 29)), globals := 3, closure := [], defaults := .none, kwdefaults := .none, pyModule := .str "io" 322, code := .ref 610 } }
noncomputable def hd612 (P : Params) : Obj :=
  { cls := .type "tuple", data := .seq #[] }
noncomputable def hd613 (P : Params) : Obj :=
  { cls := .none, data := .fields #[] }
noncomputable def hd614 (P : Params) : Obj :=
  { cls := .type "tuple", data := .seq #[.str "self" 968] }
noncomputable def hd615 (P : Params) : Obj :=
  { cls := .type "tuple", data := .seq #[] }
noncomputable def hd616 (P : Params) : Obj :=
  { cls := .none, data := .func { name := Str.ofString "__repr__", qualname := Str.ofString "StringIO.__repr__", params := (argsOf (methAt 15 32)), body := FuncBody.stmts (bodyOf (methAt 15 32)), scope := (scopeOf (methAt 14 14)), globals := 0, closure := [], defaults := .none, kwdefaults := .none } }
noncomputable def hd617 (P : Params) : Obj :=
  { cls := .type "code", data := .fields #[.str "__repr__" 965, .str "StringIO.__repr__" 966, .str "/claim/cut.py" 967, .int 433 0, .int 1 0, .int 0 0, .int 0 0, .int 3 0, .ref 612, .bool true, .int 273 0, .ref 613, .none, .ref 614, .ref 615, .ref 616, .int 969 0, .int 433 0, .str "/claim/cut.py" 970] }
noncomputable def hd618 (P : Params) : Obj :=
  { cls := .type "function", data := .func { name := Str.ofString "__repr__", qualname := Str.ofString "StringIO.__repr__", params := (argsOf (methAt 15 32)), body := FuncBody.stmts (bodyOf (methAt 15 32)), scope := (scopeOf (methAt 14 14)), globals := 3, closure := [], defaults := .none, kwdefaults := .none, pyModule := .str "io" 322, code := .ref 617 } }
noncomputable def hd619 (P : Params) : Obj :=
  { cls := .type "tuple", data := .seq #[.str "__buf" 972, .str "__newline" 973, .str "__pos" 974] }
noncomputable def hd620 (P : Params) : Obj :=
  { cls := .type "dict", data := .dict #[⟨keyHash P "__module__", .str "__module__" 699, .str "_io" 704⟩, ⟨keyHash P "__firstlineno__", .str "__firstlineno__" 703, .int 230 702⟩, ⟨keyHash P "__init__", .str "__init__" 716, .ref 391⟩, ⟨keyHash P "_StringIO__translated", .str "_StringIO__translated" 725, .ref 398⟩, ⟨keyHash P "_StringIO__check", .str "_StringIO__check" 732, .ref 405⟩, ⟨keyHash P "_StringIO__check_dot", .str "_StringIO__check_dot" 739, .ref 412⟩, ⟨keyHash P "_StringIO__line", .str "_StringIO__line" 754, .ref 419⟩, ⟨keyHash P "closed", .str "closed" 762, .ref 427⟩, ⟨keyHash P "line_buffering", .str "line_buffering" 770, .ref 435⟩, ⟨keyHash P "newlines", .str "newlines" 778, .ref 443⟩, ⟨keyHash P "encoding", .str "encoding" 786, .ref 451⟩, ⟨keyHash P "errors", .str "errors" 794, .ref 459⟩, ⟨keyHash P "close", .str "close" 801, .ref 466⟩, ⟨keyHash P "__enter__", .str "__enter__" 808, .ref 473⟩, ⟨keyHash P "__exit__", .str "__exit__" 816, .ref 480⟩, ⟨keyHash P "readable", .str "readable" 823, .ref 487⟩, ⟨keyHash P "writable", .str "writable" 830, .ref 494⟩, ⟨keyHash P "seekable", .str "seekable" 837, .ref 501⟩, ⟨keyHash P "isatty", .str "isatty" 844, .ref 508⟩, ⟨keyHash P "flush", .str "flush" 851, .ref 515⟩, ⟨keyHash P "fileno", .str "fileno" 858, .ref 522⟩, ⟨keyHash P "detach", .str "detach" 865, .ref 529⟩, ⟨keyHash P "getvalue", .str "getvalue" 872, .ref 536⟩, ⟨keyHash P "tell", .str "tell" 879, .ref 543⟩, ⟨keyHash P "seek", .str "seek" 889, .ref 551⟩, ⟨keyHash P "truncate", .str "truncate" 897, .ref 559⟩, ⟨keyHash P "read", .str "read" 909, .ref 567⟩, ⟨keyHash P "readline", .str "readline" 919, .ref 575⟩, ⟨keyHash P "readlines", .str "readlines" 929, .ref 583⟩, ⟨keyHash P "__iter__", .str "__iter__" 936, .ref 590⟩, ⟨keyHash P "__next__", .str "__next__" 944, .ref 597⟩, ⟨keyHash P "write", .str "write" 956, .ref 604⟩, ⟨keyHash P "writelines", .str "writelines" 964, .ref 611⟩, ⟨keyHash P "__repr__", .str "__repr__" 971, .ref 618⟩, ⟨keyHash P "__static_attributes__", .str "__static_attributes__" 975, .ref 619⟩, ⟨keyHash P "__doc__", .str "__doc__" 976, .none⟩] 2 }
noncomputable def hd621 (P : Params) : Obj :=
  { cls := .type "type", data := .cls { name := Str.ofString "StringIO", bases := [.ref 144], mro := [.ref 621, .ref 144, .ref 117, .type "object"], ns := 620, qualname := Str.ofString "StringIO" }, slots := #[some (.ref 377), none, some (.str "StringIO" 692), some (.str "StringIO" 700), some .none, some (.bool true)] }
noncomputable def hd622 (P : Params) : Obj :=
  { cls := .type "super", data := .fields #[.ref 621, .ref 621, .ref 621] }
noncomputable def hd623 (P : Params) : Obj :=
  { cls := .type "builtin_function_or_method", data := .fields #[.builtin "object.__init_subclass__", .ref 621] }
noncomputable def tD (P : Params) : BT := (.node (hb0 P) (.node (hb1 P) (.node (hd3 P) (.node (hb7 P) (.node (hb15 P) (.node (hb31 P) (.node (hb63 P) (.node (hb127 P) (.node (hc255 P) (.node (hd511 P) .nil .nil) .nil) (.node (hd383 P) .nil .nil)) (.node (hc191 P) (.node (hc319 P) (.node (hd575 P) .nil .nil) .nil) (.node (hd447 P) .nil .nil))) (.node (hb95 P) (.node (hc159 P) (.node (hc287 P) (.node (hd543 P) .nil .nil) .nil) (.node (hd415 P) .nil .nil)) (.node (hc223 P) (.node (hc351 P) (.node (hd607 P) .nil .nil) .nil) (.node (hd479 P) .nil .nil)))) (.node (hb47 P) (.node (hb79 P) (.node (hb143 P) (.node (hc271 P) (.node (hd527 P) .nil .nil) .nil) (.node (hd399 P) .nil .nil)) (.node (hc207 P) (.node (hc335 P) (.node (hd591 P) .nil .nil) .nil) (.node (hd463 P) .nil .nil))) (.node (hb111 P) (.node (hc175 P) (.node (hc303 P) (.node (hd559 P) .nil .nil) .nil) (.node (hd431 P) .nil .nil)) (.node (hc239 P) (.node (hc367 P) (.node (hd623 P) .nil .nil) .nil) (.node (hd495 P) .nil .nil))))) (.node (hb23 P) (.node (hb39 P) (.node (hb71 P) (.node (hb135 P) (.node (hc263 P) (.node (hd519 P) .nil .nil) .nil) (.node (hd391 P) .nil .nil)) (.node (hc199 P) (.node (hc327 P) (.node (hd583 P) .nil .nil) .nil) (.node (hd455 P) .nil .nil))) (.node (hb103 P) (.node (hc167 P) (.node (hc295 P) (.node (hd551 P) .nil .nil) .nil) (.node (hd423 P) .nil .nil)) (.node (hc231 P) (.node (hc359 P) (.node (hd615 P) .nil .nil) .nil) (.node (hd487 P) .nil .nil)))) (.node (hb55 P) (.node (hb87 P) (.node (hc151 P) (.node (hc279 P) (.node (hd535 P) .nil .nil) .nil) (.node (hd407 P) .nil .nil)) (.node (hc215 P) (.node (hc343 P) (.node (hd599 P) .nil .nil) .nil) (.node (hd471 P) .nil .nil))) (.node (hb119 P) (.node (hc183 P) (.node (hc311 P) (.node (hd567 P) .nil .nil) .nil) (.node (hd439 P) .nil .nil)) (.node (hc247 P) (.node (hc375 P) .nil .nil) (.node (hd503 P) .nil .nil)))))) (.node (hb11 P) (.node (hb19 P) (.node (hb35 P) (.node (hb67 P) (.node (hb131 P) (.node (hc259 P) (.node (hd515 P) .nil .nil) .nil) (.node (hd387 P) .nil .nil)) (.node (hc195 P) (.node (hc323 P) (.node (hd579 P) .nil .nil) .nil) (.node (hd451 P) .nil .nil))) (.node (hb99 P) (.node (hc163 P) (.node (hc291 P) (.node (hd547 P) .nil .nil) .nil) (.node (hd419 P) .nil .nil)) (.node (hc227 P) (.node (hc355 P) (.node (hd611 P) .nil .nil) .nil) (.node (hd483 P) .nil .nil)))) (.node (hb51 P) (.node (hb83 P) (.node (hc147 P) (.node (hc275 P) (.node (hd531 P) .nil .nil) .nil) (.node (hd403 P) .nil .nil)) (.node (hc211 P) (.node (hc339 P) (.node (hd595 P) .nil .nil) .nil) (.node (hd467 P) .nil .nil))) (.node (hb115 P) (.node (hc179 P) (.node (hc307 P) (.node (hd563 P) .nil .nil) .nil) (.node (hd435 P) .nil .nil)) (.node (hc243 P) (.node (hc371 P) .nil .nil) (.node (hd499 P) .nil .nil))))) (.node (hb27 P) (.node (hb43 P) (.node (hb75 P) (.node (hb139 P) (.node (hc267 P) (.node (hd523 P) .nil .nil) .nil) (.node (hd395 P) .nil .nil)) (.node (hc203 P) (.node (hc331 P) (.node (hd587 P) .nil .nil) .nil) (.node (hd459 P) .nil .nil))) (.node (hb107 P) (.node (hc171 P) (.node (hc299 P) (.node (hd555 P) .nil .nil) .nil) (.node (hd427 P) .nil .nil)) (.node (hc235 P) (.node (hc363 P) (.node (hd619 P) .nil .nil) .nil) (.node (hd491 P) .nil .nil)))) (.node (hb59 P) (.node (hb91 P) (.node (hc155 P) (.node (hc283 P) (.node (hd539 P) .nil .nil) .nil) (.node (hd411 P) .nil .nil)) (.node (hc219 P) (.node (hc347 P) (.node (hd603 P) .nil .nil) .nil) (.node (hd475 P) .nil .nil))) (.node (hb123 P) (.node (hc187 P) (.node (hc315 P) (.node (hd571 P) .nil .nil) .nil) (.node (hd443 P) .nil .nil)) (.node (hc251 P) (.node (hd379 P) .nil .nil) (.node (hd507 P) .nil .nil))))))) (.node (hb5 P) (.node (hb9 P) (.node (hb17 P) (.node (hb33 P) (.node (hb65 P) (.node (hb129 P) (.node (hc257 P) (.node (hd513 P) .nil .nil) .nil) (.node (hd385 P) .nil .nil)) (.node (hc193 P) (.node (hc321 P) (.node (hd577 P) .nil .nil) .nil) (.node (hd449 P) .nil .nil))) (.node (hb97 P) (.node (hc161 P) (.node (hc289 P) (.node (hd545 P) .nil .nil) .nil) (.node (hd417 P) .nil .nil)) (.node (hc225 P) (.node (hc353 P) (.node (hd609 P) .nil .nil) .nil) (.node (hd481 P) .nil .nil)))) (.node (hb49 P) (.node (hb81 P) (.node (hb145 P) (.node (hc273 P) (.node (hd529 P) .nil .nil) .nil) (.node (hd401 P) .nil .nil)) (.node (hc209 P) (.node (hc337 P) (.node (hd593 P) .nil .nil) .nil) (.node (hd465 P) .nil .nil))) (.node (hb113 P) (.node (hc177 P) (.node (hc305 P) (.node (hd561 P) .nil .nil) .nil) (.node (hd433 P) .nil .nil)) (.node (hc241 P) (.node (hc369 P) .nil .nil) (.node (hd497 P) .nil .nil))))) (.node (hb25 P) (.node (hb41 P) (.node (hb73 P) (.node (hb137 P) (.node (hc265 P) (.node (hd521 P) .nil .nil) .nil) (.node (hd393 P) .nil .nil)) (.node (hc201 P) (.node (hc329 P) (.node (hd585 P) .nil .nil) .nil) (.node (hd457 P) .nil .nil))) (.node (hb105 P) (.node (hc169 P) (.node (hc297 P) (.node (hd553 P) .nil .nil) .nil) (.node (hd425 P) .nil .nil)) (.node (hc233 P) (.node (hc361 P) (.node (hd617 P) .nil .nil) .nil) (.node (hd489 P) .nil .nil)))) (.node (hb57 P) (.node (hb89 P) (.node (hc153 P) (.node (hc281 P) (.node (hd537 P) .nil .nil) .nil) (.node (hd409 P) .nil .nil)) (.node (hc217 P) (.node (hc345 P) (.node (hd601 P) .nil .nil) .nil) (.node (hd473 P) .nil .nil))) (.node (hb121 P) (.node (hc185 P) (.node (hc313 P) (.node (hd569 P) .nil .nil) .nil) (.node (hd441 P) .nil .nil)) (.node (hc249 P) (.node (hd377 P) .nil .nil) (.node (hd505 P) .nil .nil)))))) (.node (hb13 P) (.node (hb21 P) (.node (hb37 P) (.node (hb69 P) (.node (hb133 P) (.node (hc261 P) (.node (hd517 P) .nil .nil) .nil) (.node (hd389 P) .nil .nil)) (.node (hc197 P) (.node (hc325 P) (.node (hd581 P) .nil .nil) .nil) (.node (hd453 P) .nil .nil))) (.node (hb101 P) (.node (hc165 P) (.node (hc293 P) (.node (hd549 P) .nil .nil) .nil) (.node (hd421 P) .nil .nil)) (.node (hc229 P) (.node (hc357 P) (.node (hd613 P) .nil .nil) .nil) (.node (hd485 P) .nil .nil)))) (.node (hb53 P) (.node (hb85 P) (.node (hc149 P) (.node (hc277 P) (.node (hd533 P) .nil .nil) .nil) (.node (hd405 P) .nil .nil)) (.node (hc213 P) (.node (hc341 P) (.node (hd597 P) .nil .nil) .nil) (.node (hd469 P) .nil .nil))) (.node (hb117 P) (.node (hc181 P) (.node (hc309 P) (.node (hd565 P) .nil .nil) .nil) (.node (hd437 P) .nil .nil)) (.node (hc245 P) (.node (hc373 P) .nil .nil) (.node (hd501 P) .nil .nil))))) (.node (hb29 P) (.node (hb45 P) (.node (hb77 P) (.node (hb141 P) (.node (hc269 P) (.node (hd525 P) .nil .nil) .nil) (.node (hd397 P) .nil .nil)) (.node (hc205 P) (.node (hc333 P) (.node (hd589 P) .nil .nil) .nil) (.node (hd461 P) .nil .nil))) (.node (hb109 P) (.node (hc173 P) (.node (hc301 P) (.node (hd557 P) .nil .nil) .nil) (.node (hd429 P) .nil .nil)) (.node (hc237 P) (.node (hc365 P) (.node (hd621 P) .nil .nil) .nil) (.node (hd493 P) .nil .nil)))) (.node (hb61 P) (.node (hb93 P) (.node (hc157 P) (.node (hc285 P) (.node (hd541 P) .nil .nil) .nil) (.node (hd413 P) .nil .nil)) (.node (hc221 P) (.node (hc349 P) (.node (hd605 P) .nil .nil) .nil) (.node (hd477 P) .nil .nil))) (.node (hb125 P) (.node (hc189 P) (.node (hc317 P) (.node (hd573 P) .nil .nil) .nil) (.node (hd445 P) .nil .nil)) (.node (hc253 P) (.node (hd381 P) .nil .nil) (.node (hd509 P) .nil .nil)))))))) (.node (hb2 P) (.node (hb4 P) (.node (hb8 P) (.node (hb16 P) (.node (hb32 P) (.node (hb64 P) (.node (hb128 P) (.node (hc256 P) (.node (hd512 P) .nil .nil) .nil) (.node (hd384 P) .nil .nil)) (.node (hc192 P) (.node (hc320 P) (.node (hd576 P) .nil .nil) .nil) (.node (hd448 P) .nil .nil))) (.node (hb96 P) (.node (hc160 P) (.node (hc288 P) (.node (hd544 P) .nil .nil) .nil) (.node (hd416 P) .nil .nil)) (.node (hc224 P) (.node (hc352 P) (.node (hd608 P) .nil .nil) .nil) (.node (hd480 P) .nil .nil)))) (.node (hb48 P) (.node (hb80 P) (.node (hd144 P) (.node (hc272 P) (.node (hd528 P) .nil .nil) .nil) (.node (hd400 P) .nil .nil)) (.node (hc208 P) (.node (hc336 P) (.node (hd592 P) .nil .nil) .nil) (.node (hd464 P) .nil .nil))) (.node (hb112 P) (.node (hc176 P) (.node (hc304 P) (.node (hd560 P) .nil .nil) .nil) (.node (hd432 P) .nil .nil)) (.node (hc240 P) (.node (hc368 P) .nil .nil) (.node (hd496 P) .nil .nil))))) (.node (hb24 P) (.node (hb40 P) (.node (hb72 P) (.node (hb136 P) (.node (hc264 P) (.node (hd520 P) .nil .nil) .nil) (.node (hd392 P) .nil .nil)) (.node (hc200 P) (.node (hc328 P) (.node (hd584 P) .nil .nil) .nil) (.node (hd456 P) .nil .nil))) (.node (hb104 P) (.node (hc168 P) (.node (hc296 P) (.node (hd552 P) .nil .nil) .nil) (.node (hd424 P) .nil .nil)) (.node (hc232 P) (.node (hc360 P) (.node (hd616 P) .nil .nil) .nil) (.node (hd488 P) .nil .nil)))) (.node (hb56 P) (.node (hb88 P) (.node (hc152 P) (.node (hc280 P) (.node (hd536 P) .nil .nil) .nil) (.node (hd408 P) .nil .nil)) (.node (hc216 P) (.node (hc344 P) (.node (hd600 P) .nil .nil) .nil) (.node (hd472 P) .nil .nil))) (.node (hb120 P) (.node (hc184 P) (.node (hc312 P) (.node (hd568 P) .nil .nil) .nil) (.node (hd440 P) .nil .nil)) (.node (hc248 P) (.node (hc376 P) .nil .nil) (.node (hd504 P) .nil .nil)))))) (.node (hb12 P) (.node (hb20 P) (.node (hb36 P) (.node (hb68 P) (.node (hc132 P) (.node (hc260 P) (.node (hd516 P) .nil .nil) .nil) (.node (hd388 P) .nil .nil)) (.node (hc196 P) (.node (hc324 P) (.node (hd580 P) .nil .nil) .nil) (.node (hd452 P) .nil .nil))) (.node (hb100 P) (.node (hc164 P) (.node (hc292 P) (.node (hd548 P) .nil .nil) .nil) (.node (hd420 P) .nil .nil)) (.node (hc228 P) (.node (hc356 P) (.node (hd612 P) .nil .nil) .nil) (.node (hd484 P) .nil .nil)))) (.node (hb52 P) (.node (hb84 P) (.node (hc148 P) (.node (hc276 P) (.node (hd532 P) .nil .nil) .nil) (.node (hd404 P) .nil .nil)) (.node (hc212 P) (.node (hc340 P) (.node (hd596 P) .nil .nil) .nil) (.node (hd468 P) .nil .nil))) (.node (hb116 P) (.node (hc180 P) (.node (hc308 P) (.node (hd564 P) .nil .nil) .nil) (.node (hd436 P) .nil .nil)) (.node (hc244 P) (.node (hc372 P) .nil .nil) (.node (hd500 P) .nil .nil))))) (.node (hb28 P) (.node (hb44 P) (.node (hb76 P) (.node (hb140 P) (.node (hc268 P) (.node (hd524 P) .nil .nil) .nil) (.node (hd396 P) .nil .nil)) (.node (hc204 P) (.node (hc332 P) (.node (hd588 P) .nil .nil) .nil) (.node (hd460 P) .nil .nil))) (.node (hb108 P) (.node (hc172 P) (.node (hc300 P) (.node (hd556 P) .nil .nil) .nil) (.node (hd428 P) .nil .nil)) (.node (hc236 P) (.node (hc364 P) (.node (hd620 P) .nil .nil) .nil) (.node (hd492 P) .nil .nil)))) (.node (hb60 P) (.node (hb92 P) (.node (hc156 P) (.node (hc284 P) (.node (hd540 P) .nil .nil) .nil) (.node (hd412 P) .nil .nil)) (.node (hc220 P) (.node (hc348 P) (.node (hd604 P) .nil .nil) .nil) (.node (hd476 P) .nil .nil))) (.node (hb124 P) (.node (hc188 P) (.node (hc316 P) (.node (hd572 P) .nil .nil) .nil) (.node (hd444 P) .nil .nil)) (.node (hc252 P) (.node (hd380 P) .nil .nil) (.node (hd508 P) .nil .nil))))))) (.node (hb6 P) (.node (hb10 P) (.node (hb18 P) (.node (hb34 P) (.node (hb66 P) (.node (hb130 P) (.node (hc258 P) (.node (hd514 P) .nil .nil) .nil) (.node (hd386 P) .nil .nil)) (.node (hc194 P) (.node (hc322 P) (.node (hd578 P) .nil .nil) .nil) (.node (hd450 P) .nil .nil))) (.node (hb98 P) (.node (hc162 P) (.node (hc290 P) (.node (hd546 P) .nil .nil) .nil) (.node (hd418 P) .nil .nil)) (.node (hc226 P) (.node (hc354 P) (.node (hd610 P) .nil .nil) .nil) (.node (hd482 P) .nil .nil)))) (.node (hb50 P) (.node (hb82 P) (.node (hb146 P) (.node (hc274 P) (.node (hd530 P) .nil .nil) .nil) (.node (hd402 P) .nil .nil)) (.node (hc210 P) (.node (hc338 P) (.node (hd594 P) .nil .nil) .nil) (.node (hd466 P) .nil .nil))) (.node (hb114 P) (.node (hc178 P) (.node (hc306 P) (.node (hd562 P) .nil .nil) .nil) (.node (hd434 P) .nil .nil)) (.node (hc242 P) (.node (hc370 P) .nil .nil) (.node (hd498 P) .nil .nil))))) (.node (hb26 P) (.node (hb42 P) (.node (hb74 P) (.node (hb138 P) (.node (hc266 P) (.node (hd522 P) .nil .nil) .nil) (.node (hd394 P) .nil .nil)) (.node (hc202 P) (.node (hc330 P) (.node (hd586 P) .nil .nil) .nil) (.node (hd458 P) .nil .nil))) (.node (hb106 P) (.node (hc170 P) (.node (hc298 P) (.node (hd554 P) .nil .nil) .nil) (.node (hd426 P) .nil .nil)) (.node (hc234 P) (.node (hc362 P) (.node (hd618 P) .nil .nil) .nil) (.node (hd490 P) .nil .nil)))) (.node (hb58 P) (.node (hb90 P) (.node (hc154 P) (.node (hc282 P) (.node (hd538 P) .nil .nil) .nil) (.node (hd410 P) .nil .nil)) (.node (hc218 P) (.node (hc346 P) (.node (hd602 P) .nil .nil) .nil) (.node (hd474 P) .nil .nil))) (.node (hb122 P) (.node (hc186 P) (.node (hc314 P) (.node (hd570 P) .nil .nil) .nil) (.node (hd442 P) .nil .nil)) (.node (hc250 P) (.node (hd378 P) .nil .nil) (.node (hd506 P) .nil .nil)))))) (.node (hb14 P) (.node (hb22 P) (.node (hb38 P) (.node (hb70 P) (.node (hb134 P) (.node (hc262 P) (.node (hd518 P) .nil .nil) .nil) (.node (hd390 P) .nil .nil)) (.node (hc198 P) (.node (hc326 P) (.node (hd582 P) .nil .nil) .nil) (.node (hd454 P) .nil .nil))) (.node (hb102 P) (.node (hc166 P) (.node (hc294 P) (.node (hd550 P) .nil .nil) .nil) (.node (hd422 P) .nil .nil)) (.node (hc230 P) (.node (hc358 P) (.node (hd614 P) .nil .nil) .nil) (.node (hd486 P) .nil .nil)))) (.node (hb54 P) (.node (hb86 P) (.node (hc150 P) (.node (hc278 P) (.node (hd534 P) .nil .nil) .nil) (.node (hd406 P) .nil .nil)) (.node (hc214 P) (.node (hc342 P) (.node (hd598 P) .nil .nil) .nil) (.node (hd470 P) .nil .nil))) (.node (hb118 P) (.node (hc182 P) (.node (hc310 P) (.node (hd566 P) .nil .nil) .nil) (.node (hd438 P) .nil .nil)) (.node (hc246 P) (.node (hc374 P) .nil .nil) (.node (hd502 P) .nil .nil))))) (.node (hd30 P) (.node (hb46 P) (.node (hb78 P) (.node (hb142 P) (.node (hc270 P) (.node (hd526 P) .nil .nil) .nil) (.node (hd398 P) .nil .nil)) (.node (hc206 P) (.node (hc334 P) (.node (hd590 P) .nil .nil) .nil) (.node (hd462 P) .nil .nil))) (.node (hb110 P) (.node (hc174 P) (.node (hc302 P) (.node (hd558 P) .nil .nil) .nil) (.node (hd430 P) .nil .nil)) (.node (hc238 P) (.node (hc366 P) (.node (hd622 P) .nil .nil) .nil) (.node (hd494 P) .nil .nil)))) (.node (hb62 P) (.node (hb94 P) (.node (hc158 P) (.node (hc286 P) (.node (hd542 P) .nil .nil) .nil) (.node (hd414 P) .nil .nil)) (.node (hc222 P) (.node (hc350 P) (.node (hd606 P) .nil .nil) .nil) (.node (hd478 P) .nil .nil))) (.node (hb126 P) (.node (hc190 P) (.node (hc318 P) (.node (hd574 P) .nil .nil) .nil) (.node (hd446 P) .nil .nil)) (.node (hc254 P) (.node (hd382 P) .nil .nil) (.node (hd510 P) .nil .nil)))))))))
noncomputable def KK : Params → Frag := fun P =>
  (nat_lit 0, { cls := .type "dict", data := .dict #[⟨keyHash P "__name__", .str "__name__" 1, .str "builtins" 160⟩, ⟨keyHash P "__doc__", .str "__doc__" 2, .builtin "builtins.__doc__:str#opaque"⟩, ⟨keyHash P "__package__", .str "__package__" 3, .builtin "builtins.__package__:str#opaque"⟩, ⟨keyHash P "__loader__", .str "__loader__" 4, .builtin "builtins.__loader__:shared#opaque"⟩, ⟨keyHash P "__spec__", .str "__spec__" 5, .builtin "builtins.__spec__#opaque"⟩, ⟨keyHash P "__build_class__", .str "__build_class__" 6, .builtin "__build_class__"⟩, ⟨keyHash P "__import__", .str "__import__" 7, .builtin "__import__"⟩, ⟨keyHash P "abs", .str "abs" 8, .builtin "abs"⟩, ⟨keyHash P "all", .str "all" 9, .builtin "all"⟩, ⟨keyHash P "any", .str "any" 10, .builtin "any"⟩, ⟨keyHash P "ascii", .str "ascii" 11, .builtin "ascii"⟩, ⟨keyHash P "bin", .str "bin" 12, .builtin "bin"⟩, ⟨keyHash P "breakpoint", .str "breakpoint" 13, .builtin "breakpoint"⟩, ⟨keyHash P "callable", .str "callable" 14, .builtin "callable"⟩, ⟨keyHash P "chr", .str "chr" 15, .builtin "chr"⟩, ⟨keyHash P "compile", .str "compile" 16, .builtin "compile"⟩, ⟨keyHash P "delattr", .str "delattr" 17, .builtin "delattr"⟩, ⟨keyHash P "dir", .str "dir" 18, .builtin "dir"⟩, ⟨keyHash P "divmod", .str "divmod" 19, .builtin "divmod"⟩, ⟨keyHash P "eval", .str "eval" 20, .builtin "eval"⟩, ⟨keyHash P "exec", .str "exec" 21, .builtin "exec"⟩, ⟨keyHash P "format", .str "format" 22, .builtin "format"⟩, ⟨keyHash P "getattr", .str "getattr" 23, .builtin "getattr"⟩, ⟨keyHash P "globals", .str "globals" 24, .builtin "globals"⟩, ⟨keyHash P "hasattr", .str "hasattr" 25, .builtin "hasattr"⟩, ⟨keyHash P "hash", .str "hash" 26, .builtin "hash"⟩, ⟨keyHash P "hex", .str "hex" 27, .builtin "hex"⟩, ⟨keyHash P "id", .str "id" 28, .builtin "id"⟩, ⟨keyHash P "input", .str "input" 29, .builtin "input"⟩, ⟨keyHash P "isinstance", .str "isinstance" 30, .builtin "isinstance"⟩, ⟨keyHash P "issubclass", .str "issubclass" 31, .builtin "issubclass"⟩, ⟨keyHash P "iter", .str "iter" 32, .builtin "iter"⟩, ⟨keyHash P "aiter", .str "aiter" 33, .builtin "aiter"⟩, ⟨keyHash P "len", .str "len" 34, .builtin "len"⟩, ⟨keyHash P "locals", .str "locals" 35, .builtin "locals"⟩, ⟨keyHash P "max", .str "max" 36, .builtin "max"⟩, ⟨keyHash P "min", .str "min" 37, .builtin "min"⟩, ⟨keyHash P "next", .str "next" 38, .builtin "next"⟩, ⟨keyHash P "anext", .str "anext" 39, .builtin "anext"⟩, ⟨keyHash P "oct", .str "oct" 40, .builtin "oct"⟩, ⟨keyHash P "ord", .str "ord" 41, .builtin "ord"⟩, ⟨keyHash P "pow", .str "pow" 42, .builtin "pow"⟩, ⟨keyHash P "print", .str "print" 43, .builtin "print"⟩, ⟨keyHash P "repr", .str "repr" 44, .builtin "repr"⟩, ⟨keyHash P "round", .str "round" 45, .builtin "round"⟩, ⟨keyHash P "setattr", .str "setattr" 46, .builtin "setattr"⟩, ⟨keyHash P "sorted", .str "sorted" 47, .builtin "sorted"⟩, ⟨keyHash P "sum", .str "sum" 48, .builtin "sum"⟩, ⟨keyHash P "vars", .str "vars" 49, .builtin "vars"⟩, ⟨keyHash P "None", .str "None" 50, .none⟩, ⟨keyHash P "Ellipsis", .str "Ellipsis" 51, .ellipsis⟩, ⟨keyHash P "NotImplemented", .str "NotImplemented" 52, .notImplemented⟩, ⟨keyHash P "False", .str "False" 53, .bool false⟩, ⟨keyHash P "True", .str "True" 54, .bool true⟩, ⟨keyHash P "bool", .str "bool" 55, .type "bool"⟩, ⟨keyHash P "memoryview", .str "memoryview" 56, .type "memoryview"⟩, ⟨keyHash P "bytearray", .str "bytearray" 57, .type "bytearray"⟩, ⟨keyHash P "bytes", .str "bytes" 58, .type "bytes"⟩, ⟨keyHash P "classmethod", .str "classmethod" 59, .type "classmethod"⟩, ⟨keyHash P "complex", .str "complex" 60, .type "complex"⟩, ⟨keyHash P "dict", .str "dict" 61, .type "dict"⟩, ⟨keyHash P "enumerate", .str "enumerate" 62, .type "enumerate"⟩, ⟨keyHash P "filter", .str "filter" 63, .type "filter"⟩, ⟨keyHash P "float", .str "float" 64, .type "float"⟩, ⟨keyHash P "frozenset", .str "frozenset" 65, .type "frozenset"⟩, ⟨keyHash P "property", .str "property" 66, .type "property"⟩, ⟨keyHash P "int", .str "int" 67, .type "int"⟩, ⟨keyHash P "list", .str "list" 68, .type "list"⟩, ⟨keyHash P "map", .str "map" 69, .type "map"⟩, ⟨keyHash P "object", .str "object" 70, .type "object"⟩, ⟨keyHash P "range", .str "range" 71, .type "range"⟩, ⟨keyHash P "reversed", .str "reversed" 72, .type "reversed"⟩, ⟨keyHash P "set", .str "set" 73, .type "set"⟩, ⟨keyHash P "slice", .str "slice" 74, .type "slice"⟩, ⟨keyHash P "staticmethod", .str "staticmethod" 75, .type "staticmethod"⟩, ⟨keyHash P "str", .str "str" 76, .type "str"⟩, ⟨keyHash P "super", .str "super" 77, .type "super"⟩, ⟨keyHash P "tuple", .str "tuple" 78, .type "tuple"⟩, ⟨keyHash P "type", .str "type" 79, .type "type"⟩, ⟨keyHash P "zip", .str "zip" 80, .type "zip"⟩, ⟨keyHash P "__debug__", .str "__debug__" 81, .bool true⟩, ⟨keyHash P "BaseException", .str "BaseException" 82, .type "BaseException"⟩, ⟨keyHash P "BaseExceptionGroup", .str "BaseExceptionGroup" 83, .type "BaseExceptionGroup"⟩, ⟨keyHash P "Exception", .str "Exception" 84, .type "Exception"⟩, ⟨keyHash P "GeneratorExit", .str "GeneratorExit" 85, .type "GeneratorExit"⟩, ⟨keyHash P "KeyboardInterrupt", .str "KeyboardInterrupt" 86, .type "KeyboardInterrupt"⟩, ⟨keyHash P "SystemExit", .str "SystemExit" 87, .type "SystemExit"⟩, ⟨keyHash P "ArithmeticError", .str "ArithmeticError" 88, .type "ArithmeticError"⟩, ⟨keyHash P "AssertionError", .str "AssertionError" 89, .type "AssertionError"⟩, ⟨keyHash P "AttributeError", .str "AttributeError" 90, .type "AttributeError"⟩, ⟨keyHash P "BufferError", .str "BufferError" 91, .type "BufferError"⟩, ⟨keyHash P "EOFError", .str "EOFError" 92, .type "EOFError"⟩, ⟨keyHash P "ImportError", .str "ImportError" 93, .type "ImportError"⟩, ⟨keyHash P "LookupError", .str "LookupError" 94, .type "LookupError"⟩, ⟨keyHash P "MemoryError", .str "MemoryError" 95, .type "MemoryError"⟩, ⟨keyHash P "NameError", .str "NameError" 96, .type "NameError"⟩, ⟨keyHash P "OSError", .str "OSError" 97, .type "OSError"⟩, ⟨keyHash P "ReferenceError", .str "ReferenceError" 98, .type "ReferenceError"⟩, ⟨keyHash P "RuntimeError", .str "RuntimeError" 99, .type "RuntimeError"⟩, ⟨keyHash P "StopAsyncIteration", .str "StopAsyncIteration" 100, .type "StopAsyncIteration"⟩, ⟨keyHash P "StopIteration", .str "StopIteration" 101, .type "StopIteration"⟩, ⟨keyHash P "SyntaxError", .str "SyntaxError" 102, .type "SyntaxError"⟩, ⟨keyHash P "SystemError", .str "SystemError" 103, .type "SystemError"⟩, ⟨keyHash P "TypeError", .str "TypeError" 104, .type "TypeError"⟩, ⟨keyHash P "ValueError", .str "ValueError" 105, .type "ValueError"⟩, ⟨keyHash P "Warning", .str "Warning" 106, .type "Warning"⟩, ⟨keyHash P "FloatingPointError", .str "FloatingPointError" 107, .type "FloatingPointError"⟩, ⟨keyHash P "OverflowError", .str "OverflowError" 108, .type "OverflowError"⟩, ⟨keyHash P "ZeroDivisionError", .str "ZeroDivisionError" 109, .type "ZeroDivisionError"⟩, ⟨keyHash P "BytesWarning", .str "BytesWarning" 110, .type "BytesWarning"⟩, ⟨keyHash P "DeprecationWarning", .str "DeprecationWarning" 111, .type "DeprecationWarning"⟩, ⟨keyHash P "EncodingWarning", .str "EncodingWarning" 112, .type "EncodingWarning"⟩, ⟨keyHash P "FutureWarning", .str "FutureWarning" 113, .type "FutureWarning"⟩, ⟨keyHash P "ImportWarning", .str "ImportWarning" 114, .type "ImportWarning"⟩, ⟨keyHash P "PendingDeprecationWarning", .str "PendingDeprecationWarning" 115, .type "PendingDeprecationWarning"⟩, ⟨keyHash P "ResourceWarning", .str "ResourceWarning" 116, .type "ResourceWarning"⟩, ⟨keyHash P "RuntimeWarning", .str "RuntimeWarning" 117, .type "RuntimeWarning"⟩, ⟨keyHash P "SyntaxWarning", .str "SyntaxWarning" 118, .type "SyntaxWarning"⟩, ⟨keyHash P "UnicodeWarning", .str "UnicodeWarning" 119, .type "UnicodeWarning"⟩, ⟨keyHash P "UserWarning", .str "UserWarning" 120, .type "UserWarning"⟩, ⟨keyHash P "BlockingIOError", .str "BlockingIOError" 121, .type "BlockingIOError"⟩, ⟨keyHash P "ChildProcessError", .str "ChildProcessError" 122, .type "ChildProcessError"⟩, ⟨keyHash P "ConnectionError", .str "ConnectionError" 123, .type "ConnectionError"⟩, ⟨keyHash P "FileExistsError", .str "FileExistsError" 124, .type "FileExistsError"⟩, ⟨keyHash P "FileNotFoundError", .str "FileNotFoundError" 125, .type "FileNotFoundError"⟩, ⟨keyHash P "InterruptedError", .str "InterruptedError" 126, .type "InterruptedError"⟩, ⟨keyHash P "IsADirectoryError", .str "IsADirectoryError" 127, .type "IsADirectoryError"⟩, ⟨keyHash P "NotADirectoryError", .str "NotADirectoryError" 128, .type "NotADirectoryError"⟩, ⟨keyHash P "PermissionError", .str "PermissionError" 129, .type "PermissionError"⟩, ⟨keyHash P "ProcessLookupError", .str "ProcessLookupError" 130, .type "ProcessLookupError"⟩, ⟨keyHash P "TimeoutError", .str "TimeoutError" 131, .type "TimeoutError"⟩, ⟨keyHash P "IndentationError", .str "IndentationError" 132, .type "IndentationError"⟩, ⟨keyHash P "_IncompleteInputError", .str "_IncompleteInputError" 133, .type "_IncompleteInputError"⟩, ⟨keyHash P "IndexError", .str "IndexError" 134, .type "IndexError"⟩, ⟨keyHash P "KeyError", .str "KeyError" 135, .type "KeyError"⟩, ⟨keyHash P "ModuleNotFoundError", .str "ModuleNotFoundError" 136, .type "ModuleNotFoundError"⟩, ⟨keyHash P "NotImplementedError", .str "NotImplementedError" 137, .type "NotImplementedError"⟩, ⟨keyHash P "PythonFinalizationError", .str "PythonFinalizationError" 138, .type "PythonFinalizationError"⟩, ⟨keyHash P "RecursionError", .str "RecursionError" 139, .type "RecursionError"⟩, ⟨keyHash P "UnboundLocalError", .str "UnboundLocalError" 140, .type "UnboundLocalError"⟩, ⟨keyHash P "UnicodeError", .str "UnicodeError" 141, .type "UnicodeError"⟩, ⟨keyHash P "BrokenPipeError", .str "BrokenPipeError" 142, .type "BrokenPipeError"⟩, ⟨keyHash P "ConnectionAbortedError", .str "ConnectionAbortedError" 143, .type "ConnectionAbortedError"⟩, ⟨keyHash P "ConnectionRefusedError", .str "ConnectionRefusedError" 144, .type "ConnectionRefusedError"⟩, ⟨keyHash P "ConnectionResetError", .str "ConnectionResetError" 145, .type "ConnectionResetError"⟩, ⟨keyHash P "TabError", .str "TabError" 146, .type "TabError"⟩, ⟨keyHash P "UnicodeDecodeError", .str "UnicodeDecodeError" 147, .type "UnicodeDecodeError"⟩, ⟨keyHash P "UnicodeEncodeError", .str "UnicodeEncodeError" 148, .type "UnicodeEncodeError"⟩, ⟨keyHash P "UnicodeTranslateError", .str "UnicodeTranslateError" 149, .type "UnicodeTranslateError"⟩, ⟨keyHash P "ExceptionGroup", .str "ExceptionGroup" 150, .type "ExceptionGroup"⟩, ⟨keyHash P "EnvironmentError", .str "EnvironmentError" 151, .type "OSError"⟩, ⟨keyHash P "IOError", .str "IOError" 152, .type "OSError"⟩, ⟨keyHash P "open", .str "open" 153, .builtin "open"⟩, ⟨keyHash P "quit", .str "quit" 154, .builtin "builtins.quit#opaque"⟩, ⟨keyHash P "exit", .str "exit" 155, .builtin "builtins.exit#opaque"⟩, ⟨keyHash P "copyright", .str "copyright" 156, .builtin "builtins.copyright#opaque"⟩, ⟨keyHash P "credits", .str "credits" 157, .builtin "builtins.credits#opaque"⟩, ⟨keyHash P "license", .str "license" 158, .builtin "builtins.license#opaque"⟩, ⟨keyHash P "help", .str "help" 159, .builtin "builtins.help#opaque"⟩] 159 }) ::
  (nat_lit 1, { cls := .type "dict", data := .dict #[⟨keyHash P "builtins", .str "builtins" 162, .ref 4⟩, ⟨keyHash P "__main__", .str "__main__" 163, .ref 5⟩, ⟨keyHash P "_collections", .str "_collections" 246, .ref 13⟩] 3 }) ::
  (nat_lit 2, { cls := .none, data := .dict #[⟨keyHash P "impor\x74.loaded._collections", .str "impor\x74.loaded._collections" 185, .bool true⟩, ⟨keyHash P "class._frozen_importlib.BuiltinImporter", .str "class._frozen_importlib.BuiltinImporter" 187, .ref 15⟩, ⟨keyHash P "watched.impor\x74", .str "watched.impor\x74" 208, .ref 19⟩, ⟨keyHash P "class._frozen_importlib.ModuleSpec", .str "class._frozen_importlib.ModuleSpec" 218, .ref 23⟩, ⟨keyHash P "sys.modules.booked-epoch", .str "sys.modules.booked-epoch" 247, .int 3 0⟩, ⟨keyHash P "sys.modules.landed._collections", .str "sys.modules.landed._collections" 248, .bool true⟩, ⟨keyHash P "impor\x74.later-laid._collections", .str "impor\x74.later-laid._collections" 263, .bool true⟩, ⟨keyHash P "watched.library", .str "watched.library" 265, .ref 28⟩, ⟨keyHash P "watched.library-objects", .str "watched.library-objects" 0, .str (Str.ofString "\x0d") 0⟩, ⟨keyHash P "watched.library-deep._collections", .str "watched.library-deep._collections" 266, .str (Str.ofString "\x04\x00\x00\x0c\x04\x00\x00\x0c\x04\x00\x00\x03\x04\x00\x00\x0c\x08\x04dict\x02") 0⟩, ⟨keyHash P "type.__subclasses__.OSError.0", .str "type.__subclasses__.OSError.0" 358, .int 97 0⟩, ⟨keyHash P "type.__subclasses__.OSError.n", .str "type.__subclasses__.OSError.n" 359, .int 1 0⟩] 12 }) ::
  (nat_lit 3, { cls := .type "dict", data := .dict #[⟨keyHash P "__name__", .str "__name__" 165, .str "law_ij0056_01" 1178⟩, ⟨keyHash P "__doc__", .str "__doc__" 166, .none⟩, ⟨keyHash P "__package__", .str "__package__" 167, .none⟩, ⟨keyHash P "__loader__", .str "__loader__" 168, .builtin "__main__.__loader__#opaque"⟩, ⟨keyHash P "__spec__", .str "__spec__" 169, .none⟩, ⟨keyHash P "__annotations__", .str "__annotations__" 170, .ref 6⟩, ⟨keyHash P "__builtins__", .str "__builtins__" 171, .ref 4⟩, ⟨keyHash P "__file__", .str "__file__" 173, .str "/claim/cut.py" 172⟩, ⟨keyHash P "__cached__", .str "__cached__" 174, .none⟩, ⟨keyHash P "deque", .str "deque" 272, .type "collections.deque"⟩, ⟨keyHash P "_wall", .str "_wall" 285, .ref 39⟩, ⟨keyHash P "dict_replace_saxutils", .str "dict_replace_saxutils" 297, .ref 46⟩, ⟨keyHash P "escape", .str "escape" 305, .ref 55⟩, ⟨keyHash P "unescape", .str "unescape" 313, .ref 64⟩, ⟨keyHash P "quoteattr", .str "quoteattr" 321, .ref 73⟩, ⟨keyHash P "_whence", .str "_whence" 331, .ref 80⟩, ⟨keyHash P "_index", .str "_index" 339, .ref 87⟩, ⟨keyHash P "UnsupportedOperation", .str "UnsupportedOperation" 361, .ref 97⟩, ⟨keyHash P "IOBase", .str "IOBase" 393, .ref 117⟩, ⟨keyHash P "BufferedIOBase", .str "BufferedIOBase" 411, .ref 132⟩, ⟨keyHash P "TextIOBase", .str "TextIOBase" 429, .ref 144⟩, ⟨keyHash P "BytesIO", .str "BytesIO" 691, .ref 374⟩, ⟨keyHash P "StringIO", .str "StringIO" 978, .ref 621⟩, ⟨keyHash P "_kind", .str "_kind" 989, .ref 630⟩, ⟨keyHash P "_fspath", .str "_fspath" 998, .ref 637⟩, ⟨keyHash P "_check_arg_types", .str "_check_arg_types" 1008, .ref 644⟩, ⟨keyHash P "isabs", .str "isabs" 1015, .ref 651⟩, ⟨keyHash P "join", .str "join" 1026, .ref 658⟩, ⟨keyHash P "dirname", .str "dirname" 1036, .ref 665⟩, ⟨keyHash P "shlex", .str "shlex" 1177, .ref 756⟩, ⟨keyHash P "_law_text", .str "_law_text" 1185, .ref 765⟩, ⟨keyHash P "_law_tree", .str "_law_tree" 1198, .ref 772⟩, ⟨keyHash P "_law_written", .str "_law_written" 1213, .ref 779⟩, ⟨keyHash P "_law_sign", .str "_law_sign" 1221, .ref 786⟩, ⟨keyHash P "_law_read", .str "_law_read" 1227, .ref 791⟩, ⟨keyHash P "law", .str "law" 1240, .ref 798⟩] 36 }) ::
  (nat_lit 38, { cls := .type "code", data := .fields #[.str "_wall" 279, .str "_wall" 280, .str "/claim/cut.py" 281, .int 2 0, .int 1 0, .int 0 0, .int 0 0, .int 3 0, .ref 33, .bool true, .int 273 0, .ref 34, .none, .ref 35, .ref 36, .ref 37, .int 283 0, .int 2 0, .str "/claim/cut.py" 284] }) ::
  (nat_lit 39, { cls := .type "function", data := .func { name := Str.ofString "_wall", qualname := Str.ofString "_wall", params := ((⟨⟨_, _, _, _, _, _, _⟩, rfl⟩ : (b : Arguments) ×' (b = argsOf (defAt 1))).1), body := FuncBody.stmts ((⟨List.cons _ _, rfl⟩ : (b : List Stmt) ×' (b = bodyOf (defAt 1))).1), scope := ((⟨⟨_, _, _, _, _⟩, rfl⟩ : (b : Scope) ×' (b = scopeOf (defAt 1))).1), globals := 3, closure := [], defaults := .none, kwdefaults := .none, pyModule := .str "__main__" 164, code := .ref 38 } }) ::
  (nat_lit 45, { cls := .type "code", data := .fields #[.str "dict_replace_saxutils" 288, .str "dict_replace_saxutils" 289, .str "/claim/cut.py" 290, .int 6 0, .int 2 0, .int 0 0, .int 0 0, .int 3 0, .ref 40, .bool true, .int 273 0, .ref 41, .none, .ref 42, .ref 43, .ref 44, .int 295 0, .int 6 0, .str "/claim/cut.py" 296] }) ::
  (nat_lit 46, { cls := .type "function", data := .func { name := Str.ofString "dict_replace_saxutils", qualname := Str.ofString "dict_replace_saxutils", params := ((⟨⟨_, _, _, _, _, _, _⟩, rfl⟩ : (b : Arguments) ×' (b = argsOf (defAt 3))).1), body := FuncBody.stmts ((⟨List.cons _ _, rfl⟩ : (b : List Stmt) ×' (b = bodyOf (defAt 3))).1), scope := ((⟨⟨_, _, _, _, _⟩, rfl⟩ : (b : Scope) ×' (b = scopeOf (defAt 3))).1), globals := 3, closure := [], defaults := .none, kwdefaults := .none, pyModule := .str "cpy313.xml.sax.saxutils" 286, code := .ref 45 } }) ::
  (nat_lit 47, { cls := .type "dict", data := .dict #[] }) ::
  (nat_lit 48, { cls := .type "tuple", data := .seq #[.ref 47] }) ::
  (nat_lit 54, { cls := .type "code", data := .fields #[.str "escape" 298, .str "escape" 299, .str "/claim/cut.py" 300, .int 10 0, .int 2 0, .int 0 0, .int 0 0, .int 3 0, .ref 49, .bool true, .int 273 0, .ref 50, .none, .ref 51, .ref 52, .ref 53, .int 303 0, .int 10 0, .str "/claim/cut.py" 304] }) ::
  (nat_lit 55, { cls := .type "function", data := .func { name := Str.ofString "escape", qualname := Str.ofString "escape", params := ((⟨⟨_, _, _, _, _, _, _⟩, rfl⟩ : (b : Arguments) ×' (b = argsOf (defAt 4))).1), body := FuncBody.stmts ((⟨List.cons _ _, rfl⟩ : (b : List Stmt) ×' (b = bodyOf (defAt 4))).1), scope := ((⟨⟨_, _, _, _, _⟩, rfl⟩ : (b : Scope) ×' (b = scopeOf (defAt 4))).1), globals := 3, closure := [], defaults := .ref 48, kwdefaults := .none, pyModule := .str "cpy313.xml.sax.saxutils" 286, code := .ref 54 } }) ::
  (nat_lit 56, { cls := .type "dict", data := .dict #[] }) ::
  (nat_lit 57, { cls := .type "tuple", data := .seq #[.ref 56] }) ::
  (nat_lit 63, { cls := .type "code", data := .fields #[.str "unescape" 306, .str "unescape" 307, .str "/claim/cut.py" 308, .int 17 0, .int 2 0, .int 0 0, .int 0 0, .int 3 0, .ref 58, .bool true, .int 273 0, .ref 59, .none, .ref 60, .ref 61, .ref 62, .int 311 0, .int 17 0, .str "/claim/cut.py" 312] }) ::
  (nat_lit 64, { cls := .type "function", data := .func { name := Str.ofString "unescape", qualname := Str.ofString "unescape", params := ((⟨⟨_, _, _, _, _, _, _⟩, rfl⟩ : (b : Arguments) ×' (b = argsOf (defAt 5))).1), body := FuncBody.stmts ((⟨List.cons _ _, rfl⟩ : (b : List Stmt) ×' (b = bodyOf (defAt 5))).1), scope := ((⟨⟨_, _, _, _, _⟩, rfl⟩ : (b : Scope) ×' (b = scopeOf (defAt 4))).1), globals := 3, closure := [], defaults := .ref 57, kwdefaults := .none, pyModule := .str "cpy313.xml.sax.saxutils" 286, code := .ref 63 } }) ::
  (nat_lit 65, { cls := .type "dict", data := .dict #[] }) ::
  (nat_lit 66, { cls := .type "tuple", data := .seq #[.ref 65] }) ::
  (nat_lit 72, { cls := .type "code", data := .fields #[.str "quoteattr" 314, .str "quoteattr" 315, .str "/claim/cut.py" 316, .int 23 0, .int 2 0, .int 0 0, .int 0 0, .int 3 0, .ref 67, .bool true, .int 273 0, .ref 68, .none, .ref 69, .ref 70, .ref 71, .int 319 0, .int 23 0, .str "/claim/cut.py" 320] }) ::
  (nat_lit 73, { cls := .type "function", data := .func { name := Str.ofString "quoteattr", qualname := Str.ofString "quoteattr", params := ((⟨⟨_, _, _, _, _, _, _⟩, rfl⟩ : (b : Arguments) ×' (b = argsOf (defAt 6))).1), body := FuncBody.stmts ((⟨List.cons _ _, rfl⟩ : (b : List Stmt) ×' (b = bodyOf (defAt 6))).1), scope := ((⟨⟨_, _, _, _, _⟩, rfl⟩ : (b : Scope) ×' (b = scopeOf (defAt 6))).1), globals := 3, closure := [], defaults := .ref 66, kwdefaults := .none, pyModule := .str "cpy313.xml.sax.saxutils" 286, code := .ref 72 } }) ::
  (nat_lit 86, { cls := .type "code", data := .fields #[.str "_index" 332, .str "_index" 333, .str "/claim/cut.py" 334, .int 40 0, .int 2 0, .int 0 0, .int 0 0, .int 3 0, .ref 81, .bool true, .int 273 0, .ref 82, .none, .ref 83, .ref 84, .ref 85, .int 337 0, .int 40 0, .str "/claim/cut.py" 338] }) ::
  (nat_lit 87, { cls := .type "function", data := .func { name := Str.ofString "_index", qualname := Str.ofString "_index", params := ((⟨⟨_, _, _, _, _, _, _⟩, rfl⟩ : (b : Arguments) ×' (b = argsOf (defAt 9))).1), body := FuncBody.stmts ((⟨List.cons _ _, rfl⟩ : (b : List Stmt) ×' (b = bodyOf (defAt 9))).1), scope := ((⟨⟨_, _, _, _, _⟩, rfl⟩ : (b : Scope) ×' (b = scopeOf (defAt 9))).1), globals := 3, closure := [], defaults := .none, kwdefaults := .none, pyModule := .str "io" 322, code := .ref 86 } }) ::
  (nat_lit 113, { cls := .type "code", data := .fields #[.str "__new__" 376, .str "IOBase.__new__" 377, .str "/claim/cut.py" 378, .int 52 0, .int 1 0, .int 1 0, .int 0 0, .int 15 0, .ref 108, .bool true, .int 273 0, .ref 109, .none, .ref 110, .ref 111, .ref 112, .int 382 0, .int 52 0, .str "/claim/cut.py" 383] }) ::
  (nat_lit 114, { cls := .type "function", data := .func { name := Str.ofString "__new__", qualname := Str.ofString "IOBase.__new__", params := ((⟨⟨_, _, _, _, _, _, _⟩, rfl⟩ : (b : Arguments) ×' (b = argsOf (methAt 11 1))).1), body := FuncBody.stmts ((⟨List.cons _ _, rfl⟩ : (b : List Stmt) ×' (b = bodyOf (methAt 11 1))).1), scope := ((⟨⟨_, _, _, _, _⟩, rfl⟩ : (b : Scope) ×' (b = scopeOf (methAt 11 1))).1), globals := 3, closure := [], defaults := .none, kwdefaults := .none, pyModule := .str "io" 322, code := .ref 113 } }) ::
  (nat_lit 115, { cls := .type "tuple", data := .seq #[] }) ::
  (nat_lit 116, { cls := .type "dict", data := .dict #[⟨keyHash P "__module__", .str "__module__" 369, .str "io" 374⟩, ⟨keyHash P "__firstlineno__", .str "__firstlineno__" 373, .int 49 372⟩, ⟨keyHash P "__new__", .str "__new__" 384, .ref 118⟩, ⟨keyHash P "__static_attributes__", .str "__static_attributes__" 385, .ref 115⟩, ⟨keyHash P "__dict__", .str "__dict__" 388, .ref 119⟩, ⟨keyHash P "__weakref__", .str "__weakref__" 390, .ref 120⟩, ⟨keyHash P "__doc__", .str "__doc__" 391, .none⟩] 4 }) ::
  (nat_lit 117, { cls := .type "type", data := .cls { name := Str.ofString "IOBase", bases := [.type "object"], mro := [.ref 117, .type "object"], ns := 116, qualname := Str.ofString "IOBase", subclasses := [.ref 132, .ref 144] }, slots := #[none, none, some (.str "IOBase" 362), some (.str "IOBase" 370), some .none, some (.bool true)] }) ::
  (nat_lit 118, { cls := .type "staticmethod", data := .fields #[.ref 114] }) ::
  (nat_lit 119, { cls := .type "getset_descriptor", data := .fields #[.str "__dict__" 387, .ref 117, .builtin "function.__dict__", .builtin "function.__dict__#set"] }) ::
  (nat_lit 120, { cls := .type "getset_descriptor", data := .fields #[.str "__weakref__" 389, .ref 117, .builtin "ExceptionGroup.__weakref__", .none] }) ::
  (nat_lit 142, { cls := .type "tuple", data := .seq #[] }) ::
  (nat_lit 143, { cls := .type "dict", data := .dict #[⟨keyHash P "__module__", .str "__module__" 419, .str "io" 424⟩, ⟨keyHash P "__firstlineno__", .str "__firstlineno__" 423, .int 58 422⟩, ⟨keyHash P "__static_attributes__", .str "__static_attributes__" 426, .ref 142⟩, ⟨keyHash P "__doc__", .str "__doc__" 427, .none⟩] 2 }) ::
  (nat_lit 144, { cls := .type "type", data := .cls { name := Str.ofString "TextIOBase", bases := [.ref 117], mro := [.ref 144, .ref 117, .type "object"], ns := 143, qualname := Str.ofString "TextIOBase", subclasses := [.ref 621] }, slots := #[some (.ref 135), none, some (.str "TextIOBase" 412), some (.str "TextIOBase" 420), some .none, some (.bool true)] }) ::
  (nat_lit 374, { cls := .type "type", data := .cls { name := Str.ofString "BytesIO", bases := [.ref 132], mro := [.ref 374, .ref 132, .ref 117, .type "object"], ns := 373, qualname := Str.ofString "BytesIO" }, slots := #[some (.ref 147), none, some (.str "BytesIO" 430), some (.str "BytesIO" 438), some .none, some (.bool true)] }) ::
  (nat_lit 384, { cls := .type "tuple", data := .seq #[.str "" 706, .str (Str.ofString "\n") 707] }) ::
  (nat_lit 390, { cls := .type "code", data := .fields #[.str "__init__" 708, .str "StringIO.__init__" 709, .str "/claim/cut.py" 710, .int 233 0, .int 3 0, .int 0 0, .int 0 0, .int 3 0, .ref 385, .bool true, .int 273 0, .ref 386, .none, .ref 387, .ref 388, .ref 389, .int 714 0, .int 233 0, .str "/claim/cut.py" 715] }) ::
  (nat_lit 391, { cls := .type "function", data := .func { name := Str.ofString "__init__", qualname := Str.ofString "StringIO.__init__", params := ((⟨⟨_, _, _, _, _, _, _⟩, rfl⟩ : (b : Arguments) ×' (b = argsOf (methAt 15 1))).1), body := FuncBody.stmts ((⟨List.cons _ _, rfl⟩ : (b : List Stmt) ×' (b = bodyOf (methAt 15 1))).1), scope := ((⟨⟨_, _, _, _, _⟩, rfl⟩ : (b : Scope) ×' (b = scopeOf (methAt 15 1))).1), globals := 3, closure := [], defaults := .ref 384, kwdefaults := .none, pyModule := .str "io" 322, code := .ref 390 } }) ::
  (nat_lit 397, { cls := .type "code", data := .fields #[.str "__translated" 717, .str "StringIO.__translated" 718, .str "/claim/cut.py" 719, .int 246 0, .int 2 0, .int 0 0, .int 0 0, .int 3 0, .ref 392, .bool true, .int 273 0, .ref 393, .none, .ref 394, .ref 395, .ref 396, .int 723 0, .int 246 0, .str "/claim/cut.py" 724] }) ::
  (nat_lit 398, { cls := .type "function", data := .func { name := Str.ofString "__translated", qualname := Str.ofString "StringIO.__translated", params := ((⟨⟨_, _, _, _, _, _, _⟩, rfl⟩ : (b : Arguments) ×' (b = argsOf (methAt 15 2))).1), body := FuncBody.stmts ((⟨List.cons _ _, rfl⟩ : (b : List Stmt) ×' (b = bodyOf (methAt 15 2))).1), scope := ((⟨⟨_, _, _, _, _⟩, rfl⟩ : (b : Scope) ×' (b = scopeOf (methAt 15 2))).1), globals := 3, closure := [], defaults := .none, kwdefaults := .none, pyModule := .str "io" 322, code := .ref 397 } }) ::
  (nat_lit 404, { cls := .type "code", data := .fields #[.str "__check" 726, .str "StringIO.__check" 727, .str "/claim/cut.py" 728, .int 254 0, .int 1 0, .int 0 0, .int 0 0, .int 3 0, .ref 399, .bool true, .int 273 0, .ref 400, .none, .ref 401, .ref 402, .ref 403, .int 730 0, .int 254 0, .str "/claim/cut.py" 731] }) ::
  (nat_lit 405, { cls := .type "function", data := .func { name := Str.ofString "__check", qualname := Str.ofString "StringIO.__check", params := ((⟨⟨_, _, _, _, _, _, _⟩, rfl⟩ : (b : Arguments) ×' (b = argsOf (methAt 15 3))).1), body := FuncBody.stmts ((⟨List.cons _ _, rfl⟩ : (b : List Stmt) ×' (b = bodyOf (methAt 15 3))).1), scope := ((⟨⟨_, _, _, _, _⟩, rfl⟩ : (b : Scope) ×' (b = scopeOf (methAt 14 2))).1), globals := 3, closure := [], defaults := .none, kwdefaults := .none, pyModule := .str "io" 322, code := .ref 404 } }) ::
  (nat_lit 427, { cls := .type "property", data := .fields #[.ref 426, .none, .none, .none, .str "closed" 762, .bool false] }) ::
  (nat_lit 435, { cls := .type "property", data := .fields #[.ref 434, .none, .none, .none, .str "line_buffering" 770, .bool false] }) ::
  (nat_lit 443, { cls := .type "property", data := .fields #[.ref 442, .none, .none, .none, .str "newlines" 778, .bool false] }) ::
  (nat_lit 451, { cls := .type "property", data := .fields #[.ref 450, .none, .none, .none, .str "encoding" 786, .bool false] }) ::
  (nat_lit 459, { cls := .type "property", data := .fields #[.ref 458, .none, .none, .none, .str "errors" 794, .bool false] }) ::
  (nat_lit 560, { cls := .type "tuple", data := .seq #[.int (-1) 899] }) ::
  (nat_lit 566, { cls := .type "code", data := .fields #[.str "read" 900, .str "StringIO.read" 901, .str "/claim/cut.py" 902, .int 376 0, .int 2 0, .int 2 0, .int 0 0, .int 3 0, .ref 561, .bool true, .int 273 0, .ref 562, .none, .ref 563, .ref 564, .ref 565, .int 907 0, .int 376 0, .str "/claim/cut.py" 908] }) ::
  (nat_lit 567, { cls := .type "function", data := .func { name := Str.ofString "read", qualname := Str.ofString "StringIO.read", params := ((⟨⟨_, _, _, _, _, _, _⟩, rfl⟩ : (b : Arguments) ×' (b = argsOf (methAt 15 25))).1), body := FuncBody.stmts ((⟨List.cons _ _, rfl⟩ : (b : List Stmt) ×' (b = bodyOf (methAt 15 25))).1), scope := ((⟨⟨_, _, _, _, _⟩, rfl⟩ : (b : Scope) ×' (b = scopeOf (methAt 15 25))).1), globals := 3, closure := [], defaults := .ref 560, kwdefaults := .none, pyModule := .str "io" 322, code := .ref 566 } }) ::
  (nat_lit 619, { cls := .type "tuple", data := .seq #[.str "__buf" 972, .str "__newline" 973, .str "__pos" 974] }) ::
  (nat_lit 620, { cls := .type "dict", data := .dict #[⟨keyHash P "__module__", .str "__module__" 699, .str "_io" 704⟩, ⟨keyHash P "__firstlineno__", .str "__firstlineno__" 703, .int 230 702⟩, ⟨keyHash P "__init__", .str "__init__" 716, .ref 391⟩, ⟨keyHash P "_StringIO__translated", .str "_StringIO__translated" 725, .ref 398⟩, ⟨keyHash P "_StringIO__check", .str "_StringIO__check" 732, .ref 405⟩, ⟨keyHash P "_StringIO__check_dot", .str "_StringIO__check_dot" 739, .ref 412⟩, ⟨keyHash P "_StringIO__line", .str "_StringIO__line" 754, .ref 419⟩, ⟨keyHash P "closed", .str "closed" 762, .ref 427⟩, ⟨keyHash P "line_buffering", .str "line_buffering" 770, .ref 435⟩, ⟨keyHash P "newlines", .str "newlines" 778, .ref 443⟩, ⟨keyHash P "encoding", .str "encoding" 786, .ref 451⟩, ⟨keyHash P "errors", .str "errors" 794, .ref 459⟩, ⟨keyHash P "close", .str "close" 801, .ref 466⟩, ⟨keyHash P "__enter__", .str "__enter__" 808, .ref 473⟩, ⟨keyHash P "__exit__", .str "__exit__" 816, .ref 480⟩, ⟨keyHash P "readable", .str "readable" 823, .ref 487⟩, ⟨keyHash P "writable", .str "writable" 830, .ref 494⟩, ⟨keyHash P "seekable", .str "seekable" 837, .ref 501⟩, ⟨keyHash P "isatty", .str "isatty" 844, .ref 508⟩, ⟨keyHash P "flush", .str "flush" 851, .ref 515⟩, ⟨keyHash P "fileno", .str "fileno" 858, .ref 522⟩, ⟨keyHash P "detach", .str "detach" 865, .ref 529⟩, ⟨keyHash P "getvalue", .str "getvalue" 872, .ref 536⟩, ⟨keyHash P "tell", .str "tell" 879, .ref 543⟩, ⟨keyHash P "seek", .str "seek" 889, .ref 551⟩, ⟨keyHash P "truncate", .str "truncate" 897, .ref 559⟩, ⟨keyHash P "read", .str "read" 909, .ref 567⟩, ⟨keyHash P "readline", .str "readline" 919, .ref 575⟩, ⟨keyHash P "readlines", .str "readlines" 929, .ref 583⟩, ⟨keyHash P "__iter__", .str "__iter__" 936, .ref 590⟩, ⟨keyHash P "__next__", .str "__next__" 944, .ref 597⟩, ⟨keyHash P "write", .str "write" 956, .ref 604⟩, ⟨keyHash P "writelines", .str "writelines" 964, .ref 611⟩, ⟨keyHash P "__repr__", .str "__repr__" 971, .ref 618⟩, ⟨keyHash P "__static_attributes__", .str "__static_attributes__" 975, .ref 619⟩, ⟨keyHash P "__doc__", .str "__doc__" 976, .none⟩] 2 }) ::
  (nat_lit 621, { cls := .type "type", data := .cls { name := Str.ofString "StringIO", bases := [.ref 144], mro := [.ref 621, .ref 144, .ref 117, .type "object"], ns := 620, qualname := Str.ofString "StringIO" }, slots := #[some (.ref 377), none, some (.str "StringIO" 692), some (.str "StringIO" 700), some .none, some (.bool true)] }) ::
  (nat_lit 673, { cls := .type "tuple", data := .seq #[.none, .none, .bool false, .bool false] }) ::
  (nat_lit 679, { cls := .type "code", data := .fields #[.str "__init__" 1051, .str "shlex.__init__" 1052, .str "/claim/cut.py" 1053, .int 501 0, .int 5 0, .int 0 0, .int 0 0, .int 3 0, .ref 674, .bool true, .int 273 0, .ref 675, .none, .ref 676, .ref 677, .ref 678, .int 1060 0, .int 501 0, .str "/claim/cut.py" 1061] }) ::
  (nat_lit 680, { cls := .type "function", data := .func { name := Str.ofString "__init__", qualname := Str.ofString "shlex.__init__", params := ((⟨⟨_, _, _, _, _, _, _⟩, rfl⟩ : (b : Arguments) ×' (b = argsOf (methAt 24 0))).1), body := FuncBody.stmts ((⟨List.cons _ _, rfl⟩ : (b : List Stmt) ×' (b = bodyOf (methAt 24 0))).1), scope := ((⟨⟨_, _, _, _, _⟩, rfl⟩ : (b : Scope) ×' (b = scopeOf (methAt 24 0))).1), globals := 3, closure := [], defaults := .ref 673, kwdefaults := .none, pyModule := .str "cpy313.shlex" 1037, code := .ref 679 } }) ::
  (nat_lit 686, { cls := .type "code", data := .fields #[.str "punctuation_chars" 1063, .str "shlex.punctuation_chars" 1064, .str "/claim/cut.py" 1065, .int 542 0, .int 1 0, .int 0 0, .int 0 0, .int 3 0, .ref 681, .bool true, .int 273 0, .ref 682, .none, .ref 683, .ref 684, .ref 685, .int 1067 0, .int 542 0, .str "/claim/cut.py" 1068] }) ::
  (nat_lit 687, { cls := .type "function", data := .func { name := Str.ofString "punctuation_chars", qualname := Str.ofString "shlex.punctuation_chars", params := ((⟨⟨_, _, _, _, _, _, _⟩, rfl⟩ : (b : Arguments) ×' (b = argsOf (methAt 24 1))).1), body := FuncBody.stmts ((⟨List.cons _ _, rfl⟩ : (b : List Stmt) ×' (b = bodyOf (methAt 24 1))).1), scope := ((⟨⟨_, _, _, _, _⟩, rfl⟩ : (b : Scope) ×' (b = scopeOf (methAt 14 4))).1), globals := 3, closure := [], defaults := .none, kwdefaults := .none, pyModule := .str "cpy313.shlex" 1037, code := .ref 686 } }) ::
  (nat_lit 688, { cls := .type "property", data := .fields #[.ref 687, .none, .none, .none, .str "punctuation_chars" 1070, .bool false] }) ::
  (nat_lit 694, { cls := .type "code", data := .fields #[.str "push_token" 1071, .str "shlex.push_token" 1072, .str "/claim/cut.py" 1073, .int 546 0, .int 2 0, .int 0 0, .int 0 0, .int 3 0, .ref 689, .bool true, .int 273 0, .ref 690, .none, .ref 691, .ref 692, .ref 693, .int 1076 0, .int 546 0, .str "/claim/cut.py" 1077] }) ::
  (nat_lit 695, { cls := .type "function", data := .func { name := Str.ofString "push_token", qualname := Str.ofString "shlex.push_token", params := ((⟨⟨_, _, _, _, _, _, _⟩, rfl⟩ : (b : Arguments) ×' (b = argsOf (methAt 24 2))).1), body := FuncBody.stmts ((⟨List.cons _ _, rfl⟩ : (b : List Stmt) ×' (b = bodyOf (methAt 24 2))).1), scope := ((⟨⟨_, _, _, _, _⟩, rfl⟩ : (b : Scope) ×' (b = scopeOf (methAt 24 2))).1), globals := 3, closure := [], defaults := .none, kwdefaults := .none, pyModule := .str "cpy313.shlex" 1037, code := .ref 694 } }) ::
  (nat_lit 716, { cls := .type "code", data := .fields #[.str "get_token" 1095, .str "shlex.get_token" 1096, .str "/claim/cut.py" 1097, .int 571 0, .int 1 0, .int 0 0, .int 0 0, .int 3 0, .ref 711, .bool true, .int 273 0, .ref 712, .none, .ref 713, .ref 714, .ref 715, .int 1104 0, .int 571 0, .str "/claim/cut.py" 1105] }) ::
  (nat_lit 717, { cls := .type "function", data := .func { name := Str.ofString "get_token", qualname := Str.ofString "shlex.get_token", params := ((⟨⟨_, _, _, _, _, _, _⟩, rfl⟩ : (b : Arguments) ×' (b = argsOf (methAt 24 5))).1), body := FuncBody.stmts ((⟨List.cons _ _, rfl⟩ : (b : List Stmt) ×' (b = bodyOf (methAt 24 5))).1), scope := ((⟨⟨_, _, _, _, _⟩, rfl⟩ : (b : Scope) ×' (b = scopeOf (methAt 24 5))).1), globals := 3, closure := [], defaults := .none, kwdefaults := .none, pyModule := .str "cpy313.shlex" 1037, code := .ref 716 } }) ::
  (nat_lit 723, { cls := .type "code", data := .fields #[.str "read_token" 1107, .str "shlex.read_token" 1108, .str "/claim/cut.py" 1109, .int 598 0, .int 1 0, .int 0 0, .int 0 0, .int 3 0, .ref 718, .bool true, .int 273 0, .ref 719, .none, .ref 720, .ref 721, .ref 722, .int 1115 0, .int 598 0, .str "/claim/cut.py" 1116] }) ::
  (nat_lit 724, { cls := .type "function", data := .func { name := Str.ofString "read_token", qualname := Str.ofString "shlex.read_token", params := ((⟨⟨_, _, _, _, _, _, _⟩, rfl⟩ : (b : Arguments) ×' (b = argsOf (methAt 24 6))).1), body := FuncBody.stmts ((⟨List.cons _ _, rfl⟩ : (b : List Stmt) ×' (b = bodyOf (methAt 24 6))).1), scope := ((⟨⟨_, _, _, _, _⟩, rfl⟩ : (b : Scope) ×' (b = scopeOf (methAt 24 6))).1), globals := 3, closure := [], defaults := .none, kwdefaults := .none, pyModule := .str "cpy313.shlex" 1037, code := .ref 723 } }) ::
  (nat_lit 754, { cls := .type "tuple", data := .seq #[.str "_punctuation_chars" 1150, .str "_pushback_chars" 1151, .str "commenters" 1152, .str "debug" 1153, .str "eof" 1154, .str "escape" 1155, .str "escapedquotes" 1156, .str "filestack" 1157, .str "infile" 1158, .str "instream" 1159, .str "lineno" 1160, .str "posix" 1161, .str "pushback" 1162, .str "quotes" 1163, .str "source" 1164, .str "state" 1165, .str "token" 1166, .str "whitespace" 1167, .str "whitespace_split" 1168, .str "wordchars" 1169] }) ::
  (nat_lit 755, { cls := .type "dict", data := .dict #[⟨keyHash P "__module__", .str "__module__" 1046, .str "cpy313.shlex" 1037⟩, ⟨keyHash P "__firstlineno__", .str "__firstlineno__" 1050, .int 499 1049⟩, ⟨keyHash P "__init__", .str "__init__" 1062, .ref 680⟩, ⟨keyHash P "punctuation_chars", .str "punctuation_chars" 1070, .ref 688⟩, ⟨keyHash P "push_token", .str "push_token" 1078, .ref 695⟩, ⟨keyHash P "push_source", .str "push_source" 1087, .ref 703⟩, ⟨keyHash P "pop_source", .str "pop_source" 1094, .ref 710⟩, ⟨keyHash P "get_token", .str "get_token" 1106, .ref 717⟩, ⟨keyHash P "read_token", .str "read_token" 1117, .ref 724⟩, ⟨keyHash P "sourcehook", .str "sourcehook" 1125, .ref 731⟩, ⟨keyHash P "error_leader", .str "error_leader" 1134, .ref 739⟩, ⟨keyHash P "__iter__", .str "__iter__" 1141, .ref 746⟩, ⟨keyHash P "__next__", .str "__next__" 1149, .ref 753⟩, ⟨keyHash P "__static_attributes__", .str "__static_attributes__" 1170, .ref 754⟩, ⟨keyHash P "__dict__", .str "__dict__" 1172, .ref 757⟩, ⟨keyHash P "__weakref__", .str "__weakref__" 1174, .ref 758⟩, ⟨keyHash P "__doc__", .str "__doc__" 1175, .none⟩] 4 }) ::
  (nat_lit 756, { cls := .type "type", data := .cls { name := Str.ofString "shlex", bases := [.type "object"], mro := [.ref 756, .type "object"], ns := 755, qualname := Str.ofString "shlex" }, slots := #[none, none, some (.str "shlex" 1039), some (.str "shlex" 1047), some (.builtin "object.__new__"), some (.bool true)] }) ::
  (nat_lit 757, { cls := .type "getset_descriptor", data := .fields #[.str "__dict__" 1171, .ref 756, .builtin "function.__dict__", .builtin "function.__dict__#set"] }) ::
  (nat_lit 758, { cls := .type "getset_descriptor", data := .fields #[.str "__weakref__" 1173, .ref 756, .builtin "ExceptionGroup.__weakref__", .none] }) ::
  (nat_lit 764, { cls := .type "code", data := .fields #[.str "_law_text" 1180, .str "_law_text" 1181, .str "/claim/cut.py" 1182, .int 754 0, .int 1 0, .int 0 0, .int 0 0, .int 3 0, .ref 761, .bool true, .int 273 0, .ref 762, .none, .none, .none, .ref 763, .int 1183 0, .int 754 0, .str "/claim/cut.py" 1184] }) ::
  (nat_lit 765, { cls := .type "function", data := .func { name := Str.ofString "_law_text", qualname := Str.ofString "_law_text", params := ((⟨⟨_, _, _, _, _, _, _⟩, rfl⟩ : (b : Arguments) ×' (b = argsOf (defAt 26))).1), body := FuncBody.stmts ((⟨List.cons _ _, rfl⟩ : (b : List Stmt) ×' (b = bodyOf (defAt 26))).1), scope := ((⟨⟨_, _, _, _, _⟩, rfl⟩ : (b : Scope) ×' (b = scopeOf (defAt 26))).1), globals := 3, closure := [], defaults := .none, kwdefaults := .none, pyModule := .str "law_ij0056_01" 1178, code := .ref 764 } }) ::
  (nat_lit 771, { cls := .type "code", data := .fields #[.str "_law_tree" 1186, .str "_law_tree" 1187, .str "/claim/cut.py" 1188, .int 757 0, .int 1 0, .int 0 0, .int 0 0, .int 3 0, .ref 766, .bool true, .int 273 0, .ref 767, .none, .ref 768, .ref 769, .ref 770, .int 1196 0, .int 757 0, .str "/claim/cut.py" 1197] }) ::
  (nat_lit 772, { cls := .type "function", data := .func { name := Str.ofString "_law_tree", qualname := Str.ofString "_law_tree", params := ((⟨⟨_, _, _, _, _, _, _⟩, rfl⟩ : (b : Arguments) ×' (b = argsOf (defAt 27))).1), body := FuncBody.stmts ((⟨List.cons _ _, rfl⟩ : (b : List Stmt) ×' (b = bodyOf (defAt 27))).1), scope := ((⟨⟨_, _, _, _, _⟩, rfl⟩ : (b : Scope) ×' (b = scopeOf (defAt 27))).1), globals := 3, closure := [], defaults := .none, kwdefaults := .none, pyModule := .str "law_ij0056_01" 1178, code := .ref 771 } }) ::
  (nat_lit 778, { cls := .type "code", data := .fields #[.str "_law_written" 1199, .str "_law_written" 1200, .str "/claim/cut.py" 1201, .int 770 0, .int 4 0, .int 0 0, .int 0 0, .int 3 0, .ref 773, .bool true, .int 273 0, .ref 774, .none, .ref 775, .ref 776, .ref 777, .int 1211 0, .int 770 0, .str "/claim/cut.py" 1212] }) ::
  (nat_lit 779, { cls := .type "function", data := .func { name := Str.ofString "_law_written", qualname := Str.ofString "_law_written", params := ((⟨⟨_, _, _, _, _, _, _⟩, rfl⟩ : (b : Arguments) ×' (b = argsOf (defAt 28))).1), body := FuncBody.stmts ((⟨List.cons _ _, rfl⟩ : (b : List Stmt) ×' (b = bodyOf (defAt 28))).1), scope := ((⟨⟨_, _, _, _, _⟩, rfl⟩ : (b : Scope) ×' (b = scopeOf (defAt 28))).1), globals := 3, closure := [], defaults := .none, kwdefaults := .none, pyModule := .str "law_ij0056_01" 1178, code := .ref 778 } }) ::
  (nat_lit 785, { cls := .type "code", data := .fields #[.str "_law_sign" 1214, .str "_law_sign" 1215, .str "/claim/cut.py" 1216, .int 790 0, .int 1 0, .int 0 0, .int 0 0, .int 3 0, .ref 780, .bool true, .int 273 0, .ref 781, .none, .ref 782, .ref 783, .ref 784, .int 1219 0, .int 790 0, .str "/claim/cut.py" 1220] }) ::
  (nat_lit 786, { cls := .type "function", data := .func { name := Str.ofString "_law_sign", qualname := Str.ofString "_law_sign", params := ((⟨⟨_, _, _, _, _, _, _⟩, rfl⟩ : (b : Arguments) ×' (b = argsOf (defAt 29))).1), body := FuncBody.stmts ((⟨List.cons _ _, rfl⟩ : (b : List Stmt) ×' (b = bodyOf (defAt 29))).1), scope := ((⟨⟨_, _, _, _, _⟩, rfl⟩ : (b : Scope) ×' (b = scopeOf (defAt 29))).1), globals := 3, closure := [], defaults := .none, kwdefaults := .none, pyModule := .str "law_ij0056_01" 1178, code := .ref 785 } }) ::
  (nat_lit 790, { cls := .type "code", data := .fields #[.str "_law_read" 1222, .str "_law_read" 1223, .str "/claim/cut.py" 1224, .int 796 0, .int 2 0, .int 0 0, .int 0 0, .int 3 0, .ref 787, .bool true, .int 273 0, .ref 788, .none, .none, .none, .ref 789, .int 1225 0, .int 796 0, .str "/claim/cut.py" 1226] }) ::
  (nat_lit 791, { cls := .type "function", data := .func { name := Str.ofString "_law_read", qualname := Str.ofString "_law_read", params := ((⟨⟨_, _, _, _, _, _, _⟩, rfl⟩ : (b : Arguments) ×' (b = argsOf (defAt 30))).1), body := FuncBody.stmts ((⟨List.cons _ _, rfl⟩ : (b : List Stmt) ×' (b = bodyOf (defAt 30))).1), scope := ((⟨⟨_, _, _, _, _⟩, rfl⟩ : (b : Scope) ×' (b = scopeOf (defAt 30))).1), globals := 3, closure := [], defaults := .none, kwdefaults := .none, pyModule := .str "law_ij0056_01" 1178, code := .ref 790 } }) ::
  (nat_lit 797, { cls := .type "code", data := .fields #[.str "law" 1228, .str "law" 1229, .str "/claim/cut.py" 1230, .int 827 0, .int 1 0, .int 0 0, .int 0 0, .int 3 0, .ref 792, .bool true, .int 273 0, .ref 793, .none, .ref 794, .ref 795, .ref 796, .int 1238 0, .int 827 0, .str "/claim/cut.py" 1239] }) ::
  (nat_lit 798, { cls := .type "function", data := .func { name := Str.ofString "law", qualname := Str.ofString "law", params := ((⟨⟨_, _, _, _, _, _, _⟩, rfl⟩ : (b : Arguments) ×' (b = argsOf (defAt 31))).1), body := FuncBody.stmts ((⟨List.cons _ _, rfl⟩ : (b : List Stmt) ×' (b = bodyOf (defAt 31))).1), scope := ((⟨⟨_, _, _, _, _⟩, rfl⟩ : (b : Scope) ×' (b = scopeOf (defAt 31))).1), globals := 3, closure := [], defaults := .none, kwdefaults := .none, pyModule := .str "law_ij0056_01" 1178, code := .ref 797 } }) :: []
noncomputable def KKas : List Addr := [0, 1, 2, 3, 38, 39, 45, 46, 47, 48, 54, 55, 56, 57, 63, 64, 65, 66, 72, 73, 86, 87, 113, 114, 115, 116, 117, 118, 119, 120, 142, 143, 144, 374, 384, 390, 391, 397, 398, 404, 405, 427, 435, 443, 451, 459, 560, 566, 567, 619, 620, 621, 673, 679, 680, 686, 687, 688, 694, 695, 716, 717, 723, 724, 754, 755, 756, 757, 758, 764, 765, 771, 772, 778, 779, 785, 786, 790, 791, 797, 798]
end Mine
end
-- part Hd1
section
open PySem PySem.W PyProof.Rows
set_option maxHeartbeats 0
namespace Mine
def impRunT (tb : String → Option Builtin) (p : Program) (w : World) : Nat → SharedT → Thread → Option SharedT
  | 0, _, _ => none
  | n + 1, s, t => match t.atExitBegin with
    | some [] => some s
    | some (_ :: _) => none
    | none => match stepT (denote tb) p w s t with
      | some (s', t') => impRunT tb p w n s' t'
      | none => none
theorem impRun_of {tb : String → Option Builtin} {p : Program} {w : World} : ∀ {n : Nat} {s s' : SharedT} {t : Thread}, impRunT tb p w n s t = some s' → importEnds tb p w n s.abs t = some s'.abs
  | 0, _, _, _, h => by cases h
  | n + 1, s, s', t, h => by
    unfold impRunT at h
    unfold importEnds
    cases he : t.atExitBegin with
    | some x =>
      rw [he] at h
      cases x with
      | nil => cases h; rfl
      | cons a l => cases h
    | none =>
      rw [he] at h
      cases hs : stepT (denote tb) p w s t with
      | none => rw [hs] at h; cases h
      | some r => obtain ⟨s₂, t₂⟩ := r; rw [hs] at h; dsimp only; rw [stepT_spec hs]; exact impRun_of h
def buildT : List Obj → Nat → BT → Option (BT × Nat)
  | [], n, T => some (T, n)
  | o :: l, n, T => match ((T.ins n o).get n).isSome with
    | true => buildT l (n + 1) (T.ins n o)
    | false => none
theorem buildT_abs {life : Life} : ∀ {l : List Obj} {n : Nat} {T : BT} {r : BT × Nat} {pre : List Obj}, absHeap T n life = ⟨pre.toArray, life⟩ → buildT l n T = some r → absHeap r.1 r.2 life = ⟨(pre ++ l).toArray, life⟩
  | [], n, T, r, pre, h, e => by cases e; rw [List.append_nil]; exact h
  | o :: l, n, T, r, pre, h, e => by
    unfold buildT at e
    cases g : ((T.ins n o).get n).isSome with
    | false => rw [g] at e; cases e
    | true =>
      rw [g] at e
      have h2 : absHeap (T.ins n o) (n + 1) life = ⟨(pre ++ [o]).toArray, life⟩ := by
        rw [absHeap_ins g, h]
        show Heap.mk _ _ = Heap.mk _ _
        congr 1
        simp
      have := buildT_abs h2 e
      rw [this, List.append_assoc]
      rfl
def toT (s : Shared) : Option SharedT := (buildT s.heap.objs.toList 0 .nil).map fun r => ⟨r.1, r.2, s.heap.life, s.gens, s.drawn, s.toks, s.os⟩
theorem toT_abs {s : Shared} {t : SharedT} (h : toT s = some t) : t.abs = s := by
  obtain ⟨r, hr, rfl⟩ := Option.map_eq_some_iff.mp h
  have := buildT_abs (life := s.heap.life) (pre := []) rfl hr
  show Shared.mk (absHeap r.1 r.2 s.heap.life) _ _ _ _ = s
  rw [this, List.nil_append]
def openT (p : Program) (w : World) (N : Nat) : Option SharedT := (toT (start (opening p)).1).bind fun s => impRunT treeTable (opening p) w N s (start (opening p)).2
theorem openT_of {p : Program} {w : World} {N : Nat} {s s' : SharedT} (hf : fenceModules? p s.abs = some s'.abs) (h : openT p w N = some s) : fencedOpening treeTable p w N = some s'.abs := by
  obtain ⟨t, h1, h2⟩ := Option.bind_eq_some_iff.mp h
  unfold fencedOpening
  have := impRun_of h2
  rw [toT_abs h1] at this
  rw [this]
  exact hf
theorem left_of {p q : Program} {loose : List Str} {Xt : Shared → Bool} {α : Type} {Yf : Shared → α} {Ya : World → α} {N : Nat} {g0 : Bool} {S₀ S₁ : World → SharedT} {m₀ : Nat} {ann : Option Value} {M : Nat}
    (open_ : ∀ w : World, openT p w N = some (S₁ w)) (hf : ∀ w : World, fenceModules? p (S₁ w).abs = some (S₀ w).abs)
    (size : ∀ w : World, ((S₀ w).abs.heap.isNs mainGlobals && (S₀ w).gens.size == 0, (S₀ w).n, (S₀ w).abs.heap.nsMap mainGlobals "__annotations__") = (true, m₀, ann))
    (run : ∀ (w : World), ∃ s₁, topRun treeTable p w m₀ ann M (S₀ w).abs (topStub p) = some s₁ ∧
      ((staticsOk (importedModules p.main.body) (S₀ w).abs.heap s₁.heap && namesBound p s₁.heap && gensDone s₁ && laidKept (S₀ w).abs.heap s₁.heap), openSeen q loose (importedModules p.main.body) Xt g0 s₁, Yf s₁) = (true, openGood q loose, Ya w))
    (le : Nat.ble M N = true) : LeftO p q loose Xt Yf Ya N g0 := fun w => by
  obtain ⟨z1, z2, z3⟩ : _ ∧ _ ∧ _ := by simpa only [Prod.mk.injEq] using size w
  obtain ⟨s₁, hr, hl⟩ := run w
  obtain ⟨l1, l2, l3⟩ : _ ∧ _ ∧ _ := by simpa only [Prod.mk.injEq] using hl
  have r := topRun_mono (N - M) _ _ _ _ hr
  rw [show M + (N - M) = N by have := Nat.le_of_ble_eq_true le; omega] at r
  have z2' : (S₀ w).abs.heap.objs.size = m₀ := (absHeap_size _ _ _).trans z2
  have t : topFrom treeTable p w N (S₀ w).abs = some s₁ := by
    unfold topFrom
    have z1' : ((S₀ w).abs.heap.isNs mainGlobals && (S₀ w).abs.gens.size == 0) = true := z1
    rw [z1', z2', z3, r]
    show (match staticsOk (importedModules p.main.body) (S₀ w).abs.heap s₁.heap && namesBound p s₁.heap && gensDone s₁ && laidKept (S₀ w).abs.heap s₁.heap with | true => _ | false => _) = _
    rw [l1]
  unfold openEnds
  rw [openT_of (hf w) (open_ w)]
  show (topFrom treeTable p w N _).map _ = _
  rw [t]
  exact congrArg some (Prod.ext l2 l3)
abbrev pw : Program := PySem.Challenge.pw_ij0056_01
noncomputable def osM : OsState := (start (opening pw)).1.os
noncomputable abbrev sAT (w : World) : SharedT := ⟨tA w.params, 29, {}, #[], {}, 273, osM⟩
noncomputable abbrev sBT (w : World) : SharedT := ⟨tB w.params, 147, {}, #[], {}, 430, osM⟩
def bE : List Stmt := behindTheImports pw
def envM : Env := { scope := pw.main.scope, locals := mainNs, globals := mainNs, cells := [], code := .ref 31, frame := some 32 }
def cM : Code := .body bE envM
abbrev bM : List Frame := [topFrame default]
abbrev annM : Option Value := some (.ref 6)
abbrev posB : Pos := ⟨58, 0, 59, 21⟩
noncomputable abbrev sA0 (w : World) : SharedT := ⟨tA0 w.params, 29, {}, #[], {}, 273, osM⟩
theorem opened (w : World) : openT pw w 10000 = some (sA0 w) := by kernel_rfl
theorem fenced0 (w : World) : fenceModules? pw (sA0 w).abs = some { (sA0 w).abs with heap := (sA0 w).abs.heap.update 12 (fun _ => hb12 w.params) } := by kernel_rfl
theorem tA0_12 (P : Params) : (tA0 P).get 12 = some (hp12 P) := by kernel_rfl
theorem fenced (w : World) : fenceModules? pw (sA0 w).abs = some (sAT w).abs := by
  rw [fenced0]
  show some (Shared.mk _ _ _ _ _) = some (Shared.mk (absHeap ((tA0 w.params).set 12 _) _ _) _ _ _ _)
  rw [absHeap_set (tA0_12 w.params)]
  rfl
theorem sized (w : World) : ((sAT w).abs.heap.isNs mainGlobals && (sAT w).gens.size == 0, (sAT w).n, (sAT w).abs.heap.nsMap mainGlobals "__annotations__") = (true, 29, annM) := by kernel_rfl
end Mine
end
-- part Hd2
section
open PySem PySem.W PyProof.Rows
set_option maxHeartbeats 0
namespace Mine
noncomputable def preS (w : World) : Shared := match topGo treeTable pw w 29 annM 12 (sAT w).abs (topStub pw) with
  | some (s, _) => s
  | none => (sAT w).abs
theorem pre_go (w : World) : topGo treeTable pw w 29 annM 12 (sAT w).abs (topStub pw) = some (preS w, ⟨denote treeTable cM, cM, default, bM⟩) := by kernel_rfl
noncomputable def blkS (w : World) : Shared := match segRun treeTable pw w 29 annM 1 1 (preS w) (blockOf bE envM cM default bM) with
  | some (_, s, _) => s
  | none => preS w
theorem blk_go (w : World) : segRun treeTable pw w 29 annM 1 1 (preS w) (blockOf bE envM cM default bM) = some (.next, blkS w, cM, default) := by kernel_rfl
noncomputable def blkT (w : World) : SharedT := (toT (blkS w)).getD (sAT w)
theorem blk_T (w : World) : toT (blkS w) = some (blkT w) := by kernel_rfl
end Mine
end
-- part Hd3
section
open PySem PySem.W PyProof.Rows
set_option maxHeartbeats 0
namespace Mine
noncomputable abbrev sCT (w : World) : SharedT := ⟨tC w.params, 377, {}, #[], {}, 692, osM⟩
noncomputable abbrev sDT (w : World) : SharedT := ⟨tD w.params, 624, {}, #[], {}, 979, osM⟩
abbrev posC : Pos := ⟨60, 0, 229, 17⟩
abbrev posD : Pos := ⟨230, 0, 434, 17⟩
abbrev posE : Pos := ⟨827, 0, 833, 41⟩
theorem go_B (w : World) : segRunT treeTable pw w 29 annM 1 1200 (blkT w) (piecesOf (bE.take 13) envM cM default bM) = some (.next, sBT w, cM, posB) := by kernel_rfl
theorem go_C (w : World) : segRunT treeTable pw w 29 annM 1 1300 (sBT w) (piecesOf ((bE.drop 13).take 1) envM cM posB bM) = some (.next, sCT w, cM, posC) := by kernel_rfl
theorem go_D (w : World) : segRunT treeTable pw w 29 annM 1 1600 (sCT w) (piecesOf ((bE.drop 14).take 1) envM cM posC bM) = some (.next, sDT w, cM, posD) := by kernel_rfl
end Mine
end
-- part Hd4
section
open PySem PySem.W PyProof.Rows
set_option maxHeartbeats 0
namespace Mine
def rowL : OpenRow := PySem.Challenge.rw_ij0056_01.row
noncomputable def vwL : Program := { pw with main := { pw.main with body := pw.main.body.drop 31 } }
def looseN : List PySem.Str := ["deque", "_wall", "dict_replace_saxutils", "escape", "unescape", "quoteattr", "_whence", "_index", "UnsupportedOperation", "IOBase", "BufferedIOBase", "TextIOBase", "BytesIO", "StringIO", "_kind", "_fspath", "_check_arg_types", "isabs", "join", "dirname", "shlex", "_law_text", "_law_tree", "_law_written", "_law_sign", "_law_read"].map PySem.Str.ofString
theorem KK_as (P : Params) : KKas = (KK P).map (·.1) := by kernel_rfl
noncomputable abbrev hookM : Hook := kHook KK KKas KK_as
noncomputable abbrev XtM : Shared → Bool := fun s => xlAt vwL [] s && recOk (RowW.records rowL.toRowW) s
noncomputable def looksM (h₀ : Heap) (s₁ : Shared) := ((staticsOk (importedModules pw.main.body) h₀ s₁.heap && namesBound pw s₁.heap && gensDone s₁ && laidKept h₀ s₁.heap), openSeen vwL looseN (importedModules pw.main.body) XtM true s₁, Hook.obs hookM s₁)
theorem end_D (w : World) : (segRunT treeTable pw w 29 annM 1 1200 (sDT w) (piecesOf (bE.drop 15) envM cM posD bM)).map (fun r => (r.1, r.2.2.1, r.2.2.2, looksM (sAT w).abs.heap r.2.1.abs)) = some (.next, cM, posE, true, openGood vwL looseN, Hook.val hookM w) := by kernel_rfl
end Mine
end
-- part Hd5
section
open PySem PySem.W PyProof.Rows
set_option maxHeartbeats 0
namespace Mine
theorem chain_M {tb : String → Option Builtin} {p : Program} {w : World} {n₀ : Nat} {ann : Option Value} {env : Env} {q : Pos} {β : Type} {f : Shared → β} {v : β} {b : List Stmt} {st : Thread} {q0 q1 q2 q3 q4 q5 : Pos} {s0 s1 s2 : Shared} {t2 t3 t4 t5 : SharedT} {a1 a2 a3 a4 a5 a6 : Nat}
    (pre : topGo tb p w n₀ ann a1 s0 st = some (s1, ⟨denote tb (.body b env), .body b env, q0, [topFrame q]⟩))
    (blk : segRun tb p w n₀ ann 1 a2 s1 (blockOf b env (.body b env) q0 [topFrame q]) = some (.next, s2, .body b env, q1)) (hT : toT s2 = some t2)
    (g1 : segRunT tb p w n₀ ann 1 a3 t2 (piecesOf (b.take 13) env (.body b env) q1 [topFrame q]) = some (.next, t3, .body b env, q2))
    (g2 : segRunT tb p w n₀ ann 1 a4 t3 (piecesOf ((b.drop 13).take 1) env (.body b env) q2 [topFrame q]) = some (.next, t4, .body b env, q3))
    (g3 : segRunT tb p w n₀ ann 1 a5 t4 (piecesOf ((b.drop 14).take 1) env (.body b env) q3 [topFrame q]) = some (.next, t5, .body b env, q4))
    (g4 : (segRunT tb p w n₀ ann 1 a6 t5 (piecesOf (b.drop 15) env (.body b env) q4 [topFrame q])).map (fun r => (r.1, r.2.2.1, r.2.2.2, f r.2.1.abs)) = some (.next, .body b env, q5, v))
    (fin : ∀ s, topRun tb p w n₀ ann 2 s ⟨doneF .next, .body b env, q5, [topFrame q]⟩ = some s) :
    ∃ s₁, topRun tb p w n₀ ann (a1 + (a2 + (a3 + (a4 + (a5 + (a6 + 2)))))) s0 st = some s₁ ∧ f s₁ = v := by
  obtain ⟨⟨g, s', c, z⟩, hr, hl⟩ := Option.map_eq_some_iff.mp g4
  simp only [Prod.mk.injEq] at hl
  obtain ⟨rfl, rfl, rfl, hl⟩ := hl
  refine ⟨s'.abs, ?_, hl⟩
  have k1 := piece_nil (env := env) (q := q) (fin s'.abs)
  have k2 := piece_app (l := b.drop 15) (rest := []) (segRun_of hr) k1
  rw [List.append_nil] at k2
  have e3 : (b.drop 14).take 1 ++ b.drop 15 = b.drop 14 := by rw [show b.drop 15 = (b.drop 14).drop 1 from by rw [List.drop_drop]]; exact List.take_append_drop 1 _
  have k3 := piece_app (segRun_of g3) k2
  rw [e3] at k3
  have e4 : (b.drop 13).take 1 ++ b.drop 14 = b.drop 13 := by rw [show b.drop 14 = (b.drop 13).drop 1 from by rw [List.drop_drop]]; exact List.take_append_drop 1 _
  have k4 := piece_app (segRun_of g2) k3
  rw [e4] at k4
  have k5 := piece_app (segRun_of g1) k4
  rw [List.take_append_drop, toT_abs hT] at k5
  exact go_top pre (piece_block blk k5)
theorem fin_go (w : World) (s : Shared) : topRun treeTable pw w 29 annM 2 s ⟨doneF .next, cM, posE, bM⟩ = some s := by kernel_rfl
theorem run_M (w : World) : ∃ s₁, topRun treeTable pw w 29 annM (12 + (1 + (1200 + (1300 + (1600 + (1200 + 2)))))) (sAT w).abs (topStub pw) = some s₁ ∧ looksM (sAT w).abs.heap s₁ = (true, openGood vwL looseN, Hook.val hookM w) :=
  @chain_M treeTable pw w 29 annM envM default _ (looksM (sAT w).abs.heap) (true, openGood vwL looseN, Hook.val hookM w) bE (topStub pw) default default posB posC posD posE (sAT w).abs (preS w) (blkS w) (blkT w) (sBT w) (sCT w) (sDT w) 12 1 1200 1300 1600 1200 (pre_go w) (blk_go w) (blk_T w) (go_B w) (go_C w) (go_D w) (end_D w) (fin_go w)
end Mine
end
-- part Hd6
section
open PySem PySem.W PyProof.Rows
set_option maxHeartbeats 0
namespace Mine
theorem left_M : LeftO rowL.prog vwL looseN XtM (Hook.obs hookM) (Hook.val hookM) 10000 :=
  @left_of pw vwL looseN XtM _ (Hook.obs hookM) (Hook.val hookM) 10000 true sAT sA0 29 annM _ (fun w => opened w) (fun w => fenced w) (fun w => sized w) run_M (by decide)
end Mine
end
-- part Sd
section
open PySem PySem.W PyProof.Rows
namespace Mine
theorem sd0 : looksOpen rowL.prog = true := by
  delta looksOpen
  refine look_both (look_both (look_both (look_both (look_both ?a ?b) ?c) ?d) ?e) ?f <;> decide +kernel
theorem sd1a : rowL.partSaid = true := by
  delta OpenRow.partSaid
  with_reducible refine look_both (look_both (look_both (look_both (look_both (look_both (look_both (look_both (look_both (look_both (look_both (look_both (look_both sd0 ?b1) ?b2) ?b3) ?b4) ?b5) ?b6) ?b7) ?b8) ?b9) ?b10) ?b11) ?b12) ?b13 <;> decide +kernel
theorem sd1 : rowL.wellSaid = true := by
  delta OpenRow.wellSaid
  with_reducible refine look_both (look_both sd1a ?c1) ?c2 <;> decide +kernel
theorem sd2 : PySem.Challenge.rw_ij0056_01.wellSaid = true := by
  delta OpenLaw.wellSaid
  refine look_both (look_both (look_both (look_both (look_both (look_both (look_both (look_both (look_both (look_both (look_both (look_both (look_both (look_both (look_both (look_both (look_both (look_both sd1 ?b1) ?b2) ?b3) ?b4) ?b5) ?b6) ?b7) ?b8) ?b9) ?b10) ?b11) ?b12) ?b13) ?b14) ?b15) ?b16) ?b17) ?b18 <;> decide +kernel
end Mine
end
-- part Deq
section
open PySem PySem.W PySem.Spec PySem.Calls PyProof.Rows
namespace Mine
noncomputable abbrev dqObj (k : Int) (xs : List Value) : Obj := { cls := .type "collections.deque", data := .fields (Value.none :: Value.int k 0 :: xs).toArray }
theorem dq_plain : PlainAttrs "collections.deque" :=
  ⟨⟨"collections.deque.__getattribute__", by rw [typeLookup_type, builtinLookup_eq_fast]; kernel_rfl, by decide +kernel⟩, by rw [typeLookup_type, builtinLookup_eq_fast]; kernel_rfl⟩
theorem dq_slot_append : Slot "collections.deque" "append" "collections.deque.append" :=
  .of (owner := "collections.deque") (n := "append") (by rw [typeLookup_type, builtinLookup_eq_fast]; kernel_rfl) (by decide +kernel) (by decide +kernel) (by decide +kernel)
    (by first | exact .inl (by decide +kernel) | exact .inr (by decide +kernel)) (by rw [isSubtype_type]; kernel_rfl)
theorem dq_type_append : typeOf (.builtin "collections.deque.append") = pure (.type "method_descriptor") := by show builtinType _ = _; rw [builtinType_eq_fast]; kernel_rfl
theorem dq_entry_append : entryFor table "collections.deque.append" = some Builtin.«collections.deque.append» := entryFor_of_tree (by kernel_rfl)
theorem dq_args_append (a b : Value) : argsOk "collections.deque.append" ⟨[a, b], []⟩ := by unfold argsOk; kernel_rfl
theorem dq_slot_appendleft : Slot "collections.deque" "appendleft" "collections.deque.appendleft" :=
  .of (owner := "collections.deque") (n := "appendleft") (by rw [typeLookup_type, builtinLookup_eq_fast]; kernel_rfl) (by decide +kernel) (by decide +kernel) (by decide +kernel)
    (by first | exact .inl (by decide +kernel) | exact .inr (by decide +kernel)) (by rw [isSubtype_type]; kernel_rfl)
theorem dq_type_appendleft : typeOf (.builtin "collections.deque.appendleft") = pure (.type "method_descriptor") := by show builtinType _ = _; rw [builtinType_eq_fast]; kernel_rfl
theorem dq_entry_appendleft : entryFor table "collections.deque.appendleft" = some Builtin.«collections.deque.appendleft» := entryFor_of_tree (by kernel_rfl)
theorem dq_args_appendleft (a b : Value) : argsOk "collections.deque.appendleft" ⟨[a, b], []⟩ := by unfold argsOk; kernel_rfl
theorem dq_slot_pop : Slot "collections.deque" "pop" "collections.deque.pop" :=
  .of (owner := "collections.deque") (n := "pop") (by rw [typeLookup_type, builtinLookup_eq_fast]; kernel_rfl) (by decide +kernel) (by decide +kernel) (by decide +kernel)
    (by first | exact .inl (by decide +kernel) | exact .inr (by decide +kernel)) (by rw [isSubtype_type]; kernel_rfl)
theorem dq_type_pop : typeOf (.builtin "collections.deque.pop") = pure (.type "method_descriptor") := by show builtinType _ = _; rw [builtinType_eq_fast]; kernel_rfl
theorem dq_entry_pop : entryFor table "collections.deque.pop" = some Builtin.«collections.deque.pop» := entryFor_of_tree (by kernel_rfl)
theorem dq_args_pop (a : Value) : argsOk "collections.deque.pop" ⟨[a], []⟩ := by unfold argsOk; kernel_rfl
theorem dq_slot_popleft : Slot "collections.deque" "popleft" "collections.deque.popleft" :=
  .of (owner := "collections.deque") (n := "popleft") (by rw [typeLookup_type, builtinLookup_eq_fast]; kernel_rfl) (by decide +kernel) (by decide +kernel) (by decide +kernel)
    (by first | exact .inl (by decide +kernel) | exact .inr (by decide +kernel)) (by rw [isSubtype_type]; kernel_rfl)
theorem dq_type_popleft : typeOf (.builtin "collections.deque.popleft") = pure (.type "method_descriptor") := by show builtinType _ = _; rw [builtinType_eq_fast]; kernel_rfl
theorem dq_entry_popleft : entryFor table "collections.deque.popleft" = some Builtin.«collections.deque.popleft» := entryFor_of_tree (by kernel_rfl)
theorem dq_args_popleft (a : Value) : argsOk "collections.deque.popleft" ⟨[a], []⟩ := by unfold argsOk; kernel_rfl
theorem dq_slot_len : Slot "collections.deque" "__len__" "collections.deque.__len__" :=
  .of (owner := "collections.deque") (n := "__len__") (by rw [typeLookup_type, builtinLookup_eq_fast]; kernel_rfl) (by decide +kernel) (by decide +kernel) (by decide +kernel)
    (by first | exact .inl (by decide +kernel) | exact .inr (by decide +kernel)) (by rw [isSubtype_type]; kernel_rfl)
theorem dq_entry_len : entryFor table "collections.deque.__len__" = some Builtin.«collections.deque.__len__» := entryFor_of_tree (by kernel_rfl)
theorem dq_args_len (a : Value) : argsOk "collections.deque.__len__" ⟨[a], []⟩ := by unfold argsOk; kernel_rfl
theorem dq_noBool : typeLookup (.type "collections.deque") "__bool__" = pure none := by rw [typeLookup_type, builtinLookup_eq_fast]; kernel_rfl
section
variable {prog : Program} {w : World} {A : Around} {E : Value → Shared → Prop} {s : Shared} {h₀ : Heap} {L q : Addr} {m : Str → Option Value} {news news' : List (Addr × Obj)} {k : Int} {xs : List Value} {x : Value}
theorem dq_change {f : Array Value → Array Value} {ys : List Value} {Q : Unit → Shared → Prop} (F : Fr h₀ L s.heap m) (N : News h₀ L s.heap news) (U : Upd q (dqObj k xs) (dqObj (k + 1) ys) news news') (hf : f xs.toArray = ys.toArray) (hz : ys.length ≤ 1000)
    (h : ∀ h', Fr h₀ L h' m → News h₀ L h' news' → Q () { s with heap := h' }) : wpAny (model prog w) A (Builtin.Deque.change (.ref q) f) Q E s := by
  obtain ⟨pre, post, rfl, rfl, a, b⟩ := U.split
  have z := N (q, dqObj k xs) (List.mem_append.mpr (.inr (.head _)))
  unfold Builtin.Deque.change
  refine wpAny_bind (wpAny_bind (wpAny_field (i := 1) z.1 rfl rfl (wpAny_pure ?_)))
  have e : (Array.extract (Value.none :: Value.int k 0 :: xs).toArray 2 (Value.none :: Value.int k 0 :: xs).toArray.size) = xs.toArray := by simp
  have e2 : (#[(Value.none :: Value.int k 0 :: xs).toArray.getD 0 Value.none, rawInt (if true = true then k + 1 else k)] ++ f (Array.extract (Value.none :: Value.int k 0 :: xs).toArray 2 (Value.none :: Value.int k 0 :: xs).toArray.size)) = (Value.none :: Value.int (k + 1) 0 :: ys).toArray := by
    rw [e, hf]; simp [rawInt]
  refine wpAny_updateFields z.1 rfl (h _ ?_ ?_) ?_
  · exact F.change (Heap.SameBut.update ..) z.2.1 z.2.2
  · refine news_set N a b (Heap.SameBut.update ..) ?_
    refine (Heap.get?_update_self _ z.1 rfl).trans ?_
    exact congrArg (fun v => some (Obj.mk (.type "collections.deque") none (Data.fields v) #[])) e2
  · rw [e2]
    simp only [List.size_toArray, List.length_cons]
    rw [sizeLine_eq]
    omega
theorem dq_field0 {Q : Option Nat → Shared → Prop} (hq : s.heap.get? q = some (dqObj k xs)) (h : Q none s) : wpAny (model prog w) A (Builtin.Deque.maxlen (.ref q)) Q E s := by
  unfold Builtin.Deque.maxlen
  exact wpAny_bind (wpAny_field (i := 0) hq rfl rfl (wpAny_pure h))
theorem dq_items {Q : Array Value → Shared → Prop} (hq : s.heap.get? q = some (dqObj k xs)) (h : Q xs.toArray s) : wpAny (model prog w) A (Builtin.Deque.items (.ref q)) Q E s := by
  unfold Builtin.Deque.items
  refine wpAny_bind (wpAny_fieldsOf hq rfl (wpAny_pure ?_))
  have e : (Array.extract (Value.none :: Value.int k 0 :: xs).toArray 2 (Value.none :: Value.int k 0 :: xs).toArray.size) = xs.toArray := by simp
  rw [e]; exact h
theorem dq_append {Q : Value → Shared → Prop} (F : Fr h₀ L s.heap m) (N : News h₀ L s.heap news) (U : Upd q (dqObj k xs) (dqObj (k + 1) (xs ++ [x])) news news') (hz : xs.length ≤ 900)
    (h : ∀ h', Fr h₀ L h' m → News h₀ L h' news' → Q .none { s with heap := h' }) : wpAny (model prog w) A (call (.builtin "collections.deque.append") [.ref q, x]) Q E s := by
  have z : s.heap.get? q = some (dqObj k xs) := by obtain ⟨pre, post, rfl, rfl, a, b⟩ := U.split; exact (N (q, dqObj k xs) (List.mem_append.mpr (.inr (.head _)))).1
  refine wpAny_call_entry dq_slot_append ⟨_, z, rfl⟩ dq_entry_append ?_ (dq_args_append _ _)
  show wpAny _ _ (Builtin.Deque.pushRight (.ref q) x >>= fun _ => ret .none) _ _ s
  unfold Builtin.Deque.pushRight
  refine wpAny_bind (wpAny_bind (dq_change F N U (by simp) (by simp; omega) fun h' F' N' => ?_))
  have z' : h'.get? q = some (dqObj (k + 1) (xs ++ [x])) := by obtain ⟨pre, post, rfl, rfl, a, b⟩ := U.split; exact (N' (q, _) (List.mem_append.mpr (.inr (.head _)))).1
  refine wpAny_bind (dq_field0 z' ?_)
  exact wpAny_pure (wpAny_pure ⟨_, rfl, h h' F' N'⟩)
theorem dq_appendleft {Q : Value → Shared → Prop} (F : Fr h₀ L s.heap m) (N : News h₀ L s.heap news) (U : Upd q (dqObj k xs) (dqObj (k + 1) (x :: xs)) news news') (hz : xs.length ≤ 900)
    (h : ∀ h', Fr h₀ L h' m → News h₀ L h' news' → Q .none { s with heap := h' }) : wpAny (model prog w) A (call (.builtin "collections.deque.appendleft") [.ref q, x]) Q E s := by
  have z : s.heap.get? q = some (dqObj k xs) := by obtain ⟨pre, post, rfl, rfl, a, b⟩ := U.split; exact (N (q, dqObj k xs) (List.mem_append.mpr (.inr (.head _)))).1
  refine wpAny_call_entry dq_slot_appendleft ⟨_, z, rfl⟩ dq_entry_appendleft ?_ (dq_args_appendleft _ _)
  show wpAny _ _ (Builtin.Deque.pushLeft (.ref q) x >>= fun _ => ret .none) _ _ s
  unfold Builtin.Deque.pushLeft
  refine wpAny_bind (wpAny_bind (dq_change F N U (by simp) (by simp; omega) fun h' F' N' => ?_))
  have z' : h'.get? q = some (dqObj (k + 1) (x :: xs)) := by obtain ⟨pre, post, rfl, rfl, a, b⟩ := U.split; exact (N' (q, _) (List.mem_append.mpr (.inr (.head _)))).1
  refine wpAny_bind (dq_field0 z' ?_)
  exact wpAny_pure (wpAny_pure ⟨_, rfl, h h' F' N'⟩)
theorem dq_pop {Q : Value → Shared → Prop} (F : Fr h₀ L s.heap m) (N : News h₀ L s.heap news) (U : Upd q (dqObj k (xs ++ [x])) (dqObj (k + 1) xs) news news') (hz : xs.length ≤ 900)
    (h : ∀ h', Fr h₀ L h' m → News h₀ L h' news' → Q x { s with heap := h' }) : wpAny (model prog w) A (call (.builtin "collections.deque.pop") [.ref q]) Q E s := by
  have z : s.heap.get? q = some (dqObj k (xs ++ [x])) := by obtain ⟨pre, post, rfl, rfl, a, b⟩ := U.split; exact (N (q, dqObj k (xs ++ [x])) (List.mem_append.mpr (.inr (.head _)))).1
  refine wpAny_call_entry dq_slot_pop ⟨_, z, rfl⟩ dq_entry_pop ?_ (dq_args_pop _)
  unfold Builtin.«collections.deque.pop»
  refine wpAny_bind (wpAny_pure ?_)
  refine wpAny_bind (dq_items z ?_)
  have e : (xs ++ [x]).toArray.back? = some x := by simp
  rw [e]
  refine wpAny_bind (dq_change F N U (by simp) (by omega) fun h' F' N' => ?_)
  exact wpAny_pure ⟨_, rfl, h h' F' N'⟩
theorem dq_popleft {Q : Value → Shared → Prop} (F : Fr h₀ L s.heap m) (N : News h₀ L s.heap news) (U : Upd q (dqObj k (x :: xs)) (dqObj (k + 1) xs) news news') (hz : xs.length ≤ 900)
    (h : ∀ h', Fr h₀ L h' m → News h₀ L h' news' → Q x { s with heap := h' }) : wpAny (model prog w) A (call (.builtin "collections.deque.popleft") [.ref q]) Q E s := by
  have z : s.heap.get? q = some (dqObj k (x :: xs)) := by obtain ⟨pre, post, rfl, rfl, a, b⟩ := U.split; exact (N (q, dqObj k (x :: xs)) (List.mem_append.mpr (.inr (.head _)))).1
  refine wpAny_call_entry dq_slot_popleft ⟨_, z, rfl⟩ dq_entry_popleft ?_ (dq_args_popleft _)
  unfold Builtin.«collections.deque.popleft»
  refine wpAny_bind (wpAny_pure ?_)
  refine wpAny_bind (dq_items z ?_)
  have e : (x :: xs).toArray[0]? = some x := by simp
  rw [e]
  refine wpAny_bind (dq_change F N U (by simp [Array.eraseIdxIfInBounds]) (by omega) fun h' F' N' => ?_)
  exact wpAny_pure ⟨_, rfl, h h' F' N'⟩
theorem dq_truthy {Q : Bool → Shared → Prop} (N : News h₀ L s.heap news) (hm : (q, dqObj k xs) ∈ news) (hz : xs.length ≤ 900)
    (h : Q (!xs.isEmpty) { s with toks := s.toks + 1 + 1 }) : wpAny (model prog w) A (truthy (.ref q)) Q E s := by
  have z := (N _ hm).1
  have hT : s.TypeIs (.ref q) "collections.deque" := ⟨_, z, rfl⟩
  have key : wpAny (model prog w) A (runValue (.builtin "len" ⟨[.ref q], []⟩)) (fun r s' => r = .int xs.length (s.toks + 1) ∧ Q (!xs.isEmpty) s') E s := by
    refine wpAny_runValue (codeAny_builtin entry_len ?_)
    rw [Around.under_plainId plain_len _]
    unfold Builtin.«len»
    refine wpAny_bind (m := oneArg "len" _) (wpAny_pure ?_)
    refine wpAny_bind (m := callSpecial? (.ref q) (Str.ofString "__len__")) (wpAny_callSpecial?_slot (name := Str.ofString "__len__") hT dq_slot_len
      (wpAny_call_entry dq_slot_len hT dq_entry_len ?_ (dq_args_len _)))
    unfold Builtin.«collections.deque.__len__» Builtin.Deque.size
    refine wpAny_bind (wpAny_pure ?_)
    refine wpAny_bind (wpAny_bind (wpAny_fieldsOf z rfl (wpAny_pure ?_)))
    have e : (((Value.none :: Value.int k 0 :: xs).toArray.size - 2 : Nat) : Int) = xs.length := by simp
    rw [e]
    refine wpAny_bind (wpAny_mkInt (wpAny_pure ⟨_, rfl, ?_⟩))
    show wpAny _ _ _ _ _ { s with toks := s.toks + 1 }
    refine wpAny_bind (wpAny_holding (wpAny_pure ?_))
    refine wpAny_bind (wpAny_letGo ?_)
    show wpAny _ _ (if ((xs.length : Nat) : Int) < 0 then _ else _) _ _ _
    rw [if_neg (by omega)]
    show wpAny _ _ (if ((xs.length : Nat) : Int) ≥ 2 ^ 63 then _ else _) _ _ _
    rw [if_neg (by omega)]
    exact wpAny_bind (wpAny_mkInt (wpAny_pure ⟨rfl, h⟩))
  have hne : ((xs.length : Int) != 0) = !xs.isEmpty := by cases xs <;> simp <;> omega
  unfold truthy
  first
    | refine wpAny_bind (wpAny_callSpecial?_none (name := Str.ofString "__bool__") hT dq_noBool ?_)
    | refine wpAny_bind (wpAny_pure (wpAny_bind (wpAny_callSpecial?_none (name := Str.ofString "__bool__") hT dq_noBool ?_)))
  first
    | refine wpAny_bind (wpAny_specialOf (name := Str.ofString "__len__") hT dq_slot_len.lookup ?_)
    | refine wpAny_bind (wpAny_pure (wpAny_bind (wpAny_specialOf (name := Str.ofString "__len__") hT dq_slot_len.lookup ?_)))
  first
    | exact wpAny_bind (wpAny_mono key (fun r s' h' => by obtain ⟨rfl, hq⟩ := h'; exact wpAny_pure (hne ▸ hq)) fun _ _ e => e)
    | exact wpAny_bind (wpAny_pure (wpAny_bind (wpAny_mono key (fun r s' h' => by obtain ⟨rfl, hq⟩ := h'; exact wpAny_pure (hne ▸ hq)) fun _ _ e => e)))
theorem dq_truthy_nil {Q : Bool → Shared → Prop} (N : News h₀ L s.heap news) (hm : (q, dqObj k []) ∈ news)
    (h : Q false { s with toks := s.toks + 1 + 1 }) : wpAny (model prog w) A (truthy (.ref q)) Q E s := dq_truthy N hm (by decide) h
theorem dq_truthy_cons {Q : Bool → Shared → Prop} (N : News h₀ L s.heap news) (hm : (q, dqObj k (x :: xs)) ∈ news) (hz : xs.length ≤ 800)
    (h : Q true { s with toks := s.toks + 1 + 1 }) : wpAny (model prog w) A (truthy (.ref q)) Q E s := dq_truthy N hm (by rw [List.length_cons]; omega) h
theorem dq_getMethod {name : Str} {id : String} {pl : Sem Bool} {Q : Value × List Value → Shared → Prop} (N : News h₀ L s.heap news) (hm : (q, dqObj k xs) ∈ news) (slot : Slot "collections.deque" name id)
    (hty : typeOf (.builtin id) = pure (.type "method_descriptor")) (h : Q (.builtin id, [.ref q]) s) : wpAny (model prog w) A (getMethod (.ref q) name pl) Q E s :=
  getMethod_builtin ⟨_, (N _ hm).1, rfl⟩ dq_plain slot hty (fun a e => by cases e; exact ⟨_, (N _ hm).1, rfl⟩) h
end
end Mine
end
-- part Pre
section
open PySem PySem.W PySem.Spec PySem.Calls PyProof.Rows
namespace Mine
noncomputable abbrev isin (x y : Str) : Bool := !(Builtin.Str.occurrences x y 0 x.length 1).isEmpty
noncomputable abbrev ent (w : World) (n : String) (t : Tok) (v : Value) : DictEntry := ⟨PyData.keyHash w.params (Str.ofString n), .str (Str.ofString n) t, v⟩
noncomputable abbrev sioD (w : World) (t1 t2 t3 : Tok) (vn vb vp : Value) : Obj := dictOf [ent w "_StringIO__newline" t1 vn, ent w "_StringIO__buf" t2 vb, ent w "_StringIO__pos" t3 vp] 3
noncomputable abbrev lexD (w : World) (t : Nat → Tok) (b q1 q2 q3 : Addr) (st ln tok : Value) : Obj := dictOf [ent w "instream" (t 0) (.ref b), ent w "infile" (t 1) .none, ent w "posix" (t 2) (.bool false), ent w "eof" (t 3) (.str "" (t 4)),
  ent w "commenters" (t 5) (.str "#" (t 6)), ent w "wordchars" (t 7) (.str "abcdfeghijklmnopqrstuvwxyzABCDEFGHIJKLMNOPQRSTUVWXYZ0123456789_~-.*?" (t 8)), ent w "whitespace" (t 9) (.str " \t\r\n" (t 10)), ent w "whitespace_split" (t 11) (.bool false),
  ent w "quotes" (t 12) (.str "'\"" (t 13)), ent w "escape" (t 14) (.str "\\" (t 15)), ent w "escapedquotes" (t 16) (.str "\"" (t 17)), ent w "state" (t 18) st, ent w "pushback" (t 19) (.ref q1), ent w "lineno" (t 20) ln, ent w "debug" (t 21) (.int 0 (t 22)),
  ent w "token" (t 23) tok, ent w "filestack" (t 24) (.ref q2), ent w "source" (t 25) .none, ent w "_punctuation_chars" (t 26) (.str "<>/=" (t 27)), ent w "_pushback_chars" (t 28) (.ref q3)] 20
noncomputable def rtWhile : Stmt := at_ (bodyOf (methAt 24 6)) 2
noncomputable def rtTest : PySem.Expr := testOf rtWhile
noncomputable def rtBody : List Stmt := bodyOf rtWhile
noncomputable def rtRest : List Stmt := rtBody.tail
noncomputable def rtScope : Scope := scopeOf (methAt 24 6)
noncomputable abbrev rtEnv (L : Addr) : Env := envOf (Str.ofString "shlex.read_token") rtScope L 724 (.ref 723)
theorem iteT {b : Bool} {x y : Prop} (hb : b = true) (h : x) : if b = true then x else y := by rw [if_pos hb]; exact h
theorem iteF {b : Bool} {x y : Prop} (hb : b = false) (h : y) : if b = true then x else y := by rw [if_neg (by rw [hb]; decide)]; exact h
noncomputable abbrev rtLoc (x : Addr) (q : Bool) (te : Tok) (nc : Option Value) : Str → Option Value := fun y =>
  if y = "nextchar" then nc else if y = "escapedstate" then some (.str " " te) else if y = "quoted" then some (.bool q) else if y = "self" then some (.ref x) else none
theorem rtLoc_next (x : Addr) (q : Bool) (te : Tok) (ov : Option Value) (v : Option Value) : ∀ y, (if y = Str.ofString "nextchar" then v else rtLoc x q te ov y) = rtLoc x q te v y := by
  intro y
  by_cases hy : y = Str.ofString "nextchar"
  · simp only [rtLoc, if_pos hy]
  · simp only [rtLoc, if_neg hy]
theorem rtLoc_start (x : Addr) (te : Tok) : ∀ y, (if y = Str.ofString "escapedstate" then some (Value.str (Str.ofString " ") te) else if y = Str.ofString "quoted" then some (Value.bool false) else List.lookup y [(Str.ofString "self", Value.ref x)].reverse) = rtLoc x false te none y := by
  intro y
  by_cases h1 : y = Str.ofString "nextchar"
  · subst h1; rfl
  · by_cases h2 : y = Str.ofString "self"
    · subst h2; rfl
    · have h3 : (y == Str.ofString "self") = false := by simpa using h2
      simp only [rtLoc, if_neg h1, if_neg h2, List.reverse_cons, List.reverse_nil, List.nil_append, List.lookup, h3]
theorem Fr.as {h₀ h : Heap} {L : Addr} {m m' : Str → Option Value} (F : Fr h₀ L h m) (e : ∀ y, m y = m' y) : Fr h₀ L h m' := (funext e : m = m') ▸ F
theorem news_sub {h₀ h : Heap} {L : Addr} {l l' : List (Addr × Obj)} (N : News h₀ L h l) (e : ∀ p ∈ l', p ∈ l) : News h₀ L h l' := fun p hp => N p (e p hp)
section
variable {M : Model} {A : Around} {env : Env} {E : Value → Shared → Prop} {s : Shared}
noncomputable def SeqK (M : Model) (A : Around) (rest : List Stmt) (env : Env) (Q : Flow → Shared → Prop) (E : Value → Shared → Prop) : Flow → Shared → Prop :=
  fun f s' => match f with | .next => wpAny M A (execs rest env) Q E s' | f => Q f s'
theorem seq_cons {st : Stmt} {rest : List Stmt} {Q : Flow → Shared → Prop} (h : wpAny M A (exec st env) (SeqK M A rest env Q E) E s) : wpAny M A (execs (st :: rest) env) Q E s := wpAny_execs_cons h
theorem seq_one {st : Stmt} {Q : Flow → Shared → Prop} (h : wpAny M A (exec st env) Q E s) : wpAny M A (execs [st] env) Q E s :=
  wpAny_execs_cons (wpAny_mono h (fun f _ hq => by cases f <;> first | exact hq | exact wpAny_execs_nil hq) fun _ _ h => h)
theorem seq_next {rest : List Stmt} {Q : Flow → Shared → Prop} (h : wpAny M A (execs rest env) Q E s) : SeqK M A rest env Q E .next s := h
theorem seq_ret {rest : List Stmt} {Q : Flow → Shared → Prop} {v : Value} (h : Q (.ret v) s) : SeqK M A rest env Q E (.ret v) s := h
theorem seq_brk {rest : List Stmt} {Q : Flow → Shared → Prop} (h : Q .brk s) : SeqK M A rest env Q E .brk s := h
theorem seq_cont {rest : List Stmt} {Q : Flow → Shared → Prop} (h : Q .cont s) : SeqK M A rest env Q E .cont s := h
noncomputable def IfK (M : Model) (A : Around) (body orelse : List Stmt) (env : Env) (Q : Flow → Shared → Prop) (E : Value → Shared → Prop) : Bool → Shared → Prop :=
  fun b s' => if b then wpAny M A (execs body env) Q E s' else wpAny M A (execs orelse env) Q E s'
theorem if_K {test : PySem.Expr} {body orelse : List Stmt} {pos : Pos} {Q : Flow → Shared → Prop} (h : wpAny M A (isTrue test env (eval test env)) (IfK M A body orelse env Q E) E s) : wpAny M A (exec (.If test body orelse pos) env) Q E s := wpAny_If h
theorem ifK_ite {b : Bool} {body orelse : List Stmt} {Q : Flow → Shared → Prop} (h : if b then wpAny M A (execs body env) Q E s else wpAny M A (execs orelse env) Q E s) : IfK M A body orelse env Q E b s := h
end
end Mine
end
-- part Pure1
section
open PySem PySem.W PySem.Spec PyProof.Rows PySem.Builtin PySem.Builtin.Str
namespace Mine
noncomputable abbrev tx (l : List Nat) : Str := ⟨l.toArray⟩
theorem tx_of (x : Str) : x = tx x.cps.toList := by obtain ⟨⟨l⟩⟩ := x; rfl
theorem tx_len (l : List Nat) : (tx l).length = l.length := rfl
theorem tx_app (a b : List Nat) : tx a ++ tx b = tx (a ++ b) := by
  show Str.mk (a.toArray ++ b.toArray) = Str.mk _
  rw [List.append_toArray]
theorem slice_ij {x : Str} {i j : Int} (h : 0 ≤ i ∧ i ≤ j ∧ j ≤ x.length) : Txt.slice x (some i) (some j) = tx ((x.cps.toList.drop i.toNat).take (j - i).toNat) :=
  beq_iff_eq.mp (slice_closes (by rw [Array.length_toList]; exact h))
theorem slice_to {x : Str} {j : Int} (h : 0 ≤ j ∧ j ≤ x.length) : Txt.slice x none (some j) = tx (x.cps.toList.take j.toNat) := by
  have e := beq_iff_eq.mp (slice_closes_to (x := x) (j := j) (by rw [Array.length_toList]; exact h))
  rw [e, Int.sub_zero]; rfl
theorem slice_from {x : Str} {i : Int} (h : 0 ≤ i ∧ i ≤ x.length) : Txt.slice x (some i) none = tx (x.cps.toList.drop i.toNat) := by
  have e := beq_iff_eq.mp (slice_closes_from (x := x) (i := i) (by rw [Array.length_toList]; exact h))
  rw [e]
  have : (x.cps.toList.drop i.toNat).length ≤ ((x.cps.toList.length : Int) - i).toNat := by rw [List.length_drop]; omega
  rw [List.take_of_length_le this]
theorem clip_neg1 (n : Nat) (h : 1 ≤ n) (lo : Option Int) : strSliceIndices lo (some (-1)) 1 n = strSliceIndices lo (some ((n : Int) - 1)) 1 n := by
  have h1 : ((-1 : Int) < 0) := by decide
  have h2 : ¬ ((n : Int) - 1 < 0) := by omega
  simp only [strSliceIndices, h1, h2, if_true, if_false]
  have : (-1 : Int) + n = (n : Int) - 1 := by omega
  rw [this]
theorem clip_low1 (n : Nat) (h : 1 ≤ n) (hi : Option Int) : strSliceIndices (some (-1)) hi 1 n = strSliceIndices (some ((n : Int) - 1)) hi 1 n := by
  have h1 : ((-1 : Int) < 0) := by decide
  have h2 : ¬ ((n : Int) - 1 < 0) := by omega
  simp only [strSliceIndices, h1, h2, if_true, if_false]
  have : (-1 : Int) + n = (n : Int) - 1 := by omega
  rw [this]
theorem slice_neg1 (x : Str) (h : 1 ≤ x.length) (lo : Option Int) : Txt.slice x lo (some (-1)) = Txt.slice x lo (some ((x.length : Int) - 1)) := by
  unfold Txt.slice; rw [clip_neg1 _ h]
theorem slice_low1 (x : Str) (h : 1 ≤ x.length) (hi : Option Int) : Txt.slice x (some (-1)) hi = Txt.slice x (some ((x.length : Int) - 1)) hi := by
  unfold Txt.slice; rw [clip_low1 _ h]
theorem sp1 : Str.ofString " " = tx [32] := by decide +kernel
theorem read_one {page : Str} {pos : Nat} {c : Nat} {j : Int} (hc : page.cps.toList[pos]? = some c) (hj : j = pos + 1) (hjl : j ≤ page.length) :
    Txt.slice (Txt.slice page (some (pos : Int)) (some j) ++ Str.ofString " ") none (some (-1)) = tx [c] := by
  subst hj
  have hlt : pos < page.cps.toList.length := by
    rcases Nat.lt_or_ge pos page.cps.toList.length with h | h
    · exact h
    · rw [List.getElem?_eq_none h] at hc; cases hc
  rw [slice_ij (by omega)]
  have e1 : ((page.cps.toList.drop ((pos : Int)).toNat).take (((pos : Int) + 1) - (pos : Int)).toNat) = [c] := by
    have : (((pos : Int) + 1) - (pos : Int)).toNat = 1 := by omega
    rw [this, Int.toNat_natCast, List.drop_eq_getElem_cons hlt]
    rw [List.getElem?_eq_getElem hlt] at hc
    rw [Option.some.inj hc]; rfl
  rw [e1, sp1, tx_app, slice_neg1 _ (by rw [tx_len]; simp), slice_to (by rw [tx_len]; simp)]
  rfl
end Mine
end
-- part Tk
section
open PySem PySem.W PySem.Spec PySem.Calls PyProof.Rows
namespace Mine
theorem setGen_toks (s : Shared) (g : Nat) (x : GenState) : (s.setGen g x).toks = s.toks := rfl
theorem runs_toks {M : Model} {Γ : PySem.Ctx} {p : Pos} {t : Sem Fin} {fs : List Frame} {s s' : Shared} {e : End} (h : Runs M Γ p t fs s e s') : s.toks ≤ s'.toks := by
  induction h with
  | done => exact Nat.le_refl _
  | raise => exact Nat.le_refl _
  | yield => exact Nat.le_refl _
  | fresh _ ih => exact Nat.le_trans (Nat.le_succ _) ih
  | call _ _ i1 i2 => exact Nat.le_trans i1 i2
  | resumeFresh _ _ _ _ i1 i2 => exact Nat.le_trans i1 i2
  | resumeSuspended _ _ _ _ i1 i2 => exact Nat.le_trans i1 i2
  | segRet _ _ i1 i2 => exact Nat.le_trans i1 i2
  | segGen _ _ i1 i2 => exact Nat.le_trans i1 i2
  | segSuspGen _ _ _ _ i1 i2 => exact Nat.le_trans i1 i2
  | _ => assumption
theorem wakes_toks {M : Model} {Γ : PySem.Ctx} {p : Pos} {g : Nat} {r : Resume} {s s' : Shared} {res : GenResult} (h : Wakes M Γ p g r s res s') : s.toks ≤ s'.toks := by
  unfold Wakes at h
  split at h
  · exact h.elim
  · split at h
    · obtain ⟨e, s₁, hr, _, _, rfl⟩ := h; exact (runs_toks hr : (s.setGen g .running).toks ≤ s₁.toks)
    · obtain ⟨_, rfl⟩ := h; exact Nat.le_refl _
    · obtain ⟨_, rfl⟩ := h; exact Nat.le_refl _
  · obtain ⟨e, s₁, hr, _, _, rfl⟩ := h; exact (runs_toks hr : (s.setGen g .running).toks ≤ s₁.toks)
  all_goals (first | exact h.elim | (obtain ⟨_, rfl⟩ := h; exact Nat.le_refl _) | (have := h.2; subst this; exact Nat.le_refl _))
theorem wp_toks {α : Type} {M : Model} {Γ : PySem.Ctx} {n : Nat} : ∀ (t : Sem α) {Q : α → Pos → Shared → Prop} {E : Value → Pos → Shared → Prop} {p : Pos} {s : Shared}, n ≤ s.toks →
    Sem.wp M Γ t (fun a p' s' => n ≤ s'.toks → Q a p' s') E p s → Sem.wp M Γ t Q E p s := by
  intro t
  induction t with
  | pure a => intro Q E p s hn h; rw [Sem.wp] at h ⊢; exact h hn
  | raise e => intro Q E p s hn h; rw [Sem.wp] at h ⊢; exact h
  | unsupported => intro Q E p s hn h; rw [Sem.wp] at h; exact h.elim
  | finish => intro Q E p s hn h; rw [Sem.wp] at h; exact h.elim
  | rule t k ih => intro Q E p s hn h; rw [Sem.wp] at h ⊢; exact ih _ hn h
  | «at» q k ih => intro Q E p s hn h; rw [Sem.wp] at h ⊢; exact ih _ hn h
  | load a q k ih => intro Q E p s hn h; rw [Sem.wp] at h ⊢; obtain ⟨o, ho, h⟩ := h; exact ⟨o, ho, ih _ hn h⟩
  | update a q f k ih => intro Q E p s hn h; rw [Sem.wp] at h ⊢; exact ⟨h.1, ih _ hn h.2⟩
  | alloc o k ih => intro Q E p s hn h; rw [Sem.wp] at h ⊢; exact ih _ hn h
  | loadIfAlive a k ih => intro Q E p s hn h; rw [Sem.wp] at h ⊢; exact ih _ hn h
  | point l k ih => intro Q E p s hn h; rw [Sem.wp] at h ⊢; exact ih _ hn h
  | register => intro Q E p s hn h; rw [Sem.wp] at h; exact h.elim
  | fresh k ih => intro Q E p s hn h; rw [Sem.wp] at h ⊢; exact ih _ (Nat.le_succ_of_le hn) h
  | ask k ih => intro Q E p s hn h; rw [Sem.wp] at h ⊢; exact ih _ hn h
  | choose src m k ih => intro Q E p s hn h; rw [Sem.wp] at h ⊢; exact ⟨h.1, ih _ hn h.2⟩
  | os q l k ih => intro Q E p s hn h; rw [Sem.wp] at h ⊢; exact ih _ hn h
  | call c hd g l k ih =>
    intro Q E p s hn h
    rw [Sem.wp] at h ⊢
    obtain ⟨r, s', hr, h⟩ := h
    exact ⟨r, s', hr, ih _ (Nat.le_trans hn (runs_toks hr)) h⟩
  | handled own k ih => intro Q E p s hn h; rw [Sem.wp] at h ⊢; exact ih _ hn h
  | genState g k ih => intro Q E p s hn h; rw [Sem.wp] at h ⊢; obtain ⟨st, hs, h⟩ := h; exact ⟨st, hs, ih _ hn h⟩
  | newGen c k ih => intro Q E p s hn h; rw [Sem.wp] at h ⊢; exact ih _ hn h
  | resume g r l k ih =>
    intro Q E p s hn h
    rw [Sem.wp] at h ⊢
    obtain ⟨res, s', hr, h⟩ := h
    exact ⟨res, s', hr, ih _ (Nat.le_trans hn (wakes_toks hr)) h⟩
  | yield => intro Q E p s hn h; rw [Sem.wp] at h; exact h.elim
  | stack k ih => intro Q E p s hn h; rw [Sem.wp] at h ⊢; exact ih _ hn h
  | fork => intro Q E p s hn h; rw [Sem.wp] at h; exact h.elim
  | thread k ih => intro Q E p s hn h; rw [Sem.wp] at h ⊢; exact ih _ hn h
  | await => intro Q E p s hn h; rw [Sem.wp] at h; exact h.elim
theorem wpAny_toks {α : Type} {M : Model} {A : Around} {t : Sem α} {Q : α → Shared → Prop} {E : Value → Shared → Prop} {s : Shared} (n : Nat) (hn : n ≤ s.toks)
    (h : wpAny M A t (fun a s' => n ≤ s'.toks → Q a s') E s) : wpAny M A t Q E s := fun Γ p hΓ => wp_toks t hn (h Γ p hΓ)
theorem execs_toks {M : Model} {A : Around} {st : Stmt} {rest : List Stmt} {env : Env} {Q : Flow → Shared → Prop} {E : Value → Shared → Prop} {s : Shared} (hn : 1 ≤ s.toks)
    (h : wpAny M A (exec st env) (fun fl s' => 1 ≤ s'.toks → (match fl with | .next => wpAny M A (execs rest env) Q E s' | f => Q f s')) E s) : wpAny M A (execs (st :: rest) env) Q E s := by
  refine wpAny_execs_cons (wpAny_toks 1 hn (wpAny_mono h (fun fl s' z q => ?_) fun _ _ z => z))
  have := z q
  cases fl <;> exact this
end Mine
end
-- part Fs
section
open PySem PySem.W PySem.Spec PySem.Calls PyProof.Rows
namespace Mine
inductive Rw (us : List (Addr × Obj)) : List (Addr × Obj) → List (Addr × Obj) → Prop
  | nil : Rw us [] []
  | hit {a : Addr} {o o' : Obj} {r r' : List (Addr × Obj)} : (a, o') ∈ us → Rw us r r' → Rw us ((a, o) :: r) ((a, o') :: r')
  | miss {p : Addr × Obj} {r r' : List (Addr × Obj)} : (∀ u ∈ us, u.1 ≠ p.1) → Rw us r r' → Rw us (p :: r) (p :: r')
theorem Rw.mem {us l l' : List (Addr × Obj)} (r : Rw us l l') : ∀ p ∈ l', p ∈ us ∨ (p ∈ l ∧ ∀ u ∈ us, u.1 ≠ p.1) := by
  induction r with
  | nil => intro p h; cases h
  | hit hm _ ih =>
    intro p h
    rcases List.mem_cons.mp h with rfl | h
    · exact .inl hm
    · exact (ih p h).imp id fun q => ⟨.tail _ q.1, q.2⟩
  | miss hn _ ih =>
    intro p h
    rcases List.mem_cons.mp h with rfl | h
    · exact .inr ⟨.head _, hn⟩
    · exact (ih p h).imp id fun q => ⟨.tail _ q.1, q.2⟩
theorem Rw.same {us l : List (Addr × Obj)} (h : ∀ p ∈ l, ∀ u ∈ us, u.1 ≠ p.1) : Rw us l l := by
  induction l with
  | nil => exact .nil
  | cons p r ih => exact .miss (h p (.head _)) (ih fun q hq => h q (.tail _ hq))
section
variable {prog : Program} {w : World} {A₀ A : Around} {s : Shared} {base h₀ : Heap} {outer : List Env} {L : Addr} {m : Str → Option Value} {env : Env} {news small : List (Addr × Obj)} {K : Frag}
  {R : Result → Shared → Prop} {name qual : Str} {params : Arguments} {body : List Stmt} {scope : Scope} {dV kV doc pm cdv ct oc : Value} {an od : Option Addr} {osl : Array (Option Value)} {f : Addr} {args : Args} {binds : List (Str × Value)} {p : Program} {loose : List Str} {mean : ExcName → Option Value} {mg mb : Str → Option Value}
theorem call_small (B : Below A₀ base outer h₀) (F : Fr h₀ L s.heap m) (X₀ : K.In h₀) (N : News h₀ L s.heap news) (hs : ∀ q ∈ small, q ∈ news) (T : Top p loose mean mg mb h₀) (hA : A.frames = some (env :: outer)) (hf : env.frame = some L) (hke : env.scope.kind = .function)
    (ho : K.lookup f = some ⟨oc, od, .func (fnOf name qual params body scope dV kV doc pm an cdv ct), osl⟩) (hcd : codeIn K cdv qual = true) (hroom : A.depth < recursionLimit)
    (hbind : BindsTo s (fnOf name qual params body scope dV kV doc pm an cdv ct) args binds) (hloc : ∀ y ∈ binds, scope.names.lookup y.1 = some .local)
    (h : ∀ g L' h₁, Fr g L' h₁ (fun y => binds.reverse.lookup y) → News g L' h₁ small → Below A base (env :: outer) g → K.In g → Top p loose mean mg mb g → (∀ q ∈ news, q.1 ∉ small.map (·.1) → g.get? q.1 = some q.2) →
      wpAny (model prog w) (A.deeper (envOf qual scope L' f cdv)) (execs body (envOf qual scope L' f cdv))
        (fun fl s' => LeaveK h₀ L m g R (match fl with | .ret v => v | _ => .none) s')
        (fun e s' => wpAny (model prog w) (A.deeper (envOf qual scope L' f cdv)) (leaving (envOf qual scope L' f cdv) e) (fun _ s'' => R (.error e) s'') (fun e' s'' => R (.error e') s'') s')
        { s with heap := h₁, toks := s.toks + binds.length })
    (hco : scope.isCoroutine = false) (hgen : scope.isGenerator = false) (hk : scope.kind = .function)
    (hcell : ∀ x ∈ scope.names, x.2 ≠ .cell) : codeAny (model prog w) A (.call (.ref f) args) R s := by
  have Ns : News h₀ L s.heap small := fun q hq => N q (hs q hq)
  obtain ⟨FG, BG, st, lv⟩ := groundX (R := R) B F Ns hA hf hke
  refine codeAny_call_def (fd := fnOf name qual params body scope dV kV doc pm an cdv ct) (body := body) (binds := binds) hroom ((X₀.keeps F.keep) _ _ ho) rfl (T.nolimit.keeps F.keep) (codeRec_of (X₀.keeps F.keep) hcd) rfl hbind hcell hloc (fun h₁ hns hk₁ => ?_) hco hgen hk
  refine wpAny_mono (h _ s.heap.objs.size h₁ ⟨hns, fun b o e => hk₁ b o (of_hideAll _ e), Nat.le_of_eq (hideAll_size _ _)⟩ (fun q hq => ?_) BG (X₀.keeps st) (T.keeps st) fun q hq hn => ?_) (fun fl s' hl => lv _ _ hl) fun _ _ y => y
  · exact ⟨hk₁ _ _ (Ns q hq).1, Nat.ne_of_lt (Heap.lt_size (Ns q hq).1), hideAll_none _ (List.mem_map_of_mem hq)⟩
  · exact hideAll_get _ (N q hq).1 hn
theorem news_rw {g h' : Heap} {L' : Addr} {m' : Str → Option Value} {us fin news' : List (Addr × Obj)} (N : News h₀ L s.heap news) (kg : ∀ q ∈ news, q.1 ∉ small.map (·.1) → g.get? q.1 = some q.2) (F' : Fr g L' h' m') (N' : News h₀ L h' fin)
    (hs : ∀ q ∈ small, q ∈ news) (hu : ∀ u ∈ us, u ∈ fin) (hk : ∀ q ∈ small, (∃ u ∈ us, u.1 = q.1) ∨ q ∈ fin) (r : Rw us news news') : News h₀ L h' news' := by
  intro q hq
  rcases r.mem q hq with hq | ⟨hq, hn⟩
  · exact N' q (hu q hq)
  · by_cases hm : q.1 ∈ small.map (·.1)
    · obtain ⟨q', hq', e⟩ := List.mem_map.mp hm
      have e2 : q' = q := by
        have z1 := (N q' (hs q' hq')).1
        have z2 := (N q hq).1
        rw [e, z2] at z1
        exact Prod.ext e (Option.some.inj z1).symm
      subst e2
      rcases hk q' hq' with ⟨u, hu', e'⟩ | hf
      · exact absurd e' (hn u hu')
      · exact N' q' hf
    · exact ⟨F'.keep _ _ (kg q hq hm), (N q hq).2.1, (N q hq).2.2⟩
end
end Mine
end
-- the common walk lines
section
open PySem PySem.W PySem.Spec PySem.Calls PyProof.Rows
namespace Mine
example : (PySem.Challenge.rw_ij0056_01 = PySem.Challenge.rw_ij0056_01) ∧ Mine.KK = Mine.KK := by
  k_fill
  exact ⟨rfl, rfl⟩
end Mine
open Mine
local macro_rules | `(tactic| k_room) => `(tactic| ((try simp only [depth_under_make, depth_under_kw, depth_in1, depth_deeper, depth_caller]); (try dsimp only [ktrTop]); first | decide | omega | (simp only [recursionLimit]; omega)))
local macro_rules | `(tactic| k_enter) => `(tactic| 
  (refine' code_def ?k1 ?k2 ?k3 ?k4 ?k5 ?kA ?kF ?kK ?k6 ?k7 ?k8 ?k9 ?kB ?_ ?c2 ?c3 ?c4 ?c5; (case kA => exact rfl); (case kF | kK => first | exact rfl | assumption); (case k1 | k2 | k3 | k4 | k5 => k_asm); (case k6 | k7 => k_is); (case k8 => k_room); (case k9 => first | exact BindsTo.of_eq rfl | exact binds_K (by k_in) rfl (by k_is) rfl rfl rfl | fail "k_enter: no rule for these arguments"); (case c5 => decide); (case kB => exact locs rfl); (case c2 | c3 | c4 => exact rfl); k_whole; intro g' L' h' FG' F' N' B' X' T'; (try dsimp only); (try k_lift B'); (try k_fold)))
local macro_rules | `(tactic| walk_at "ite") => `(tactic| (k_dflt (first | (refine iteT (by with_reducible assumption) ?_) | (refine iteF (by with_reducible assumption) ?_) | (k_closed; first | refine iteT (by decide +kernel) ?_ | refine iteF (by decide +kernel) ?_))))
local macro_rules | `(tactic| walk_at "truthy str") => `(tactic| (k_here; (with_reducible show wpAny _ _ (PySem.truthy (Value.str _ _)) _ _ _); (refine KXt.truthy (b := true) (by assumption) (by omega) ?_); intro _))
local macro_rules | `(tactic| k_upd) => `(tactic| first | exact Rw.nil | (refine' Rw.hit ?a ?b; (case a => k_mem); (case b => k_upd)) | (refine' Rw.miss ?a ?b; (case a => k_all); (case b => k_upd)))
local macro_rules | `(tactic| k_ne) => `(tactic| (refine neN ?_; (try dsimp only); first | (with_reducible assumption) | (refine Ne.symm ?_; with_reducible assumption) | omega))
local macro_rules | `(tactic| walk_at "callWith") => `(tactic| first | (with_reducible refine PyProof.Rows.callWith_method0 ?_) | (with_reducible refine' PyProof.Rows.callWith_builtin1 ?h ?he ?hp; (case he | hp => exact rfl)) | (with_reducible refine' PyProof.Rows.callWith_method1 ?h ?he ?hp; (case he | hp => exact rfl)))
local macro_rules | `(tactic| k_mem) => `(tactic| ((with_reducible (repeat (first | exact List.Mem.head _ | refine' List.Mem.tail _ ?_))); done))
local macro_rules | `(tactic| walk_at "exec If") => `(tactic| with_reducible refine if_K ?_)
local macro_rules | `(tactic| walk_at "IfK") => `(tactic| with_reducible refine ifK_ite ?_)
local macro_rules | `(tactic| walk_at "execs cons") => `(tactic| ((with_reducible first | refine seq_one ?_ | refine seq_cons ?_); (try dsimp only)))
local macro_rules | `(tactic| walk_at "execs nil") => `(tactic| with_reducible refine wpAny_execs_nil ?_)
local macro_rules | `(tactic| walk_at "SeqK") => `(tactic| first | (with_reducible refine seq_next ?_) | ((with_reducible first | refine seq_ret ?_ | refine seq_brk ?_ | refine seq_cont ?_); (try dsimp only)))
local macro_rules | `(tactic| walk_at "all mem") => `(tactic| repeat (first | exact List.forall_mem_nil _ | refine List.forall_mem_cons.mpr ⟨by k_mem, ?_⟩))
local macro_rules | `(tactic| walk_at "depth is") => `(tactic| ((try dsimp only [Around.deeper]); omega))
local macro_rules | `(tactic| walk_at "one step") => `(tactic| first | (k_unfold; (try dsimp only)) | walk1 | (dsimp only; walk1) | (leave1; walk_say "STEP leave1"; try dsimp only) | fail "no step")
local macro_rules | `(tactic| k_steps) => `(tactic| repeat' (walk_at "one step"))
-- part TnA
section
namespace Mine
section
variable {w : World} {hh : Option Value} {dp un : Nat} {gd : Option (List Code)} {base g : Heap} {L : Addr} {s : Shared} {p : Program} {loose : List Str} {mean : ExcName → Option Value} {mg mb : Str → Option Value} {outer : List Env} {Q : Flow → Shared → Prop} {E : Value → Shared → Prop}
variable {x d b e q1 q2 q3 : Addr} {tt : Nat → Tok} {te tc ts tl tk u1 u2 u3 u4 u5 u6 : Tok} {k1 k3 pos ln : Int} {page c tok q : Str} {qd : Bool}
theorem tn_sp_eof (hnd : @Ne Nat x d ∧ @Ne Nat b d ∧ @Ne Nat e d ∧ @Ne Nat q1 d ∧ @Ne Nat q3 d ∧ @Ne Nat x q3 ∧ @Ne Nat b q3 ∧ @Ne Nat e q3 ∧ @Ne Nat q1 q3)
  (B : Below (Around.mk hh dp (some outer) gd un) base outer g) (F : Fr g L s.heap (rtLoc x false te (some (.str "" tc)))) (X : (Mine.KK w.params).In g)
  (N : News g L s.heap [(x, instObj 756 d), (d, lexD w tt b q1 q2 q3 (.str " " ts) (.int ln tl) (.str "" tk)), (b, instObj 621 e), (e, sioD w u1 u2 u3 (.str "\n" u4) (.str page u5) (.int pos u6)), (q1, dqObj k1 []), (q3, dqObj k3 [])])
  (T : Top p loose mean mg mb g) (hd : dp + 10 < 1000)
  (hQ : ∀ h' k' (a1 a2 a3 : Tok), Fr g L h' (rtLoc x false te (some (.str "" tc))) → News g L h' [(x, instObj 756 d), (d, lexD w tt b q1 q2 q3 (.none) (.int ln tl) (.str "" tk)), (b, instObj 621 e), (e, sioD w u1 u2 u3 (.str "\n" u4) (.str page u5) (.int pos u6)), (q1, dqObj k1 []), (q3, dqObj k3 [])] → Q .brk { s with heap := h', toks := k' }) :
  wpAny (model PG w) ((Around.mk hh dp (some outer) gd un).deeper (rtEnv L)) (execs rtRest (rtEnv L)) Q E s := by
  obtain ⟨hn1, hn2, hn3, hn4, hn5, hn6, hn7, hn8, hn9⟩ := hnd
  show wpAny _ _ (execs (List.cons _ _) _) _ _ _
  dsimp only [rtEnv]
  rw [show rtScope = Scope.mk _ _ _ _ _ from rfl]
  k_steps
  refine hQ _ _ ?a1 ?a2 ?a3 ?hF ?hN; (case hF => assumption); (case hN => first | assumption | exact news_sub (by assumption) (fun _ h => .tail _ h) | exact news_sub (by assumption) (fun _ h => .tail _ (.tail _ h))); all_goals exact (0 : Nat)
theorem tn_sp_blank (hnd : @Ne Nat x d ∧ @Ne Nat b d ∧ @Ne Nat e d ∧ @Ne Nat q1 d ∧ @Ne Nat q3 d ∧ @Ne Nat x q3 ∧ @Ne Nat b q3 ∧ @Ne Nat e q3 ∧ @Ne Nat q1 q3)
  (B : Below (Around.mk hh dp (some outer) gd un) base outer g) (F : Fr g L s.heap (rtLoc x false te (some (.str " " tc)))) (X : (Mine.KK w.params).In g)
  (N : News g L s.heap [(x, instObj 756 d), (d, lexD w tt b q1 q2 q3 (.str " " ts) (.int ln tl) (.str "" tk)), (b, instObj 621 e), (e, sioD w u1 u2 u3 (.str "\n" u4) (.str page u5) (.int pos u6)), (q1, dqObj k1 []), (q3, dqObj k3 [])])
  (T : Top p loose mean mg mb g) (hd : dp + 10 < 1000)
  (hQ : ∀ h' k' (a1 a2 a3 : Tok), Fr g L h' (rtLoc x false te (some (.str " " tc))) → News g L h' [(x, instObj 756 d), (d, lexD w tt b q1 q2 q3 (.str " " ts) (.int ln tl) (.str "" tk)), (b, instObj 621 e), (e, sioD w u1 u2 u3 (.str "\n" u4) (.str page u5) (.int pos u6)), (q1, dqObj k1 []), (q3, dqObj k3 [])] → Q .cont { s with heap := h', toks := k' }) :
  wpAny (model PG w) ((Around.mk hh dp (some outer) gd un).deeper (rtEnv L)) (execs rtRest (rtEnv L)) Q E s := by
  obtain ⟨hn1, hn2, hn3, hn4, hn5, hn6, hn7, hn8, hn9⟩ := hnd
  show wpAny _ _ (execs (List.cons _ _) _) _ _ _
  dsimp only [rtEnv]
  rw [show rtScope = Scope.mk _ _ _ _ _ from rfl]
  k_steps
  refine hQ _ _ ?a1 ?a2 ?a3 ?hF ?hN; (case hF => assumption); (case hN => first | assumption | exact news_sub (by assumption) (fun _ h => .tail _ h) | exact news_sub (by assumption) (fun _ h => .tail _ (.tail _ h))); all_goals exact (0 : Nat)
theorem tn_sp_nl (hnd : @Ne Nat x d ∧ @Ne Nat b d ∧ @Ne Nat e d ∧ @Ne Nat q1 d ∧ @Ne Nat q3 d ∧ @Ne Nat x q3 ∧ @Ne Nat b q3 ∧ @Ne Nat e q3 ∧ @Ne Nat q1 q3)
  (B : Below (Around.mk hh dp (some outer) gd un) base outer g) (F : Fr g L s.heap (rtLoc x false te (some (.str "\n" tc)))) (X : (Mine.KK w.params).In g)
  (N : News g L s.heap [(x, instObj 756 d), (d, lexD w tt b q1 q2 q3 (.str " " ts) (.int ln tl) (.str "" tk)), (b, instObj 621 e), (e, sioD w u1 u2 u3 (.str "\n" u4) (.str page u5) (.int pos u6)), (q1, dqObj k1 []), (q3, dqObj k3 [])])
  (T : Top p loose mean mg mb g) (hd : dp + 10 < 1000)
  (hQ : ∀ h' k' (a1 a2 a3 : Tok), Fr g L h' (rtLoc x false te (some (.str "\n" tc))) → News g L h' [(x, instObj 756 d), (d, lexD w tt b q1 q2 q3 (.str " " ts) (.int (ln + 1) a2) (.str "" tk)), (b, instObj 621 e), (e, sioD w u1 u2 u3 (.str "\n" u4) (.str page u5) (.int pos u6)), (q1, dqObj k1 []), (q3, dqObj k3 [])] → Q .cont { s with heap := h', toks := k' }) :
  wpAny (model PG w) ((Around.mk hh dp (some outer) gd un).deeper (rtEnv L)) (execs rtRest (rtEnv L)) Q E s := by
  obtain ⟨hn1, hn2, hn3, hn4, hn5, hn6, hn7, hn8, hn9⟩ := hnd
  show wpAny _ _ (execs (List.cons _ _) _) _ _ _
  dsimp only [rtEnv]
  rw [show rtScope = Scope.mk _ _ _ _ _ from rfl]
  k_steps
  refine hQ _ _ ?a1 ?a2 ?a3 ?hF ?hN; (case hF => assumption); (case hN => first | assumption | exact news_sub (by assumption) (fun _ h => .tail _ h) | exact news_sub (by assumption) (fun _ h => .tail _ (.tail _ h))); all_goals exact (0 : Nat)
theorem tn_sp_word (hnd : @Ne Nat x d ∧ @Ne Nat b d ∧ @Ne Nat e d ∧ @Ne Nat q1 d ∧ @Ne Nat q3 d ∧ @Ne Nat x q3 ∧ @Ne Nat b q3 ∧ @Ne Nat e q3 ∧ @Ne Nat q1 q3)
  (B : Below (Around.mk hh dp (some outer) gd un) base outer g) (F : Fr g L s.heap (rtLoc x false te (some (.str c tc)))) (X : (Mine.KK w.params).In g)
  (N : News g L s.heap [(x, instObj 756 d), (d, lexD w tt b q1 q2 q3 (.str " " ts) (.int ln tl) (.str "" tk)), (b, instObj 621 e), (e, sioD w u1 u2 u3 (.str "\n" u4) (.str page u5) (.int pos u6)), (q1, dqObj k1 []), (q3, dqObj k3 [])])
  (T : Top p loose mean mg mb g) (hd : dp + 10 < 1000) (hc0 : (((c.length : Nat) : Int) != 0) = true) (hcl : c.length ≤ 16777216) (hc1 : (c == Str.ofString "\n") = false) (hc2 : isin (Str.ofString " \t\r\n") c = false) (hc3 : isin (Str.ofString "#") c = false) (hd0 : isin (Str.ofString "abcdfeghijklmnopqrstuvwxyzABCDEFGHIJKLMNOPQRSTUVWXYZ0123456789_~-.*?") c = true)
  (hQ : ∀ h' k' (a1 a2 a3 : Tok), Fr g L h' (rtLoc x false te (some (.str c tc))) → News g L h' [(x, instObj 756 d), (d, lexD w tt b q1 q2 q3 (.str "a" a1) (.int ln tl) (.str c tc)), (b, instObj 621 e), (e, sioD w u1 u2 u3 (.str "\n" u4) (.str page u5) (.int pos u6)), (q1, dqObj k1 []), (q3, dqObj k3 [])] → Q .next { s with heap := h', toks := k' }) :
  wpAny (model PG w) ((Around.mk hh dp (some outer) gd un).deeper (rtEnv L)) (execs rtRest (rtEnv L)) Q E s := by
  obtain ⟨hn1, hn2, hn3, hn4, hn5, hn6, hn7, hn8, hn9⟩ := hnd
  show wpAny _ _ (execs (List.cons _ _) _) _ _ _
  dsimp only [rtEnv]
  rw [show rtScope = Scope.mk _ _ _ _ _ from rfl]
  k_steps
  refine hQ _ _ ?a1 ?a2 ?a3 ?hF ?hN; (case hF => assumption); (case hN => first | assumption | exact news_sub (by assumption) (fun _ h => .tail _ h) | exact news_sub (by assumption) (fun _ h => .tail _ (.tail _ h))); all_goals exact (0 : Nat)
theorem tn_sp_punct (hnd : @Ne Nat x d ∧ @Ne Nat b d ∧ @Ne Nat e d ∧ @Ne Nat q1 d ∧ @Ne Nat q3 d ∧ @Ne Nat x q3 ∧ @Ne Nat b q3 ∧ @Ne Nat e q3 ∧ @Ne Nat q1 q3)
  (B : Below (Around.mk hh dp (some outer) gd un) base outer g) (F : Fr g L s.heap (rtLoc x false te (some (.str c tc)))) (X : (Mine.KK w.params).In g)
  (N : News g L s.heap [(x, instObj 756 d), (d, lexD w tt b q1 q2 q3 (.str " " ts) (.int ln tl) (.str "" tk)), (b, instObj 621 e), (e, sioD w u1 u2 u3 (.str "\n" u4) (.str page u5) (.int pos u6)), (q1, dqObj k1 []), (q3, dqObj k3 [])])
  (T : Top p loose mean mg mb g) (hd : dp + 10 < 1000) (hc0 : (((c.length : Nat) : Int) != 0) = true) (hcl : c.length ≤ 16777216) (hc1 : (c == Str.ofString "\n") = false) (hc2 : isin (Str.ofString " \t\r\n") c = false) (hc3 : isin (Str.ofString "#") c = false) (hd0 : isin (Str.ofString "abcdfeghijklmnopqrstuvwxyzABCDEFGHIJKLMNOPQRSTUVWXYZ0123456789_~-.*?") c = false) (hd1 : isin (Str.ofString "<>/=") c = true)
  (hQ : ∀ h' k' (a1 a2 a3 : Tok), Fr g L h' (rtLoc x false te (some (.str c tc))) → News g L h' [(x, instObj 756 d), (d, lexD w tt b q1 q2 q3 (.str "c" a1) (.int ln tl) (.str c tc)), (b, instObj 621 e), (e, sioD w u1 u2 u3 (.str "\n" u4) (.str page u5) (.int pos u6)), (q1, dqObj k1 []), (q3, dqObj k3 [])] → Q .next { s with heap := h', toks := k' }) :
  wpAny (model PG w) ((Around.mk hh dp (some outer) gd un).deeper (rtEnv L)) (execs rtRest (rtEnv L)) Q E s := by
  obtain ⟨hn1, hn2, hn3, hn4, hn5, hn6, hn7, hn8, hn9⟩ := hnd
  show wpAny _ _ (execs (List.cons _ _) _) _ _ _
  dsimp only [rtEnv]
  rw [show rtScope = Scope.mk _ _ _ _ _ from rfl]
  k_steps
  refine hQ _ _ ?a1 ?a2 ?a3 ?hF ?hN; (case hF => assumption); (case hN => first | assumption | exact news_sub (by assumption) (fun _ h => .tail _ h) | exact news_sub (by assumption) (fun _ h => .tail _ (.tail _ h))); all_goals exact (0 : Nat)
theorem tn_sp_quote (hnd : @Ne Nat x d ∧ @Ne Nat b d ∧ @Ne Nat e d ∧ @Ne Nat q1 d ∧ @Ne Nat q3 d ∧ @Ne Nat x q3 ∧ @Ne Nat b q3 ∧ @Ne Nat e q3 ∧ @Ne Nat q1 q3)
  (B : Below (Around.mk hh dp (some outer) gd un) base outer g) (F : Fr g L s.heap (rtLoc x false te (some (.str c tc)))) (X : (Mine.KK w.params).In g)
  (N : News g L s.heap [(x, instObj 756 d), (d, lexD w tt b q1 q2 q3 (.str " " ts) (.int ln tl) (.str "" tk)), (b, instObj 621 e), (e, sioD w u1 u2 u3 (.str "\n" u4) (.str page u5) (.int pos u6)), (q1, dqObj k1 []), (q3, dqObj k3 [])])
  (T : Top p loose mean mg mb g) (hd : dp + 10 < 1000) (hc0 : (((c.length : Nat) : Int) != 0) = true) (hcl : c.length ≤ 16777216) (hc1 : (c == Str.ofString "\n") = false) (hc2 : isin (Str.ofString " \t\r\n") c = false) (hc3 : isin (Str.ofString "#") c = false) (hd0 : isin (Str.ofString "abcdfeghijklmnopqrstuvwxyzABCDEFGHIJKLMNOPQRSTUVWXYZ0123456789_~-.*?") c = false) (hd1 : isin (Str.ofString "<>/=") c = false) (hd2 : isin (Str.ofString "'\"") c = true)
  (hQ : ∀ h' k' (a1 a2 a3 : Tok), Fr g L h' (rtLoc x false te (some (.str c tc))) → News g L h' [(x, instObj 756 d), (d, lexD w tt b q1 q2 q3 (.str c tc) (.int ln tl) (.str c tc)), (b, instObj 621 e), (e, sioD w u1 u2 u3 (.str "\n" u4) (.str page u5) (.int pos u6)), (q1, dqObj k1 []), (q3, dqObj k3 [])] → Q .next { s with heap := h', toks := k' }) :
  wpAny (model PG w) ((Around.mk hh dp (some outer) gd un).deeper (rtEnv L)) (execs rtRest (rtEnv L)) Q E s := by
  obtain ⟨hn1, hn2, hn3, hn4, hn5, hn6, hn7, hn8, hn9⟩ := hnd
  show wpAny _ _ (execs (List.cons _ _) _) _ _ _
  dsimp only [rtEnv]
  rw [show rtScope = Scope.mk _ _ _ _ _ from rfl]
  k_steps
  refine hQ _ _ ?a1 ?a2 ?a3 ?hF ?hN; (case hF => assumption); (case hN => first | assumption | exact news_sub (by assumption) (fun _ h => .tail _ h) | exact news_sub (by assumption) (fun _ h => .tail _ (.tail _ h))); all_goals exact (0 : Nat)
end
end Mine
end
-- part TnB
section
namespace Mine
section
variable {w : World} {hh : Option Value} {dp un : Nat} {gd : Option (List Code)} {base g : Heap} {L : Addr} {s : Shared} {p : Program} {loose : List Str} {mean : ExcName → Option Value} {mg mb : Str → Option Value} {outer : List Env} {Q : Flow → Shared → Prop} {E : Value → Shared → Prop}
variable {x d b e q1 q2 q3 : Addr} {tt : Nat → Tok} {te tc ts tl tk u1 u2 u3 u4 u5 u6 : Tok} {k1 k3 pos ln : Int} {page c tok q : Str} {qd : Bool}
theorem tn_qt_char (hnd : @Ne Nat x d ∧ @Ne Nat b d ∧ @Ne Nat e d ∧ @Ne Nat q1 d ∧ @Ne Nat q3 d ∧ @Ne Nat x q3 ∧ @Ne Nat b q3 ∧ @Ne Nat e q3 ∧ @Ne Nat q1 q3)
  (B : Below (Around.mk hh dp (some outer) gd un) base outer g) (F : Fr g L s.heap (rtLoc x qd te (some (.str c tc)))) (X : (Mine.KK w.params).In g)
  (N : News g L s.heap [(x, instObj 756 d), (d, lexD w tt b q1 q2 q3 (.str q ts) (.int ln tl) (.str tok tk)), (b, instObj 621 e), (e, sioD w u1 u2 u3 (.str "\n" u4) (.str page u5) (.int pos u6)), (q1, dqObj k1 []), (q3, dqObj k3 [])])
  (T : Top p loose mean mg mb g) (hd : dp + 10 < 1000) (ht : tok.length ≤ 10000000) (hq1 : (q == Str.ofString " ") = false) (hq2 : isin (Str.ofString "'\"") q = true) (hcq : (c == q) = false) (hcl1 : c.length = 1) (hc0 : (((c.length : Nat) : Int) != 0) = true) (hcl : c.length ≤ 16777216) (hc1 : (c == Str.ofString "\n") = false)
  (hQ : ∀ h' k' (a1 a2 a3 : Tok), Fr g L h' (rtLoc x true te (some (.str c tc))) → News g L h' [(x, instObj 756 d), (d, lexD w tt b q1 q2 q3 (.str q ts) (.int ln tl) (.str (tok ++ c) a3)), (b, instObj 621 e), (e, sioD w u1 u2 u3 (.str "\n" u4) (.str page u5) (.int pos u6)), (q1, dqObj k1 []), (q3, dqObj k3 [])] → Q .next { s with heap := h', toks := k' }) :
  wpAny (model PG w) ((Around.mk hh dp (some outer) gd un).deeper (rtEnv L)) (execs rtRest (rtEnv L)) Q E s := by
  obtain ⟨hn1, hn2, hn3, hn4, hn5, hn6, hn7, hn8, hn9⟩ := hnd
  show wpAny _ _ (execs (List.cons _ _) _) _ _ _
  dsimp only [rtEnv]
  rw [show rtScope = Scope.mk _ _ _ _ _ from rfl]
  k_steps
  refine hQ _ _ ?a1 ?a2 ?a3 (Fr.as (by assumption) ?hF) ?hN; (case hN => first | assumption | exact news_sub (by assumption) (fun _ h => .tail _ h) | exact news_sub (by assumption) (fun _ h => .tail _ (.tail _ h))); (case hF => (intro y; (by_cases hy : y = Str.ofString "quoted"); (subst hy; rfl); (dsimp only [rtLoc]; simp only [hy, if_false]))); all_goals exact (0 : Nat)
theorem tn_qt_end (hnd : @Ne Nat x d ∧ @Ne Nat b d ∧ @Ne Nat e d ∧ @Ne Nat q1 d ∧ @Ne Nat q3 d ∧ @Ne Nat x q3 ∧ @Ne Nat b q3 ∧ @Ne Nat e q3 ∧ @Ne Nat q1 q3)
  (B : Below (Around.mk hh dp (some outer) gd un) base outer g) (F : Fr g L s.heap (rtLoc x qd te (some (.str c tc)))) (X : (Mine.KK w.params).In g)
  (N : News g L s.heap [(x, instObj 756 d), (d, lexD w tt b q1 q2 q3 (.str q ts) (.int ln tl) (.str tok tk)), (b, instObj 621 e), (e, sioD w u1 u2 u3 (.str "\n" u4) (.str page u5) (.int pos u6)), (q1, dqObj k1 []), (q3, dqObj k3 [])])
  (T : Top p loose mean mg mb g) (hd : dp + 10 < 1000) (ht : tok.length ≤ 10000000) (hq1 : (q == Str.ofString " ") = false) (hq2 : isin (Str.ofString "'\"") q = true) (hcq : (c == q) = true) (hcl1 : c.length = 1) (hc0 : (((c.length : Nat) : Int) != 0) = true) (hcl : c.length ≤ 16777216) (hc1 : (c == Str.ofString "\n") = false)
  (hQ : ∀ h' k' (a1 a2 a3 : Tok), Fr g L h' (rtLoc x true te (some (.str c tc))) → News g L h' [(x, instObj 756 d), (d, lexD w tt b q1 q2 q3 (.str " " a1) (.int ln tl) (.str (tok ++ c) a3)), (b, instObj 621 e), (e, sioD w u1 u2 u3 (.str "\n" u4) (.str page u5) (.int pos u6)), (q1, dqObj k1 []), (q3, dqObj k3 [])] → Q .brk { s with heap := h', toks := k' }) :
  wpAny (model PG w) ((Around.mk hh dp (some outer) gd un).deeper (rtEnv L)) (execs rtRest (rtEnv L)) Q E s := by
  obtain ⟨hn1, hn2, hn3, hn4, hn5, hn6, hn7, hn8, hn9⟩ := hnd
  show wpAny _ _ (execs (List.cons _ _) _) _ _ _
  dsimp only [rtEnv]
  rw [show rtScope = Scope.mk _ _ _ _ _ from rfl]
  k_steps
  refine hQ _ _ ?a1 ?a2 ?a3 (Fr.as (by assumption) ?hF) ?hN; (case hN => first | assumption | exact news_sub (by assumption) (fun _ h => .tail _ h) | exact news_sub (by assumption) (fun _ h => .tail _ (.tail _ h))); (case hF => (intro y; (by_cases hy : y = Str.ofString "quoted"); (subst hy; rfl); (dsimp only [rtLoc]; simp only [hy, if_false]))); all_goals exact (0 : Nat)
theorem tn_wd_word (hnd : @Ne Nat x d ∧ @Ne Nat b d ∧ @Ne Nat e d ∧ @Ne Nat q1 d ∧ @Ne Nat q3 d ∧ @Ne Nat x q3 ∧ @Ne Nat b q3 ∧ @Ne Nat e q3 ∧ @Ne Nat q1 q3)
  (B : Below (Around.mk hh dp (some outer) gd un) base outer g) (F : Fr g L s.heap (rtLoc x false te (some (.str c tc)))) (X : (Mine.KK w.params).In g)
  (N : News g L s.heap [(x, instObj 756 d), (d, lexD w tt b q1 q2 q3 (.str "a" ts) (.int ln tl) (.str tok tk)), (b, instObj 621 e), (e, sioD w u1 u2 u3 (.str "\n" u4) (.str page u5) (.int pos u6)), (q1, dqObj k1 []), (q3, dqObj k3 [])])
  (T : Top p loose mean mg mb g) (hd : dp + 10 < 1000) (ht : tok.length ≤ 10000000) (hcl1 : c.length = 1) (hc0 : (((c.length : Nat) : Int) != 0) = true) (hcl : c.length ≤ 16777216) (hc1 : (c == Str.ofString "\n") = false) (hc2 : isin (Str.ofString " \t\r\n") c = false) (hc3 : isin (Str.ofString "#") c = false) (hd0 : isin (Str.ofString "abcdfeghijklmnopqrstuvwxyzABCDEFGHIJKLMNOPQRSTUVWXYZ0123456789_~-.*?") c = true)
  (hQ : ∀ h' k' (a1 a2 a3 : Tok), Fr g L h' (rtLoc x false te (some (.str c tc))) → News g L h' [(x, instObj 756 d), (d, lexD w tt b q1 q2 q3 (.str "a" ts) (.int ln tl) (.str (tok ++ c) a3)), (b, instObj 621 e), (e, sioD w u1 u2 u3 (.str "\n" u4) (.str page u5) (.int pos u6)), (q1, dqObj k1 []), (q3, dqObj k3 [])] → Q .next { s with heap := h', toks := k' }) :
  wpAny (model PG w) ((Around.mk hh dp (some outer) gd un).deeper (rtEnv L)) (execs rtRest (rtEnv L)) Q E s := by
  obtain ⟨hn1, hn2, hn3, hn4, hn5, hn6, hn7, hn8, hn9⟩ := hnd
  show wpAny _ _ (execs (List.cons _ _) _) _ _ _
  dsimp only [rtEnv]
  rw [show rtScope = Scope.mk _ _ _ _ _ from rfl]
  k_steps
  refine hQ _ _ ?a1 ?a2 ?a3 ?hF ?hN; (case hF => assumption); (case hN => first | assumption | exact news_sub (by assumption) (fun _ h => .tail _ h) | exact news_sub (by assumption) (fun _ h => .tail _ (.tail _ h))); all_goals exact (0 : Nat)
end
end Mine
end
-- part TnC
section
namespace Mine
section
variable {w : World} {hh : Option Value} {dp un : Nat} {gd : Option (List Code)} {base g : Heap} {L : Addr} {s : Shared} {p : Program} {loose : List Str} {mean : ExcName → Option Value} {mg mb : Str → Option Value} {outer : List Env} {Q : Flow → Shared → Prop} {E : Value → Shared → Prop}
variable {x d b e q1 q2 q3 : Addr} {tt : Nat → Tok} {te tc ts tl tk u1 u2 u3 u4 u5 u6 : Tok} {k1 k3 pos ln : Int} {page c tok q : Str} {qd : Bool}
theorem tn_wd_blank (hnd : @Ne Nat x d ∧ @Ne Nat b d ∧ @Ne Nat e d ∧ @Ne Nat q1 d ∧ @Ne Nat q3 d ∧ @Ne Nat x q3 ∧ @Ne Nat b q3 ∧ @Ne Nat e q3 ∧ @Ne Nat q1 q3)
  (B : Below (Around.mk hh dp (some outer) gd un) base outer g) (F : Fr g L s.heap (rtLoc x false te (some (.str " " tc)))) (X : (Mine.KK w.params).In g)
  (N : News g L s.heap [(x, instObj 756 d), (d, lexD w tt b q1 q2 q3 (.str "a" ts) (.int ln tl) (.str tok tk)), (b, instObj 621 e), (e, sioD w u1 u2 u3 (.str "\n" u4) (.str page u5) (.int pos u6)), (q1, dqObj k1 []), (q3, dqObj k3 [])])
  (T : Top p loose mean mg mb g) (hd : dp + 10 < 1000) (ht : tok.length ≤ 10000000) (ht0 : (((tok.length : Nat) : Int) != 0) = true)
  (hQ : ∀ h' k' (a1 a2 a3 : Tok), Fr g L h' (rtLoc x false te (some (.str " " tc))) → News g L h' [(x, instObj 756 d), (d, lexD w tt b q1 q2 q3 (.str " " a1) (.int ln tl) (.str tok tk)), (b, instObj 621 e), (e, sioD w u1 u2 u3 (.str "\n" u4) (.str page u5) (.int pos u6)), (q1, dqObj k1 []), (q3, dqObj k3 [])] → Q .brk { s with heap := h', toks := k' }) :
  wpAny (model PG w) ((Around.mk hh dp (some outer) gd un).deeper (rtEnv L)) (execs rtRest (rtEnv L)) Q E s := by
  obtain ⟨hn1, hn2, hn3, hn4, hn5, hn6, hn7, hn8, hn9⟩ := hnd
  show wpAny _ _ (execs (List.cons _ _) _) _ _ _
  dsimp only [rtEnv]
  rw [show rtScope = Scope.mk _ _ _ _ _ from rfl]
  (repeat' (first | (focus ((with_reducible show wpAny _ _ (PySem.call (Value.builtin "collections.deque.append") _ _) _ _ _); k_dflt (refine' dq_append ?F ?N ?U ?z ?_; (case F | N => k_asm); (case U => k_upd); (case z => (first | decide | (simp only [List.length_cons, List.length_nil]; omega) | omega)); k_whole); intro h' F' N'; (try dsimp only [List.nil_append, List.cons_append] at N'); (try k_sweep))) | (focus ((with_reducible show wpAny _ _ (getMethod (Value.ref _) _ _) _ _ _); k_dflt (refine' dq_getMethod ?N ?m dq_slot_append dq_type_append ?_; (case N => k_asm); (case m => k_mem); k_whole))) | walk_at "one step"))
  refine hQ _ _ ?a1 ?a2 ?a3 ?hF ?hN; (case hF => assumption); (case hN => first | assumption | exact news_sub (by assumption) (fun _ h => .tail _ h) | exact news_sub (by assumption) (fun _ h => .tail _ (.tail _ h))); all_goals exact (0 : Nat)
theorem tn_wd_nl (hnd : @Ne Nat x d ∧ @Ne Nat b d ∧ @Ne Nat e d ∧ @Ne Nat q1 d ∧ @Ne Nat q3 d ∧ @Ne Nat x q3 ∧ @Ne Nat b q3 ∧ @Ne Nat e q3 ∧ @Ne Nat q1 q3)
  (B : Below (Around.mk hh dp (some outer) gd un) base outer g) (F : Fr g L s.heap (rtLoc x false te (some (.str "\n" tc)))) (X : (Mine.KK w.params).In g)
  (N : News g L s.heap [(x, instObj 756 d), (d, lexD w tt b q1 q2 q3 (.str "a" ts) (.int ln tl) (.str tok tk)), (b, instObj 621 e), (e, sioD w u1 u2 u3 (.str "\n" u4) (.str page u5) (.int pos u6)), (q1, dqObj k1 []), (q3, dqObj k3 [])])
  (T : Top p loose mean mg mb g) (hd : dp + 10 < 1000) (ht : tok.length ≤ 10000000) (ht0 : (((tok.length : Nat) : Int) != 0) = true)
  (hQ : ∀ h' k' (a1 a2 a3 : Tok), Fr g L h' (rtLoc x false te (some (.str "\n" tc))) → News g L h' [(x, instObj 756 d), (d, lexD w tt b q1 q2 q3 (.str " " a1) (.int (ln + 1) a2) (.str tok tk)), (b, instObj 621 e), (e, sioD w u1 u2 u3 (.str "\n" u4) (.str page u5) (.int pos u6)), (q1, dqObj k1 []), (q3, dqObj k3 [])] → Q .brk { s with heap := h', toks := k' }) :
  wpAny (model PG w) ((Around.mk hh dp (some outer) gd un).deeper (rtEnv L)) (execs rtRest (rtEnv L)) Q E s := by
  obtain ⟨hn1, hn2, hn3, hn4, hn5, hn6, hn7, hn8, hn9⟩ := hnd
  show wpAny _ _ (execs (List.cons _ _) _) _ _ _
  dsimp only [rtEnv]
  rw [show rtScope = Scope.mk _ _ _ _ _ from rfl]
  (repeat' (first | (focus ((with_reducible show wpAny _ _ (PySem.call (Value.builtin "collections.deque.append") _ _) _ _ _); k_dflt (refine' dq_append ?F ?N ?U ?z ?_; (case F | N => k_asm); (case U => k_upd); (case z => (first | decide | (simp only [List.length_cons, List.length_nil]; omega) | omega)); k_whole); intro h' F' N'; (try dsimp only [List.nil_append, List.cons_append] at N'); (try k_sweep))) | (focus ((with_reducible show wpAny _ _ (getMethod (Value.ref _) _ _) _ _ _); k_dflt (refine' dq_getMethod ?N ?m dq_slot_append dq_type_append ?_; (case N => k_asm); (case m => k_mem); k_whole))) | walk_at "one step"))
  refine hQ _ _ ?a1 ?a2 ?a3 ?hF ?hN; (case hF => assumption); (case hN => first | assumption | exact news_sub (by assumption) (fun _ h => .tail _ h) | exact news_sub (by assumption) (fun _ h => .tail _ (.tail _ h))); all_goals exact (0 : Nat)
theorem tn_wd_punct (hnd : @Ne Nat x d ∧ @Ne Nat b d ∧ @Ne Nat e d ∧ @Ne Nat q1 d ∧ @Ne Nat q3 d ∧ @Ne Nat x q3 ∧ @Ne Nat b q3 ∧ @Ne Nat e q3 ∧ @Ne Nat q1 q3)
  (B : Below (Around.mk hh dp (some outer) gd un) base outer g) (F : Fr g L s.heap (rtLoc x false te (some (.str c tc)))) (X : (Mine.KK w.params).In g)
  (N : News g L s.heap [(x, instObj 756 d), (d, lexD w tt b q1 q2 q3 (.str "a" ts) (.int ln tl) (.str tok tk)), (b, instObj 621 e), (e, sioD w u1 u2 u3 (.str "\n" u4) (.str page u5) (.int pos u6)), (q1, dqObj k1 []), (q3, dqObj k3 [])])
  (T : Top p loose mean mg mb g) (hd : dp + 10 < 1000) (ht : tok.length ≤ 10000000) (ht0 : (((tok.length : Nat) : Int) != 0) = true) (hcl1 : c.length = 1) (hc0 : (((c.length : Nat) : Int) != 0) = true) (hcl : c.length ≤ 16777216) (hc1 : (c == Str.ofString "\n") = false) (hc2 : isin (Str.ofString " \t\r\n") c = false) (hc3 : isin (Str.ofString "#") c = false) (hd0 : isin (Str.ofString "abcdfeghijklmnopqrstuvwxyzABCDEFGHIJKLMNOPQRSTUVWXYZ0123456789_~-.*?") c = false) (hd1 : isin (Str.ofString "'\"") c = false)
  (hQ : ∀ h' k' (a1 a2 a3 : Tok), Fr g L h' (rtLoc x false te (some (.str c tc))) → News g L h' [(x, instObj 756 d), (d, lexD w tt b q1 q2 q3 (.str " " a1) (.int ln tl) (.str tok tk)), (b, instObj 621 e), (e, sioD w u1 u2 u3 (.str "\n" u4) (.str page u5) (.int pos u6)), (q1, dqObj k1 []), (q3, dqObj (k3 + 1) [.str c tc])] → Q .brk { s with heap := h', toks := k' }) :
  wpAny (model PG w) ((Around.mk hh dp (some outer) gd un).deeper (rtEnv L)) (execs rtRest (rtEnv L)) Q E s := by
  obtain ⟨hn1, hn2, hn3, hn4, hn5, hn6, hn7, hn8, hn9⟩ := hnd
  show wpAny _ _ (execs (List.cons _ _) _) _ _ _
  dsimp only [rtEnv]
  rw [show rtScope = Scope.mk _ _ _ _ _ from rfl]
  (repeat' (first | (focus ((with_reducible show wpAny _ _ (PySem.call (Value.builtin "collections.deque.append") _ _) _ _ _); k_dflt (refine' dq_append ?F ?N ?U ?z ?_; (case F | N => k_asm); (case U => k_upd); (case z => (first | decide | (simp only [List.length_cons, List.length_nil]; omega) | omega)); k_whole); intro h' F' N'; (try dsimp only [List.nil_append, List.cons_append] at N'); (try k_sweep))) | (focus ((with_reducible show wpAny _ _ (getMethod (Value.ref _) _ _) _ _ _); k_dflt (refine' dq_getMethod ?N ?m dq_slot_append dq_type_append ?_; (case N => k_asm); (case m => k_mem); k_whole))) | walk_at "one step"))
  refine hQ _ _ ?a1 ?a2 ?a3 ?hF ?hN; (case hF => assumption); (case hN => first | assumption | exact news_sub (by assumption) (fun _ h => .tail _ h) | exact news_sub (by assumption) (fun _ h => .tail _ (.tail _ h))); all_goals exact (0 : Nat)
end
end Mine
end
-- part TnD
section
namespace Mine
section
variable {w : World} {hh : Option Value} {dp un : Nat} {gd : Option (List Code)} {base g : Heap} {L : Addr} {s : Shared} {p : Program} {loose : List Str} {mean : ExcName → Option Value} {mg mb : Str → Option Value} {outer : List Env} {Q : Flow → Shared → Prop} {E : Value → Shared → Prop}
variable {x d b e q1 q2 q3 : Addr} {tt : Nat → Tok} {te tc ts tl tk u1 u2 u3 u4 u5 u6 : Tok} {k1 k3 pos ln : Int} {page c tok q : Str} {qd : Bool}
theorem tn_pn_eof (hnd : @Ne Nat x d ∧ @Ne Nat b d ∧ @Ne Nat e d ∧ @Ne Nat q1 d ∧ @Ne Nat q3 d ∧ @Ne Nat x q3 ∧ @Ne Nat b q3 ∧ @Ne Nat e q3 ∧ @Ne Nat q1 q3)
  (B : Below (Around.mk hh dp (some outer) gd un) base outer g) (F : Fr g L s.heap (rtLoc x false te (some (.str "" tc)))) (X : (Mine.KK w.params).In g)
  (N : News g L s.heap [(x, instObj 756 d), (d, lexD w tt b q1 q2 q3 (.str "c" ts) (.int ln tl) (.str tok tk)), (b, instObj 621 e), (e, sioD w u1 u2 u3 (.str "\n" u4) (.str page u5) (.int pos u6)), (q1, dqObj k1 []), (q3, dqObj k3 [])])
  (T : Top p loose mean mg mb g) (hd : dp + 10 < 1000) (ht : tok.length ≤ 10000000)
  (hQ : ∀ h' k' (a1 a2 a3 : Tok), Fr g L h' (rtLoc x false te (some (.str "" tc))) → News g L h' [(x, instObj 756 d), (d, lexD w tt b q1 q2 q3 (.none) (.int ln tl) (.str tok tk)), (b, instObj 621 e), (e, sioD w u1 u2 u3 (.str "\n" u4) (.str page u5) (.int pos u6)), (q1, dqObj k1 []), (q3, dqObj k3 [])] → Q .brk { s with heap := h', toks := k' }) :
  wpAny (model PG w) ((Around.mk hh dp (some outer) gd un).deeper (rtEnv L)) (execs rtRest (rtEnv L)) Q E s := by
  obtain ⟨hn1, hn2, hn3, hn4, hn5, hn6, hn7, hn8, hn9⟩ := hnd
  show wpAny _ _ (execs (List.cons _ _) _) _ _ _
  dsimp only [rtEnv]
  rw [show rtScope = Scope.mk _ _ _ _ _ from rfl]
  (repeat' (first | (focus ((with_reducible show wpAny _ _ (PySem.call (Value.builtin "collections.deque.append") _ _) _ _ _); k_dflt (refine' dq_append ?F ?N ?U ?z ?_; (case F | N => k_asm); (case U => k_upd); (case z => (first | decide | (simp only [List.length_cons, List.length_nil]; omega) | omega)); k_whole); intro h' F' N'; (try dsimp only [List.nil_append, List.cons_append] at N'); (try k_sweep))) | (focus ((with_reducible show wpAny _ _ (getMethod (Value.ref _) _ _) _ _ _); k_dflt (refine' dq_getMethod ?N ?m dq_slot_append dq_type_append ?_; (case N => k_asm); (case m => k_mem); k_whole))) | walk_at "one step"))
  refine hQ _ _ ?a1 ?a2 ?a3 ?hF ?hN; (case hF => assumption); (case hN => first | assumption | exact news_sub (by assumption) (fun _ h => .tail _ h) | exact news_sub (by assumption) (fun _ h => .tail _ (.tail _ h))); all_goals exact (0 : Nat)
theorem tn_pn_nl (hnd : @Ne Nat x d ∧ @Ne Nat b d ∧ @Ne Nat e d ∧ @Ne Nat q1 d ∧ @Ne Nat q3 d ∧ @Ne Nat x q3 ∧ @Ne Nat b q3 ∧ @Ne Nat e q3 ∧ @Ne Nat q1 q3)
  (B : Below (Around.mk hh dp (some outer) gd un) base outer g) (F : Fr g L s.heap (rtLoc x false te (some (.str "\n" tc)))) (X : (Mine.KK w.params).In g)
  (N : News g L s.heap [(x, instObj 756 d), (d, lexD w tt b q1 q2 q3 (.str "c" ts) (.int ln tl) (.str tok tk)), (b, instObj 621 e), (e, sioD w u1 u2 u3 (.str "\n" u4) (.str page u5) (.int pos u6)), (q1, dqObj k1 []), (q3, dqObj k3 [])])
  (T : Top p loose mean mg mb g) (hd : dp + 10 < 1000) (ht : tok.length ≤ 10000000) (ht0 : (((tok.length : Nat) : Int) != 0) = true)
  (hQ : ∀ h' k' (a1 a2 a3 : Tok), Fr g L h' (rtLoc x false te (some (.str "\n" tc))) → News g L h' [(x, instObj 756 d), (d, lexD w tt b q1 q2 q3 (.str " " a1) (.int (ln + 1) a2) (.str tok tk)), (b, instObj 621 e), (e, sioD w u1 u2 u3 (.str "\n" u4) (.str page u5) (.int pos u6)), (q1, dqObj k1 []), (q3, dqObj k3 [])] → Q .brk { s with heap := h', toks := k' }) :
  wpAny (model PG w) ((Around.mk hh dp (some outer) gd un).deeper (rtEnv L)) (execs rtRest (rtEnv L)) Q E s := by
  obtain ⟨hn1, hn2, hn3, hn4, hn5, hn6, hn7, hn8, hn9⟩ := hnd
  show wpAny _ _ (execs (List.cons _ _) _) _ _ _
  dsimp only [rtEnv]
  rw [show rtScope = Scope.mk _ _ _ _ _ from rfl]
  (repeat' (first | (focus ((with_reducible show wpAny _ _ (PySem.call (Value.builtin "collections.deque.append") _ _) _ _ _); k_dflt (refine' dq_append ?F ?N ?U ?z ?_; (case F | N => k_asm); (case U => k_upd); (case z => (first | decide | (simp only [List.length_cons, List.length_nil]; omega) | omega)); k_whole); intro h' F' N'; (try dsimp only [List.nil_append, List.cons_append] at N'); (try k_sweep))) | (focus ((with_reducible show wpAny _ _ (getMethod (Value.ref _) _ _) _ _ _); k_dflt (refine' dq_getMethod ?N ?m dq_slot_append dq_type_append ?_; (case N => k_asm); (case m => k_mem); k_whole))) | walk_at "one step"))
  refine hQ _ _ ?a1 ?a2 ?a3 ?hF ?hN; (case hF => assumption); (case hN => first | assumption | exact news_sub (by assumption) (fun _ h => .tail _ h) | exact news_sub (by assumption) (fun _ h => .tail _ (.tail _ h))); all_goals exact (0 : Nat)
theorem tn_pn_punct (hnd : @Ne Nat x d ∧ @Ne Nat b d ∧ @Ne Nat e d ∧ @Ne Nat q1 d ∧ @Ne Nat q3 d ∧ @Ne Nat x q3 ∧ @Ne Nat b q3 ∧ @Ne Nat e q3 ∧ @Ne Nat q1 q3)
  (B : Below (Around.mk hh dp (some outer) gd un) base outer g) (F : Fr g L s.heap (rtLoc x false te (some (.str c tc)))) (X : (Mine.KK w.params).In g)
  (N : News g L s.heap [(x, instObj 756 d), (d, lexD w tt b q1 q2 q3 (.str "c" ts) (.int ln tl) (.str tok tk)), (b, instObj 621 e), (e, sioD w u1 u2 u3 (.str "\n" u4) (.str page u5) (.int pos u6)), (q1, dqObj k1 []), (q3, dqObj k3 [])])
  (T : Top p loose mean mg mb g) (hd : dp + 10 < 1000) (ht : tok.length ≤ 10000000) (hcl1 : c.length = 1) (hc0 : (((c.length : Nat) : Int) != 0) = true) (hcl : c.length ≤ 16777216) (hc1 : (c == Str.ofString "\n") = false) (hc2 : isin (Str.ofString " \t\r\n") c = false) (hc3 : isin (Str.ofString "#") c = false) (hd0 : isin (Str.ofString "<>/=") c = true)
  (hQ : ∀ h' k' (a1 a2 a3 : Tok), Fr g L h' (rtLoc x false te (some (.str c tc))) → News g L h' [(x, instObj 756 d), (d, lexD w tt b q1 q2 q3 (.str "c" ts) (.int ln tl) (.str (tok ++ c) a3)), (b, instObj 621 e), (e, sioD w u1 u2 u3 (.str "\n" u4) (.str page u5) (.int pos u6)), (q1, dqObj k1 []), (q3, dqObj k3 [])] → Q .next { s with heap := h', toks := k' }) :
  wpAny (model PG w) ((Around.mk hh dp (some outer) gd un).deeper (rtEnv L)) (execs rtRest (rtEnv L)) Q E s := by
  obtain ⟨hn1, hn2, hn3, hn4, hn5, hn6, hn7, hn8, hn9⟩ := hnd
  show wpAny _ _ (execs (List.cons _ _) _) _ _ _
  dsimp only [rtEnv]
  rw [show rtScope = Scope.mk _ _ _ _ _ from rfl]
  (repeat' (first | (focus ((with_reducible show wpAny _ _ (PySem.call (Value.builtin "collections.deque.append") _ _) _ _ _); k_dflt (refine' dq_append ?F ?N ?U ?z ?_; (case F | N => k_asm); (case U => k_upd); (case z => (first | decide | (simp only [List.length_cons, List.length_nil]; omega) | omega)); k_whole); intro h' F' N'; (try dsimp only [List.nil_append, List.cons_append] at N'); (try k_sweep))) | (focus ((with_reducible show wpAny _ _ (getMethod (Value.ref _) _ _) _ _ _); k_dflt (refine' dq_getMethod ?N ?m dq_slot_append dq_type_append ?_; (case N => k_asm); (case m => k_mem); k_whole))) | walk_at "one step"))
  refine hQ _ _ ?a1 ?a2 ?a3 ?hF ?hN; (case hF => assumption); (case hN => first | assumption | exact news_sub (by assumption) (fun _ h => .tail _ h) | exact news_sub (by assumption) (fun _ h => .tail _ (.tail _ h))); all_goals exact (0 : Nat)
theorem tn_pn_other (hnd : @Ne Nat x d ∧ @Ne Nat b d ∧ @Ne Nat e d ∧ @Ne Nat q1 d ∧ @Ne Nat q3 d ∧ @Ne Nat x q3 ∧ @Ne Nat b q3 ∧ @Ne Nat e q3 ∧ @Ne Nat q1 q3)
  (B : Below (Around.mk hh dp (some outer) gd un) base outer g) (F : Fr g L s.heap (rtLoc x false te (some (.str c tc)))) (X : (Mine.KK w.params).In g)
  (N : News g L s.heap [(x, instObj 756 d), (d, lexD w tt b q1 q2 q3 (.str "c" ts) (.int ln tl) (.str tok tk)), (b, instObj 621 e), (e, sioD w u1 u2 u3 (.str "\n" u4) (.str page u5) (.int pos u6)), (q1, dqObj k1 []), (q3, dqObj k3 [])])
  (T : Top p loose mean mg mb g) (hd : dp + 10 < 1000) (ht : tok.length ≤ 10000000) (hcl1 : c.length = 1) (hc0 : (((c.length : Nat) : Int) != 0) = true) (hcl : c.length ≤ 16777216) (hc1 : (c == Str.ofString "\n") = false) (hc2 : isin (Str.ofString " \t\r\n") c = false) (hc3 : isin (Str.ofString "#") c = false) (hd0 : isin (Str.ofString "<>/=") c = false)
  (hQ : ∀ h' k' (a1 a2 a3 : Tok), Fr g L h' (rtLoc x false te (some (.str c tc))) → News g L h' [(x, instObj 756 d), (d, lexD w tt b q1 q2 q3 (.str " " a1) (.int ln tl) (.str tok tk)), (b, instObj 621 e), (e, sioD w u1 u2 u3 (.str "\n" u4) (.str page u5) (.int pos u6)), (q1, dqObj k1 []), (q3, dqObj (k3 + 1) [.str c tc])] → Q .brk { s with heap := h', toks := k' }) :
  wpAny (model PG w) ((Around.mk hh dp (some outer) gd un).deeper (rtEnv L)) (execs rtRest (rtEnv L)) Q E s := by
  obtain ⟨hn1, hn2, hn3, hn4, hn5, hn6, hn7, hn8, hn9⟩ := hnd
  show wpAny _ _ (execs (List.cons _ _) _) _ _ _
  dsimp only [rtEnv]
  rw [show rtScope = Scope.mk _ _ _ _ _ from rfl]
  (repeat' (first | (focus ((with_reducible show wpAny _ _ (PySem.call (Value.builtin "collections.deque.append") _ _) _ _ _); k_dflt (refine' dq_append ?F ?N ?U ?z ?_; (case F | N => k_asm); (case U => k_upd); (case z => (first | decide | (simp only [List.length_cons, List.length_nil]; omega) | omega)); k_whole); intro h' F' N'; (try dsimp only [List.nil_append, List.cons_append] at N'); (try k_sweep))) | (focus ((with_reducible show wpAny _ _ (getMethod (Value.ref _) _ _) _ _ _); k_dflt (refine' dq_getMethod ?N ?m dq_slot_append dq_type_append ?_; (case N => k_asm); (case m => k_mem); k_whole))) | walk_at "one step"))
  refine hQ _ _ ?a1 ?a2 ?a3 ?hF ?hN; (case hF => assumption); (case hN => first | assumption | exact news_sub (by assumption) (fun _ h => .tail _ h) | exact news_sub (by assumption) (fun _ h => .tail _ (.tail _ h))); all_goals exact (0 : Nat)
theorem tn_no_eof (hnd : @Ne Nat x d ∧ @Ne Nat b d ∧ @Ne Nat e d ∧ @Ne Nat q1 d ∧ @Ne Nat q3 d ∧ @Ne Nat x q3 ∧ @Ne Nat b q3 ∧ @Ne Nat e q3 ∧ @Ne Nat q1 q3)
  (B : Below (Around.mk hh dp (some outer) gd un) base outer g) (F : Fr g L s.heap (rtLoc x false te (some (.str "" tc)))) (X : (Mine.KK w.params).In g)
  (N : News g L s.heap [(x, instObj 756 d), (d, lexD w tt b q1 q2 q3 (.none) (.int ln tl) (.str "" tk)), (b, instObj 621 e), (e, sioD w u1 u2 u3 (.str "\n" u4) (.str page u5) (.int pos u6)), (q1, dqObj k1 []), (q3, dqObj k3 [])])
  (T : Top p loose mean mg mb g) (hd : dp + 10 < 1000)
  (hQ : ∀ h' k' (a1 a2 a3 : Tok), Fr g L h' (rtLoc x false te (some (.str "" tc))) → News g L h' [(x, instObj 756 d), (d, lexD w tt b q1 q2 q3 (.none) (.int ln tl) (.str "" a3)), (b, instObj 621 e), (e, sioD w u1 u2 u3 (.str "\n" u4) (.str page u5) (.int pos u6)), (q1, dqObj k1 []), (q3, dqObj k3 [])] → Q .brk { s with heap := h', toks := k' }) :
  wpAny (model PG w) ((Around.mk hh dp (some outer) gd un).deeper (rtEnv L)) (execs rtRest (rtEnv L)) Q E s := by
  obtain ⟨hn1, hn2, hn3, hn4, hn5, hn6, hn7, hn8, hn9⟩ := hnd
  show wpAny _ _ (execs (List.cons _ _) _) _ _ _
  dsimp only [rtEnv]
  rw [show rtScope = Scope.mk _ _ _ _ _ from rfl]
  (repeat' (first | (focus ((with_reducible show wpAny _ _ (PySem.call (Value.builtin "collections.deque.append") _ _) _ _ _); k_dflt (refine' dq_append ?F ?N ?U ?z ?_; (case F | N => k_asm); (case U => k_upd); (case z => (first | decide | (simp only [List.length_cons, List.length_nil]; omega) | omega)); k_whole); intro h' F' N'; (try dsimp only [List.nil_append, List.cons_append] at N'); (try k_sweep))) | (focus ((with_reducible show wpAny _ _ (getMethod (Value.ref _) _ _) _ _ _); k_dflt (refine' dq_getMethod ?N ?m dq_slot_append dq_type_append ?_; (case N => k_asm); (case m => k_mem); k_whole))) | walk_at "one step"))
  refine hQ _ _ ?a1 ?a2 ?a3 ?hF ?hN; (case hF => assumption); (case hN => first | assumption | exact news_sub (by assumption) (fun _ h => .tail _ h) | exact news_sub (by assumption) (fun _ h => .tail _ (.tail _ h))); all_goals exact (0 : Nat)
end
end Mine
end
-- part Rd
section
namespace Mine
section
variable {w : World} {hh : Option Value} {dp un : Nat} {gd : Option (List Code)} {A₀ : Around} {base h₀ : Heap} {L L₀ : Addr} {m : Str → Option Value} {s : Shared} {p : Program} {loose : List Str} {mean : ExcName → Option Value} {mg mb : Str → Option Value} {env : Env} {outer : List Env} {Q E : Value → Shared → Prop}
variable {x d b e q1 q3 : Addr} {ox od o1 o3 : Obj} {u1 u2 u3 u4 u5 u6 tk : Tok} {pos : Nat} {page : Str}
theorem read_ct {c : Nat} (hnd : @Ne Nat x e ∧ @Ne Nat d e ∧ @Ne Nat b e ∧ @Ne Nat q1 e ∧ @Ne Nat q3 e)
  (B : Below A₀ base outer h₀) (F : Fr h₀ L s.heap m) (X : (Mine.KK w.params).In h₀)
  (N : News h₀ L s.heap [(x, ox), (d, od), (b, instObj 621 e), (e, sioD w u1 u2 u3 (.str "\n" u4) (.str page u5) (.int pos u6)), (q1, o1), (q3, o3)])
  (T : Top p loose mean mg mb h₀) (hf : env.frame = some L) (hke : env.scope.kind = .function) (hd : dp + 8 < 1000) (hc : page.cps.toList[pos]? = some c) (hpos : pos < page.length) (hsz : page.length ≤ 1048576)
  (hQ : ∀ h' k' a1 a2 (i : Int), i = (pos : Int) + 1 → Fr h₀ L h' m → News h₀ L h' [(x, ox), (d, od), (b, instObj 621 e), (e, sioD w u1 u2 u3 (.str "\n" u4) (.str page u5) (.int i a2)), (q1, o1), (q3, o3)] → Q (.str (tx [c]) a1) { s with heap := h', toks := k' }) :
  wpAny (model PG w) (Around.mk hh dp (some (env :: outer)) gd un) (call (.ref 567) [.ref b, .int 1 tk]) Q E s := by
  obtain ⟨hn1, hn2, hn3, hn4, hn5⟩ := hnd
  k_steps
  all_goals rw [read_one hc (by omega) (by omega)]
  all_goals (refine' hQ _ _ _ _ _ ?hi ?hF ?hN; (case hF => assumption); (case hN => assumption); (case hi => omega))
theorem read_end (hnd : @Ne Nat x e ∧ @Ne Nat d e ∧ @Ne Nat b e ∧ @Ne Nat q1 e ∧ @Ne Nat q3 e)
  (B : Below A₀ base outer h₀) (F : Fr h₀ L s.heap m) (X : (Mine.KK w.params).In h₀)
  (N : News h₀ L s.heap [(x, ox), (d, od), (b, instObj 621 e), (e, sioD w u1 u2 u3 (.str "\n" u4) (.str page u5) (.int pos u6)), (q1, o1), (q3, o3)])
  (T : Top p loose mean mg mb h₀) (hf : env.frame = some L) (hke : env.scope.kind = .function) (hd : dp + 8 < 1000) (hpos : page.length ≤ pos) (hp2 : pos ≤ 1048576) (hsz : page.length ≤ 1048576)
  (hQ : ∀ h' k' a1, Fr h₀ L h' m → News h₀ L h' [(x, ox), (d, od), (b, instObj 621 e), (e, sioD w u1 u2 u3 (.str "\n" u4) (.str page u5) (.int pos u6)), (q1, o1), (q3, o3)] → Q (.str "" a1) { s with heap := h', toks := k' }) :
  wpAny (model PG w) (Around.mk hh dp (some (env :: outer)) gd un) (call (.ref 567) [.ref b, .int 1 tk]) Q E s := by
  obtain ⟨hn1, hn2, hn3, hn4, hn5⟩ := hnd
  k_steps
  all_goals (refine hQ _ _ _ (by assumption) ?hN; (case hN => assumption))
end
end Mine
end
-- part Pf
section
namespace Mine
section
variable {w : World} {hh : Option Value} {dp un : Nat} {gd : Option (List Code)} {base g : Heap} {L : Addr} {s : Shared} {p : Program} {loose : List Str} {mean : ExcName → Option Value} {mg mb : Str → Option Value} {outer : List Env} {Q : Flow → Shared → Prop} {E : Value → Shared → Prop}
variable {x d b e q1 q2 q3 : Addr} {tt : Nat → Tok} {te tc u1 u2 u3 u4 u5 u6 : Tok} {k1 k3 : Int} {pos : Nat} {page : Str} {qd : Bool} {st lnv tokv : Value} {ov : Option Value}
theorem pf_pb {c : Str} (hnd : @Ne Nat x d ∧ @Ne Nat b d ∧ @Ne Nat e d ∧ @Ne Nat q1 d ∧ @Ne Nat q3 d ∧ @Ne Nat x q3 ∧ @Ne Nat b q3 ∧ @Ne Nat e q3 ∧ @Ne Nat q1 q3)
  (B : Below (Around.mk hh dp (some outer) gd un) base outer g) (F : Fr g L s.heap (rtLoc x qd te ov)) (X : (Mine.KK w.params).In g)
  (N : News g L s.heap [(x, instObj 756 d), (d, lexD w tt b q1 q2 q3 st lnv tokv), (b, instObj 621 e), (e, sioD w u1 u2 u3 (.str "\n" u4) (.str page u5) (.int pos u6)), (q1, dqObj k1 []), (q3, dqObj k3 [.str c tc])])
  (T : Top p loose mean mg mb g) (hd : dp + 10 < 1000)
  (hQ : ∀ h' k', Fr g L h' (rtLoc x qd te (some (.str c tc))) → News g L h' [(x, instObj 756 d), (d, lexD w tt b q1 q2 q3 st lnv tokv), (b, instObj 621 e), (e, sioD w u1 u2 u3 (.str "\n" u4) (.str page u5) (.int pos u6)), (q1, dqObj k1 []), (q3, dqObj (k3 + 1) [])] →
    wpAny (model PG w) ((Around.mk hh dp (some outer) gd un).deeper (rtEnv L)) (execs rtRest (rtEnv L)) Q E { s with heap := h', toks := k' }) :
  wpAny (model PG w) ((Around.mk hh dp (some outer) gd un).deeper (rtEnv L)) (execs rtBody (rtEnv L)) Q E s := by
  obtain ⟨hn1, hn2, hn3, hn4, hn5, hn6, hn7, hn8, hn9⟩ := hnd
  show wpAny _ _ (execs (List.cons _ _) _) _ _ _
  dsimp only [rtEnv]
  rw [show rtScope = Scope.mk _ _ _ _ _ from rfl]
  repeat' (first | ((with_reducible show wpAny _ _ (execs _ _) _ _ _); refine hQ _ _ (Fr.as (by assumption) (rtLoc_next _ _ _ _ _)) ?hN; (case hN => assumption); done) | (first | (focus ((with_reducible show wpAny _ _ (PySem.call (Value.ref _) _ _) _ _ _); k_dflt (first | (refine' read_ct ?nd ?B ?F ?X ?N ?T ?hf ?hke ?hd ?hc ?hpos ?hsz ?_; (case nd => assumption); (case B | F | X | N | T => k_asm); (case hf | hke => exact rfl); (case hd => walk_at "depth is"); (case hc | hpos | hsz => assumption); k_whole; intro h' k' a1' a2' i' hi' F' N') | (refine' read_end ?nd ?B ?F ?X ?N ?T ?hf ?hke ?hd ?hpos ?hp2 ?hsz ?_; (case nd => assumption); (case B | F | X | N | T => k_asm); (case hf | hke => exact rfl); (case hd => walk_at "depth is"); (case hpos | hp2 | hsz => assumption); k_whole; intro h' k' a1' F' N')))) | (focus ((with_reducible show wpAny _ _ (PySem.truthy (Value.ref _)) _ _ _); k_dflt (first | (refine' dq_truthy_nil ?N ?m ?_; (case N => k_asm); (case m => k_mem); k_whole) | (refine' dq_truthy_cons ?N ?m ?z ?_; (case N => k_asm); (case m => k_mem); (case z => (first | decide | (simp only [List.length_cons, List.length_nil]; omega) | omega)); k_whole)))) | (focus ((with_reducible show wpAny _ _ (PySem.call (Value.builtin "collections.deque.pop") _ _) _ _ _); k_dflt (refine' dq_pop (xs := []) ?F ?N ?U ?z ?_; (case F | N => k_asm); (case U => k_upd); (case z => (first | decide | (simp only [List.length_cons, List.length_nil]; omega) | omega)); k_whole); intro h' F' N'; (try k_sweep))) | (focus ((with_reducible show wpAny _ _ (getMethod (Value.ref _) _ _) _ _ _); k_dflt (refine' dq_getMethod ?N ?m dq_slot_pop dq_type_pop ?_; (case N => k_asm); (case m => k_mem); k_whole))) | walk_at "one step"))
theorem pf_rd {c : Nat} (hnd : @Ne Nat x e ∧ @Ne Nat d e ∧ @Ne Nat b e ∧ @Ne Nat q1 e ∧ @Ne Nat q3 e)
  (B : Below (Around.mk hh dp (some outer) gd un) base outer g) (F : Fr g L s.heap (rtLoc x qd te ov)) (X : (Mine.KK w.params).In g)
  (N : News g L s.heap [(x, instObj 756 d), (d, lexD w tt b q1 q2 q3 st lnv tokv), (b, instObj 621 e), (e, sioD w u1 u2 u3 (.str "\n" u4) (.str page u5) (.int pos u6)), (q1, dqObj k1 []), (q3, dqObj k3 [])])
  (T : Top p loose mean mg mb g) (hd : dp + 10 < 1000) (hc : page.cps.toList[pos]? = some c) (hpos : pos < page.length) (hsz : page.length ≤ 1048576)
  (hQ : ∀ h' k' a1 a2 (i : Int), i = (pos : Int) + 1 → Fr g L h' (rtLoc x qd te (some (.str (tx [c]) a1))) → News g L h' [(x, instObj 756 d), (d, lexD w tt b q1 q2 q3 st lnv tokv), (b, instObj 621 e), (e, sioD w u1 u2 u3 (.str "\n" u4) (.str page u5) (.int i a2)), (q1, dqObj k1 []), (q3, dqObj k3 [])] →
    wpAny (model PG w) ((Around.mk hh dp (some outer) gd un).deeper (rtEnv L)) (execs rtRest (rtEnv L)) Q E { s with heap := h', toks := k' }) :
  wpAny (model PG w) ((Around.mk hh dp (some outer) gd un).deeper (rtEnv L)) (execs rtBody (rtEnv L)) Q E s := by
  show wpAny _ _ (execs (List.cons _ _) _) _ _ _
  dsimp only [rtEnv]
  rw [show rtScope = Scope.mk _ _ _ _ _ from rfl]
  repeat' (first | ((with_reducible show wpAny _ _ (execs _ _) _ _ _); refine' hQ _ _ _ _ _ ?hi (Fr.as ?hF (rtLoc_next _ _ _ _ _)) ?hN; (case hF => assumption); (case hN => assumption); (case hi => assumption); done) | (first | (focus ((with_reducible show wpAny _ _ (PySem.call (Value.ref _) _ _) _ _ _); k_dflt (first | (refine' read_ct ?nd ?B ?F ?X ?N ?T ?hf ?hke ?hd ?hc ?hpos ?hsz ?_; (case nd => assumption); (case B | F | X | N | T => k_asm); (case hf | hke => exact rfl); (case hd => walk_at "depth is"); (case hc | hpos | hsz => assumption); k_whole; intro h' k' a1' a2' i' hi' F' N') | (refine' read_end ?nd ?B ?F ?X ?N ?T ?hf ?hke ?hd ?hpos ?hp2 ?hsz ?_; (case nd => assumption); (case B | F | X | N | T => k_asm); (case hf | hke => exact rfl); (case hd => walk_at "depth is"); (case hpos | hp2 | hsz => assumption); k_whole; intro h' k' a1' F' N')))) | (focus ((with_reducible show wpAny _ _ (PySem.truthy (Value.ref _)) _ _ _); k_dflt (first | (refine' dq_truthy_nil ?N ?m ?_; (case N => k_asm); (case m => k_mem); k_whole) | (refine' dq_truthy_cons ?N ?m ?z ?_; (case N => k_asm); (case m => k_mem); (case z => (first | decide | (simp only [List.length_cons, List.length_nil]; omega) | omega)); k_whole)))) | (focus ((with_reducible show wpAny _ _ (PySem.call (Value.builtin "collections.deque.pop") _ _) _ _ _); k_dflt (refine' dq_pop (xs := []) ?F ?N ?U ?z ?_; (case F | N => k_asm); (case U => k_upd); (case z => (first | decide | (simp only [List.length_cons, List.length_nil]; omega) | omega)); k_whole); intro h' F' N'; (try k_sweep))) | (focus ((with_reducible show wpAny _ _ (getMethod (Value.ref _) _ _) _ _ _); k_dflt (refine' dq_getMethod ?N ?m dq_slot_pop dq_type_pop ?_; (case N => k_asm); (case m => k_mem); k_whole))) | walk_at "one step"))
theorem pf_end (hnd : @Ne Nat x e ∧ @Ne Nat d e ∧ @Ne Nat b e ∧ @Ne Nat q1 e ∧ @Ne Nat q3 e)
  (B : Below (Around.mk hh dp (some outer) gd un) base outer g) (F : Fr g L s.heap (rtLoc x qd te ov)) (X : (Mine.KK w.params).In g)
  (N : News g L s.heap [(x, instObj 756 d), (d, lexD w tt b q1 q2 q3 st lnv tokv), (b, instObj 621 e), (e, sioD w u1 u2 u3 (.str "\n" u4) (.str page u5) (.int pos u6)), (q1, dqObj k1 []), (q3, dqObj k3 [])])
  (T : Top p loose mean mg mb g) (hd : dp + 10 < 1000) (hpos : page.length ≤ pos) (hp2 : pos ≤ 1048576) (hsz : page.length ≤ 1048576)
  (hQ : ∀ h' k' a1, Fr g L h' (rtLoc x qd te (some (.str "" a1))) → News g L h' [(x, instObj 756 d), (d, lexD w tt b q1 q2 q3 st lnv tokv), (b, instObj 621 e), (e, sioD w u1 u2 u3 (.str "\n" u4) (.str page u5) (.int pos u6)), (q1, dqObj k1 []), (q3, dqObj k3 [])] →
    wpAny (model PG w) ((Around.mk hh dp (some outer) gd un).deeper (rtEnv L)) (execs rtRest (rtEnv L)) Q E { s with heap := h', toks := k' }) :
  wpAny (model PG w) ((Around.mk hh dp (some outer) gd un).deeper (rtEnv L)) (execs rtBody (rtEnv L)) Q E s := by
  show wpAny _ _ (execs (List.cons _ _) _) _ _ _
  dsimp only [rtEnv]
  rw [show rtScope = Scope.mk _ _ _ _ _ from rfl]
  repeat' (first | ((with_reducible show wpAny _ _ (execs _ _) _ _ _); refine' hQ _ _ _ (Fr.as ?hF (rtLoc_next _ _ _ _ _)) ?hN; (case hF => assumption); (case hN => assumption); done) | (first | (focus ((with_reducible show wpAny _ _ (PySem.call (Value.ref _) _ _) _ _ _); k_dflt (first | (refine' read_ct ?nd ?B ?F ?X ?N ?T ?hf ?hke ?hd ?hc ?hpos ?hsz ?_; (case nd => assumption); (case B | F | X | N | T => k_asm); (case hf | hke => exact rfl); (case hd => walk_at "depth is"); (case hc | hpos | hsz => assumption); k_whole; intro h' k' a1' a2' i' hi' F' N') | (refine' read_end ?nd ?B ?F ?X ?N ?T ?hf ?hke ?hd ?hpos ?hp2 ?hsz ?_; (case nd => assumption); (case B | F | X | N | T => k_asm); (case hf | hke => exact rfl); (case hd => walk_at "depth is"); (case hpos | hp2 | hsz => assumption); k_whole; intro h' k' a1' F' N')))) | (focus ((with_reducible show wpAny _ _ (PySem.truthy (Value.ref _)) _ _ _); k_dflt (first | (refine' dq_truthy_nil ?N ?m ?_; (case N => k_asm); (case m => k_mem); k_whole) | (refine' dq_truthy_cons ?N ?m ?z ?_; (case N => k_asm); (case m => k_mem); (case z => (first | decide | (simp only [List.length_cons, List.length_nil]; omega) | omega)); k_whole)))) | (focus ((with_reducible show wpAny _ _ (PySem.call (Value.builtin "collections.deque.pop") _ _) _ _ _); k_dflt (refine' dq_pop (xs := []) ?F ?N ?U ?z ?_; (case F | N => k_asm); (case U => k_upd); (case z => (first | decide | (simp only [List.length_cons, List.length_nil]; omega) | omega)); k_whole); intro h' F' N'; (try k_sweep))) | (focus ((with_reducible show wpAny _ _ (getMethod (Value.ref _) _ _) _ _ _); k_dflt (refine' dq_getMethod ?N ?m dq_slot_pop dq_type_pop ?_; (case N => k_asm); (case m => k_mem); k_whole))) | walk_at "one step"))
end
end Mine
end
-- part Loop
section
namespace Mine
noncomputable def wordL : List Nat := [97,98,99,100,102,101,103,104,105,106,107,108,109,110,111,112,113,114,115,116,117,118,119,120,121,122,65,66,67,68,69,70,71,72,73,74,75,76,77,78,79,80,81,82,83,84,85,86,87,88,89,90,48,49,50,51,52,53,54,55,56,57,95,126,45,46,42,63]
noncomputable def punL : List Nat := [60, 62, 47, 61]
theorem word_is : (Str.ofString "abcdfeghijklmnopqrstuvwxyzABCDEFGHIJKLMNOPQRSTUVWXYZ0123456789_~-.*?").cps.toList = wordL := by decide +kernel
theorem pun_is : (Str.ofString "<>/=").cps.toList = punL := by decide +kernel
theorem ws_is : (Str.ofString " \t\r\n").cps.toList = [32, 9, 13, 10] := by decide +kernel
theorem cm_is : (Str.ofString "#").cps.toList = [35] := by decide +kernel
theorem qu_is : (Str.ofString "'\"").cps.toList = [39, 34] := by decide +kernel
theorem nl1 : Str.ofString "\n" = tx [10] := by decide +kernel
theorem em1 : Str.ofString "" = tx [] := by decide +kernel
theorem isin_one (x : Str) (c : Nat) : isin x (tx [c]) = decide (c ∈ x.cps.toList) := StrLaws.found_one x c
theorem beq_one (c k : Nat) : (tx [c] == tx [k]) = decide (c = k) := by
  by_cases h : c = k
  · subst h; simp
  · rw [decide_eq_false h, beq_eq_false_iff_ne]
    intro e
    have : [c] = [k] := by
      have := congrArg (fun s : Str => s.cps.toList) e
      simpa using this
    exact h (List.cons.inj this).1
theorem one_len (c : Nat) : (((tx [c]).length : Nat) : Int) = 1 := rfl
inductive Md where
  | sp | wd | pn
  | qt (q : Nat)
  | nn
  deriving DecidableEq
set_option genInjectivity false in
structure LexOut where
  tok : List Nat
  pb : Option Nat
  rest : List Nat
  ln : Int
  fin : Bool
noncomputable def lex : Md → List Nat → List Nat → Int → Option LexOut
  | .nn, _, [], ln => some ⟨[], none, [], ln, true⟩
  | .nn, _, _ :: _, _ => none
  | .sp, _, [], ln => some ⟨[], none, [], ln, true⟩
  | .sp, _, c :: l, ln =>
    if c = 10 then lex .sp [] l (ln + 1)
    else if c = 32 then lex .sp [] l ln
    else if c ∈ wordL then lex .wd [c] l ln
    else if c ∈ punL then lex .pn [c] l ln
    else if c = 34 ∨ c = 39 then lex (.qt c) [c] l ln
    else none
  | .wd, _, [], _ => none
  | .wd, t, c :: l, ln =>
    if c = 10 then some ⟨t, none, l, ln + 1, false⟩
    else if c = 32 then some ⟨t, none, l, ln, false⟩
    else if c ∈ wordL then lex .wd (t ++ [c]) l ln
    else if c ∈ punL then some ⟨t, some c, l, ln, false⟩
    else none
  | .pn, t, [], ln => some ⟨t, none, [], ln, true⟩
  | .pn, t, c :: l, ln =>
    if c = 10 then some ⟨t, none, l, ln + 1, false⟩
    else if c ∈ punL then lex .pn (t ++ [c]) l ln
    else if c ∈ wordL ∨ c = 34 ∨ c = 39 then some ⟨t, some c, l, ln, false⟩
    else none
  | .qt _, _, [], _ => none
  | .qt q, t, c :: l, ln =>
    if c = 10 then none
    else if c = q then some ⟨t ++ [c], none, l, ln, false⟩
    else lex (.qt q) (t ++ [c]) l ln
theorem word_not {c : Nat} (h : c ∈ wordL) : c ≠ 10 ∧ c ≠ 32 ∧ c ∉ [32, 9, 13, 10] ∧ c ∉ [35] ∧ c ∉ punL ∧ c ∉ [39, 34] := by
  have : ∀ c ∈ wordL, c ≠ 10 ∧ c ≠ 32 ∧ c ∉ [32, 9, 13, 10] ∧ c ∉ [35] ∧ c ∉ punL ∧ c ∉ [39, 34] := by decide
  exact this c h
theorem pun_not {c : Nat} (h : c ∈ punL) : c ≠ 10 ∧ c ≠ 32 ∧ c ∉ [32, 9, 13, 10] ∧ c ∉ [35] ∧ c ∉ wordL ∧ c ∉ [39, 34] := by
  have : ∀ c ∈ punL, c ≠ 10 ∧ c ≠ 32 ∧ c ∉ [32, 9, 13, 10] ∧ c ∉ [35] ∧ c ∉ wordL ∧ c ∉ [39, 34] := by decide
  exact this c h
theorem quo_not {c : Nat} (h : c = 34 ∨ c = 39) : c ≠ 10 ∧ c ≠ 32 ∧ c ∉ [32, 9, 13, 10] ∧ c ∉ [35] ∧ c ∉ wordL ∧ c ∉ punL ∧ c ∈ [39, 34] := by
  rcases h with rfl | rfl <;> decide
set_option genInjectivity false in
structure LA where
  (x d b e q1 q2 q3 : Addr)
  tt : Nat → Tok
  (u1 u2 u3 u4 u5 : Tok)
  page : Str
structure LA.Nd (a : LA) : Prop where
  xd : @Ne Nat a.x a.d
  bd : @Ne Nat a.b a.d
  ed : @Ne Nat a.e a.d
  q1d : @Ne Nat a.q1 a.d
  q2d : @Ne Nat a.q2 a.d
  q3d : @Ne Nat a.q3 a.d
  xe : @Ne Nat a.x a.e
  be : @Ne Nat a.b a.e
  q1e : @Ne Nat a.q1 a.e
  q2e : @Ne Nat a.q2 a.e
  q3e : @Ne Nat a.q3 a.e
  xq3 : @Ne Nat a.x a.q3
  bq3 : @Ne Nat a.b a.q3
  q1q3 : @Ne Nat a.q1 a.q3
  q2q3 : @Ne Nat a.q2 a.q3
  xq1 : @Ne Nat a.x a.q1
  bq1 : @Ne Nat a.b a.q1
  q2q1 : @Ne Nat a.q2 a.q1
noncomputable abbrev LA.led (a : LA) (w : World) (st ln tok : Value) (pos : Int) (u6 : Tok) (k1 k3 : Int) (back pbk : List Value) : List (Addr × Obj) :=
  [(a.x, instObj 756 a.d), (a.d, lexD w a.tt a.b a.q1 a.q2 a.q3 st ln tok), (a.b, instObj 621 a.e), (a.e, sioD w a.u1 a.u2 a.u3 (.str "\n" a.u4) (.str a.page a.u5) (.int pos u6)), (a.q1, dqObj k1 back), (a.q3, dqObj k3 pbk)]
inductive Inp (page : Str) : Option Nat → Nat → List Nat → Prop
  | rd {pos : Nat} {l : List Nat} : pos ≤ page.length → page.cps.toList.drop pos = l → Inp page none pos l
  | pb {pos : Nat} {l : List Nat} {c : Nat} : pos ≤ page.length → page.cps.toList.drop pos = l → Inp page (some c) pos (c :: l)
noncomputable def pbv (tc : Tok) : Option Nat → List Value
  | none => []
  | some c => [.str (tx [c]) tc]
noncomputable def mdV (ts : Tok) : Md → Value
  | .sp => .str " " ts
  | .wd => .str "a" ts
  | .pn => .str "c" ts
  | .qt q => .str (tx [q]) ts
  | .nn => .none
section
variable {w : World} {hh : Option Value} {dp un : Nat} {gd : Option (List Code)} {base g : Heap} {L : Addr} {s : Shared} {p : Program} {loose : List Str} {mean : ExcName → Option Value} {mg mb : Str → Option Value} {outer : List Env} {Q : Flow → Shared → Prop} {E : Value → Shared → Prop}
variable {a : LA} {k1 : Int} {te : Tok}
theorem rt_test {A : Around} {env : Env} {Q : Bool → Shared → Prop} (h : Q true s) : wpAny (model PG w) A (isTrue rtTest env (eval rtTest env)) Q E s := by
  show wpAny _ _ (isTrue (PySem.Expr.Constant _ _ _) _ (eval (PySem.Expr.Constant _ _ _) _)) _ _ _
  repeat' walk1
  exact h
theorem nx {c : Nat} {l : List Nat} {pb : Option Nat} {pos : Nat} {qd : Bool} {st lnv tokv : Value} {ov : Option Value} {k3 : Int} {tc u6 : Tok} (nd : a.Nd) (B : Below (Around.mk hh dp (some outer) gd un) base outer g) (X : (Mine.KK w.params).In g) (T : Top p loose mean mg mb g) (hd : dp + 10 < 1000) (hsz : a.page.length ≤ 1048576)
  (I : Inp a.page pb pos (c :: l)) (F : Fr g L s.heap (rtLoc a.x qd te ov)) (N : News g L s.heap (a.led w st lnv tokv pos u6 k1 k3 [] (pbv tc pb)))
  (hQ : ∀ h' k' tc' (pos' : Nat) u6' k3', Inp a.page none pos' l → Fr g L h' (rtLoc a.x qd te (some (.str (tx [c]) tc'))) → News g L h' (a.led w st lnv tokv pos' u6' k1 k3' [] []) →
    wpAny (model PG w) ((Around.mk hh dp (some outer) gd un).deeper (rtEnv L)) (execs rtRest (rtEnv L)) Q E { s with heap := h', toks := k' }) :
  wpAny (model PG w) ((Around.mk hh dp (some outer) gd un).deeper (rtEnv L)) (execs rtBody (rtEnv L)) Q E s := by
  cases I with
  | rd hp hl =>
    have hlt : pos < a.page.length := by
      rcases Nat.lt_or_ge pos a.page.length with h | h
      · exact h
      · rw [List.drop_eq_nil_of_le (by rw [Array.length_toList]; exact h)] at hl; cases hl
    have hlt' : pos < a.page.cps.toList.length := by rw [Array.length_toList]; exact hlt
    rw [List.drop_eq_getElem_cons hlt'] at hl
    have hc : a.page.cps.toList[pos]? = some c := by rw [List.getElem?_eq_getElem hlt', (List.cons.inj hl).1]
    refine pf_rd ⟨nd.xe, nd.ed.symm, nd.be, nd.q1e, nd.q3e⟩ B F X N T hd hc hlt hsz fun h' k' a1 a2 i hi F' N' => ?_
    obtain rfl : i = ((pos + 1 : Nat) : Int) := by omega
    exact hQ h' k' a1 (pos + 1) a2 k3 (.rd hlt (List.cons.inj hl).2) F' N'
  | pb hp hl => exact pf_pb ⟨nd.xd, nd.bd, nd.ed, nd.q1d, nd.q3d, nd.xq3, nd.bq3, nd.q3e.symm, nd.q1q3⟩ B F X N T hd fun h' k' F' N' => hQ h' k' tc pos u6 (k3 + 1) (.rd hp hl) F' N'
theorem nx_end {pb : Option Nat} {pos : Nat} {qd : Bool} {st lnv tokv : Value} {ov : Option Value} {k3 : Int} {tc u6 : Tok} (nd : a.Nd) (B : Below (Around.mk hh dp (some outer) gd un) base outer g) (X : (Mine.KK w.params).In g) (T : Top p loose mean mg mb g) (hd : dp + 10 < 1000) (hsz : a.page.length ≤ 1048576)
  (I : Inp a.page pb pos []) (F : Fr g L s.heap (rtLoc a.x qd te ov)) (N : News g L s.heap (a.led w st lnv tokv pos u6 k1 k3 [] (pbv tc pb)))
  (hQ : ∀ h' k' tc', pb = none → Fr g L h' (rtLoc a.x qd te (some (.str "" tc'))) → News g L h' (a.led w st lnv tokv pos u6 k1 k3 [] []) →
    wpAny (model PG w) ((Around.mk hh dp (some outer) gd un).deeper (rtEnv L)) (execs rtRest (rtEnv L)) Q E { s with heap := h', toks := k' }) :
  wpAny (model PG w) ((Around.mk hh dp (some outer) gd un).deeper (rtEnv L)) (execs rtBody (rtEnv L)) Q E s := by
  cases I with
  | rd hp hl =>
    have hge : a.page.length ≤ pos := by
      have := congrArg List.length hl
      rw [List.length_drop, Array.length_toList, List.length_nil] at this
      show a.page.cps.size ≤ pos
      omega
    exact pf_end ⟨nd.xe, nd.ed.symm, nd.be, nd.q1e, nd.q3e⟩ B F X N T hd hge (by omega) hsz fun h' k' a1 F' N' => hQ h' k' a1 rfl F' N'
end
end Mine
end
-- part Loop2
section
namespace Mine
section
variable {w : World} {hh : Option Value} {dp un : Nat} {gd : Option (List Code)} {base g : Heap} {L : Addr} {s : Shared} {p : Program} {loose : List Str} {mean : ExcName → Option Value} {mg mb : Str → Option Value} {outer : List Env} {Q : Flow → Shared → Prop} {E : Value → Shared → Prop}
variable {a : LA} {k1 : Int} {te : Tok}
noncomputable abbrev RtAr (hh : Option Value) (dp un : Nat) (gd : Option (List Code)) (outer : List Env) (L : Addr) : Around := (Around.mk hh dp (some outer) gd un).deeper (rtEnv L)
noncomputable def LoopEnd (a : LA) (w : World) (te : Tok) (k1 : Int) (g : Heap) (L : Addr) (Q : Flow → Shared → Prop) (s : Shared) (o : LexOut) : Prop :=
  ∀ h' k' (ts tl tk tc u6 : Tok) (pos : Nat) (k3 : Int) (qd : Bool) (ov : Option Value), Inp a.page o.pb pos (o.pb.toList ++ o.rest) → Fr g L h' (rtLoc a.x qd te ov) →
    News g L h' (a.led w (mdV ts (if o.fin then .nn else .sp)) (.int o.ln tl) (.str (tx o.tok) tk) pos u6 k1 k3 [] (pbv tc o.pb)) → Q .next { s with heap := h', toks := k' }
theorem loop_turn (hE : PassesOwn (model PG w) (RtAr hh dp un gd outer L) (rtEnv L) E)
    (h : wpAny (model PG w) (RtAr hh dp un gd outer L) (execs rtBody (rtEnv L)) (WhlPost PG w (RtAr hh dp un gd outer L) E (rtEnv L) rtTest rtBody [] Q 0) E s) :
    WhlRest PG w (RtAr hh dp un gd outer L) E (rtEnv L) rtTest rtBody [] Q 0 s :=
  whl_turn (k := 0) hE (rt_test (WhlIf.yes rfl h))
theorem rt_loop (hE : PassesOwn (model PG w) (RtAr hh dp un gd outer L) (rtEnv L) E) (nd : a.Nd) (B : Below (Around.mk hh dp (some outer) gd un) base outer g) (X : (Mine.KK w.params).In g) (T : Top p loose mean mg mb g) (hd : dp + 10 < 1000) (hsz : a.page.length ≤ 1048576) :
    ∀ (l : List Nat) (md : Md) (t : List Nat) (ln : Int) (o : LexOut), lex md t l ln = some o → (md = .sp → t = []) → (md = .nn → t = []) → (md = .wd ∨ md = .pn → t ≠ []) → (∀ q, md = .qt q → q = 34 ∨ q = 39) → t.length + l.length ≤ 3000000 →
    ∀ (s : Shared) (ts tl tk tc u6 : Tok) (pos : Nat) (k3 : Int) (qd : Bool) (ov : Option Value) (pb : Option Nat), ((∀ q, md ≠ .qt q) → qd = false) → Inp a.page pb pos l → Fr g L s.heap (rtLoc a.x qd te ov) →
    News g L s.heap (a.led w (mdV ts md) (.int ln tl) (.str (tx t) tk) pos u6 k1 k3 [] (pbv tc pb)) → LoopEnd a w te k1 g L Q s o → WhlRest PG w (RtAr hh dp un gd outer L) E (rtEnv L) rtTest rtBody [] Q 0 s := by
  intro l
  induction l with
  | nil =>
    intro md t ln o hl ht1 ht2 ht3 hq hlen s ts tl tk tc u6 pos k3 qd ov pb hqd I F N K
    refine loop_turn hE (nx_end nd B X T hd hsz I F N fun h' k' tc' hpb F' N' => ?_)
    subst hpb
    cases md with
    | sp =>
      obtain rfl := ht1 rfl
      obtain rfl := hqd (fun _ e => nomatch e)
      rw [lex] at hl; obtain rfl := (Option.some.inj hl).symm
      refine tn_sp_eof ⟨nd.xd, nd.bd, nd.ed, nd.q1d, nd.q3d, nd.xq3, nd.bq3, nd.q3e.symm, nd.q1q3⟩ B F' X (tk := tk) (ts := ts) (by rw [em1]; exact N') T hd fun h'' k'' a1 a2 a3 F'' N'' => ?_
      exact K h'' k'' ts tl tk tc u6 pos k3 false _ I F'' (by rw [em1] at N''; exact N'')
    | wd => cases hl
    | pn =>
      obtain rfl := hqd (fun _ e => nomatch e)
      rw [lex] at hl; obtain rfl := (Option.some.inj hl).symm
      refine tn_pn_eof ⟨nd.xd, nd.bd, nd.ed, nd.q1d, nd.q3d, nd.xq3, nd.bq3, nd.q3e.symm, nd.q1q3⟩ B F' X (tk := tk) (ts := ts) N' T hd (by rw [tx_len]; simp only [List.length_nil] at hlen; omega) fun h'' k'' a1 a2 a3 F'' N'' => ?_
      exact K h'' k'' ts tl tk tc u6 pos k3 false _ I F'' N''
    | qt q => cases hl
    | nn =>
      obtain rfl := ht2 rfl
      obtain rfl := hqd (fun _ e => nomatch e)
      rw [lex] at hl; obtain rfl := (Option.some.inj hl).symm
      refine tn_no_eof ⟨nd.xd, nd.bd, nd.ed, nd.q1d, nd.q3d, nd.xq3, nd.bq3, nd.q3e.symm, nd.q1q3⟩ B F' X (tk := tk) (by rw [em1]; exact N') T hd fun h'' k'' a1 a2 a3 F'' N'' => ?_
      exact K h'' k'' ts tl a3 tc u6 pos k3 false _ I F'' (by rw [em1] at N''; exact N'')
  | cons c l ih =>
    intro md t ln o hl ht1 ht2 ht3 hq hlen s ts tl tk tc u6 pos k3 qd ov pb hqd I F N K
    refine loop_turn hE (nx nd B X T hd hsz I F N fun h' k' tc' pos' u6' k3' I' F' N' => ?_)
    have ND : @Ne Nat a.x a.d ∧ @Ne Nat a.b a.d ∧ @Ne Nat a.e a.d ∧ @Ne Nat a.q1 a.d ∧ @Ne Nat a.q3 a.d ∧ @Ne Nat a.x a.q3 ∧ @Ne Nat a.b a.q3 ∧ @Ne Nat a.e a.q3 ∧ @Ne Nat a.q1 a.q3 := ⟨nd.xd, nd.bd, nd.ed, nd.q1d, nd.q3d, nd.xq3, nd.bq3, nd.q3e.symm, nd.q1q3⟩
    have hc1 : (((tx [c]).length : Nat) : Int) != 0 := rfl
    have hc2 : (tx [c]).length ≤ 16777216 := by rw [tx_len, List.length_singleton]; decide
    rw [List.length_cons] at hlen
    cases md with
    | sp =>
      obtain rfl := ht1 rfl
      obtain rfl := hqd (fun _ e => nomatch e)
      rw [lex] at hl
      split at hl
      · next e =>
        subst e
        rw [← nl1] at F'
        refine tn_sp_nl ND B F' X (tk := tk) (ts := ts) (by rw [em1]; exact N') T hd fun h'' k'' a1 a2 a3 F'' N'' => ?_
        rw [em1] at N''
        exact ih .sp [] _ o hl (fun _ => rfl) (fun e => nomatch e) (fun e => by rcases e with e | e <;> cases e) (fun _ e => nomatch e) (by simp only [List.length_nil] at hlen ⊢; omega) _ ts a2 tk tc u6' pos' k3' false _ none (fun _ => rfl) I' F'' N'' K
      split at hl
      · next e1 e =>
        subst e
        rw [← sp1] at F'
        refine tn_sp_blank ND B F' X (tk := tk) (ts := ts) (by rw [em1]; exact N') T hd fun h'' k'' a1 a2 a3 F'' N'' => ?_
        rw [em1] at N''
        exact ih .sp [] _ o hl (fun _ => rfl) (fun e => nomatch e) (fun e => by rcases e with e | e <;> cases e) (fun _ e => nomatch e) (by simp only [List.length_nil] at hlen ⊢; omega) _ ts tl tk tc u6' pos' k3' false _ none (fun _ => rfl) I' F'' N'' K
      split at hl
      · next e1 e2 e =>
        obtain ⟨n1, n2, n3, n4, n5, n6⟩ := word_not e
        refine tn_sp_word ND B F' X (tk := tk) (ts := ts) (by rw [em1]; exact N') T hd hc1 hc2 (by rw [nl1, beq_one]; exact decide_eq_false n1) (by rw [isin_one, ws_is]; exact decide_eq_false n3) (by rw [isin_one, cm_is]; exact decide_eq_false n4)
          (by rw [isin_one, word_is]; exact decide_eq_true e) fun h'' k'' a1 a2 a3 F'' N'' => ?_
        exact ih .wd [c] _ o hl (fun e => nomatch e) (fun e => nomatch e) (fun _ e => nomatch e) (fun _ e => nomatch e) (by simp only [List.length_nil, List.length_singleton] at hlen ⊢; omega) _ a1 tl tc' tc u6' pos' k3' false _ none (fun _ => rfl) I' F'' N'' K
      split at hl
      · next e1 e2 e3 e =>
        obtain ⟨n1, n2, n3, n4, n5, n6⟩ := pun_not e
        refine tn_sp_punct ND B F' X (tk := tk) (ts := ts) (by rw [em1]; exact N') T hd hc1 hc2 (by rw [nl1, beq_one]; exact decide_eq_false n1) (by rw [isin_one, ws_is]; exact decide_eq_false n3) (by rw [isin_one, cm_is]; exact decide_eq_false n4)
          (by rw [isin_one, word_is]; exact decide_eq_false n5) (by rw [isin_one, pun_is]; exact decide_eq_true e) fun h'' k'' a1 a2 a3 F'' N'' => ?_
        exact ih .pn [c] _ o hl (fun e => nomatch e) (fun e => nomatch e) (fun _ e => nomatch e) (fun _ e => nomatch e) (by simp only [List.length_nil, List.length_singleton] at hlen ⊢; omega) _ a1 tl tc' tc u6' pos' k3' false _ none (fun _ => rfl) I' F'' N'' K
      split at hl
      · next e1 e2 e3 e4 e =>
        obtain ⟨n1, n2, n3, n4, n5, n6, n7⟩ := quo_not e
        refine tn_sp_quote ND B F' X (tk := tk) (ts := ts) (by rw [em1]; exact N') T hd hc1 hc2 (by rw [nl1, beq_one]; exact decide_eq_false n1) (by rw [isin_one, ws_is]; exact decide_eq_false n3) (by rw [isin_one, cm_is]; exact decide_eq_false n4)
          (by rw [isin_one, word_is]; exact decide_eq_false n5) (by rw [isin_one, pun_is]; exact decide_eq_false n6) (by rw [isin_one, qu_is]; exact decide_eq_true n7) fun h'' k'' a1 a2 a3 F'' N'' => ?_
        exact ih (.qt c) [c] _ o hl (fun e => nomatch e) (fun e => nomatch e) (fun e => by rcases e with e | e <;> cases e) (fun q hq => by cases hq; exact e) (by simp only [List.length_nil, List.length_singleton] at hlen ⊢; omega) _ tc' tl tc' tc u6' pos' k3' false _ none (fun _ => rfl) I' F'' N'' K
      · cases hl
    | wd =>
      obtain rfl := hqd (fun _ e => nomatch e)
      have htn : (((tx t).length : Nat) : Int) != 0 := by
        rw [tx_len, bne_iff_ne]; have := ht3 (.inl rfl); cases t with | nil => exact absurd rfl this | cons => simp only [List.length_cons]; omega
      have htl : (tx t).length ≤ 10000000 := by rw [tx_len]; omega
      rw [lex] at hl
      split at hl
      · next e =>
        subst e
        obtain rfl := (Option.some.inj hl).symm
        rw [← nl1] at F'
        refine tn_wd_nl ND B F' X (ts := ts) N' T hd htl htn fun h'' k'' a1 a2 a3 F'' N'' => ?_
        exact K h'' k'' a1 a2 tk tc u6' pos' k3' false _ I' F'' N''
      split at hl
      · next e1 e =>
        subst e
        obtain rfl := (Option.some.inj hl).symm
        rw [← sp1] at F'
        refine tn_wd_blank ND B F' X (ts := ts) N' T hd htl htn fun h'' k'' a1 a2 a3 F'' N'' => ?_
        exact K h'' k'' a1 tl tk tc u6' pos' k3' false _ I' F'' N''
      split at hl
      · next e1 e2 e =>
        obtain ⟨n1, n2, n3, n4, n5, n6⟩ := word_not e
        refine tn_wd_word ND B F' X (ts := ts) N' T hd htl rfl hc1 hc2 (by rw [nl1, beq_one]; exact decide_eq_false n1) (by rw [isin_one, ws_is]; exact decide_eq_false n3) (by rw [isin_one, cm_is]; exact decide_eq_false n4)
          (by rw [isin_one, word_is]; exact decide_eq_true e) fun h'' k'' a1 a2 a3 F'' N'' => ?_
        rw [tx_app] at N''
        exact ih .wd (t ++ [c]) _ o hl (fun e => nomatch e) (fun e => nomatch e) (fun _ => by simp) (fun _ e => nomatch e) (by simp only [List.length_append, List.length_singleton] at hlen ⊢; omega) _ ts tl a3 tc u6' pos' k3' false _ none (fun _ => rfl) I' F'' N'' K
      split at hl
      · next e1 e2 e3 e =>
        obtain ⟨n1, n2, n3, n4, n5, n6⟩ := pun_not e
        obtain rfl := (Option.some.inj hl).symm
        refine tn_wd_punct ND B F' X (ts := ts) N' T hd htl htn rfl hc1 hc2 (by rw [nl1, beq_one]; exact decide_eq_false n1) (by rw [isin_one, ws_is]; exact decide_eq_false n3) (by rw [isin_one, cm_is]; exact decide_eq_false n4)
          (by rw [isin_one, word_is]; exact decide_eq_false n5) (by rw [isin_one, qu_is]; exact decide_eq_false n6) fun h'' k'' a1 a2 a3 F'' N'' => ?_
        refine K h'' k'' a1 tl tk tc' u6' pos' (k3' + 1) false _ ?_ F'' N''
        cases I' with | rd hp hl => exact .pb hp hl
      · cases hl
    | pn =>
      obtain rfl := hqd (fun _ e => nomatch e)
      have htn : (((tx t).length : Nat) : Int) != 0 := by
        rw [tx_len, bne_iff_ne]; have := ht3 (.inr rfl); cases t with | nil => exact absurd rfl this | cons => simp only [List.length_cons]; omega
      have htl : (tx t).length ≤ 10000000 := by rw [tx_len]; omega
      rw [lex] at hl
      split at hl
      · next e =>
        subst e
        obtain rfl := (Option.some.inj hl).symm
        rw [← nl1] at F'
        refine tn_pn_nl ND B F' X (ts := ts) N' T hd htl htn fun h'' k'' a1 a2 a3 F'' N'' => ?_
        exact K h'' k'' a1 a2 tk tc u6' pos' k3' false _ I' F'' N''
      split at hl
      · next e1 e =>
        obtain ⟨n1, n2, n3, n4, n5, n6⟩ := pun_not e
        refine tn_pn_punct ND B F' X (ts := ts) N' T hd htl rfl hc1 hc2 (by rw [nl1, beq_one]; exact decide_eq_false n1) (by rw [isin_one, ws_is]; exact decide_eq_false n3) (by rw [isin_one, cm_is]; exact decide_eq_false n4)
          (by rw [isin_one, pun_is]; exact decide_eq_true e) fun h'' k'' a1 a2 a3 F'' N'' => ?_
        rw [tx_app] at N''
        exact ih .pn (t ++ [c]) _ o hl (fun e => nomatch e) (fun e => nomatch e) (fun _ => by simp) (fun _ e => nomatch e) (by simp only [List.length_append, List.length_singleton] at hlen ⊢; omega) _ ts tl a3 tc u6' pos' k3' false _ none (fun _ => rfl) I' F'' N'' K
      split at hl
      · next e1 e2 e =>
        have n : c ≠ 10 ∧ c ∉ [32, 9, 13, 10] ∧ c ∉ [35] ∧ c ∉ punL := by
          rcases e with e | e
          · obtain ⟨n1, n2, n3, n4, n5, n6⟩ := word_not e; exact ⟨n1, n3, n4, n5⟩
          · obtain ⟨n1, n2, n3, n4, n5, n6, n7⟩ := quo_not e; exact ⟨n1, n3, n4, n6⟩
        obtain ⟨n1, n3, n4, n5⟩ := n
        obtain rfl := (Option.some.inj hl).symm
        refine tn_pn_other ND B F' X (ts := ts) N' T hd htl rfl hc1 hc2 (by rw [nl1, beq_one]; exact decide_eq_false n1) (by rw [isin_one, ws_is]; exact decide_eq_false n3) (by rw [isin_one, cm_is]; exact decide_eq_false n4)
          (by rw [isin_one, pun_is]; exact decide_eq_false n5) fun h'' k'' a1 a2 a3 F'' N'' => ?_
        refine K h'' k'' a1 tl tk tc' u6' pos' (k3' + 1) false _ ?_ F'' N''
        cases I' with | rd hp hl => exact .pb hp hl
      · cases hl
    | qt q =>
      have htl : (tx t).length ≤ 10000000 := by rw [tx_len]; omega
      have hq' := hq q rfl
      obtain ⟨m1, m2, m3, m4, m5, m6, m7⟩ := quo_not hq'
      rw [lex] at hl
      split at hl
      · cases hl
      split at hl
      · next e1 e =>
        subst e
        obtain rfl := (Option.some.inj hl).symm
        refine tn_qt_end ND B F' X (ts := ts) (q := tx [c]) N' T hd htl (by rw [sp1, beq_one]; exact decide_eq_false m2) (by rw [isin_one, qu_is]; exact decide_eq_true m7) (by rw [beq_one]; exact decide_eq_true rfl) rfl hc1 hc2 (by rw [nl1, beq_one]; exact decide_eq_false m1) fun h'' k'' a1 a2 a3 F'' N'' => ?_
        rw [tx_app] at N''
        exact K h'' k'' a1 tl a3 tc u6' pos' k3' true _ I' F'' N''
      · next e1 e =>
        refine tn_qt_char ND B F' X (ts := ts) (q := tx [q]) N' T hd htl (by rw [sp1, beq_one]; exact decide_eq_false m2) (by rw [isin_one, qu_is]; exact decide_eq_true m7) (by rw [beq_one]; exact decide_eq_false e) rfl hc1 hc2 (by rw [nl1, beq_one]; exact decide_eq_false e1) fun h'' k'' a1 a2 a3 F'' N'' => ?_
        rw [tx_app] at N''
        exact ih (.qt q) (t ++ [c]) _ o hl (fun e => nomatch e) (fun e => nomatch e) (fun _ => by simp) (fun q' e => by cases e; exact hq') (by simp only [List.length_append, List.length_singleton] at hlen ⊢; omega) _ ts tl a3 tc u6' pos' k3' true _ none (fun h => absurd rfl (h q)) I' F'' N'' K
    | nn => cases hl
end
end Mine
end
-- part Rtk
section
namespace Mine
section
variable {w : World} {hh : Option Value} {dp un : Nat} {gd : Option (List Code)} {A₀ : Around} {base h₀ : Heap} {L : Addr} {m : Str → Option Value} {s : Shared} {p : Program} {loose : List Str} {mean : ExcName → Option Value} {mg mb : Str → Option Value} {env : Env} {outer : List Env} {Q E : Value → Shared → Prop} {news : List (Addr × Obj)}
variable {a : LA} {k1 k3 ln : Int} {ts tl tk tc u6 : Tok} {pos : Nat} {pb : Option Nat} {rest : List Nat} {fin : Bool} {o : LexOut}
noncomputable abbrev LA.us (a : LA) (w : World) (st ln tok : Value) (pos : Int) (u6 : Tok) (k3 : Int) (pbk : List Value) : List (Addr × Obj) :=
  [(a.d, lexD w a.tt a.b a.q1 a.q2 a.q3 st ln tok), (a.e, sioD w a.u1 a.u2 a.u3 (.str "\n" a.u4) (.str a.page a.u5) (.int pos u6)), (a.q3, dqObj k3 pbk)]
noncomputable abbrev finMd (fin : Bool) : Md := if fin then .nn else .sp
theorem inp_len {page : Str} {pb : Option Nat} {pos : Nat} {l : List Nat} (I : Inp page pb pos l) : l.length ≤ page.length + 1 := by
  cases I with
  | rd hp hl => have := congrArg List.length hl; rw [List.length_drop, Array.length_toList] at this; show _ ≤ page.cps.size + 1; omega
  | pb hp hl => have := congrArg List.length hl; rw [List.length_drop, Array.length_toList] at this; show _ ≤ page.cps.size + 1; rw [List.length_cons]; omega
theorem rtk_ct (nd : a.Nd) (B : Below A₀ base outer h₀) (F : Fr h₀ L s.heap m) (X : (Mine.KK w.params).In h₀)
  (N : News h₀ L s.heap news) (hs : ∀ q ∈ a.led w (mdV ts (finMd fin)) (.int ln tl) (.str "" tk) pos u6 k1 k3 [] (pbv tc pb), q ∈ news)
  (T : Top p loose mean mg mb h₀) (hf : env.frame = some L) (hke : env.scope.kind = .function) (hd : dp + 12 < 1000) (hsz : a.page.length ≤ 1048576)
  (I : Inp a.page pb pos (pb.toList ++ rest)) (hl : lex (finMd fin) [] (pb.toList ++ rest) ln = some o)
  (hQ : ∀ h' k' (ts tl tk tc u6 tr : Tok) (pos : Nat) (k3 : Int), Inp a.page o.pb pos (o.pb.toList ++ o.rest) → Fr h₀ L h' m →
    (∀ news', Rw (a.us w (mdV ts (finMd o.fin)) (.int o.ln tl) (.str "" tk) pos u6 k3 (pbv tc o.pb)) news news' → News h₀ L h' news') → Q (.str (tx o.tok) tr) { s with heap := h', toks := k' }) :
  wpAny (model PG w) (Around.mk hh dp (some (env :: outer)) gd un) (call (.ref 724) [.ref a.x] []) Q E s := by
  have hlen : (pb.toList ++ rest).length ≤ 3000000 := Nat.le_trans (inp_len I) (by omega)
  have nd0 := nd
  obtain ⟨n1, n2, n3, n4, n5, n6, n7, n8, n9, n10, n11, n12, n13, n14, n15, n16, n17, n18⟩ := nd0
  refine wpAny_call ?_
  refine' call_small B F X N hs T rfl hf hke ?k6 ?k7 ?k8 ?k9 ?kB ?_ ?c2 ?c3 ?c4 ?c5
  (case k6 => k_is)
  (case k7 => k_is)
  (case k8 => (show dp < 1000); omega)
  (case k9 => exact BindsTo.of_eq rfl)
  (case kB => exact locs rfl)
  (case c2 => exact rfl)
  (case c3 => exact rfl)
  (case c4 => exact rfl)
  (case c5 => decide)
  intro g L' h₁ F' N' B' X' T' kg
  (try k_fold)
  have N0 := fun (_ : Unit) => N
  clear N
  (try k_fold)
  repeat ((fail_if_success (with_reducible show wpAny _ _ (exec (Stmt.While _ _ _ _) _) _ _ _)); (first | walk_at "one step"))
  refine' whl_start 0 ?_
  refine' rt_loop ?hE nd B' X' T' ?hd hsz (pb.toList ++ rest) (finMd fin) [] ln o hl (fun _ => rfl) (fun _ => rfl) ?g3 ?g4 ?g5 _ _ _ _ _ _ _ _ false none pb (fun _ => rfl) I ?hF ?hN ?hK
  (case hF => exact Fr.as (by assumption) (rtLoc_start _ _))
  (case hN => rw [← em1]; assumption)
  (case hE => first | passes_own | with_unfolding_all passes_own)
  (case hd => omega)
  (case g3 => intro h; cases fin <;> rcases h with h | h <;> cases h)
  (case g4 => intro q h; cases fin <;> cases h)
  (case g5 => rw [List.length_nil, Nat.zero_add]; exact hlen)
  intro h2 k2 ts2 tl2 tk2 tc2 u62 pos2 k32 qd2 ov2 I2 F2 N2
  (try dsimp only)
  k_steps
  refine' hQ _ _ ts2 tl2 ?tt9 tc2 u62 tk2 pos2 k32 I2 ?hF ?hN
  (case hF => assumption)
  (case hN =>
    intro news' r
    refine' news_rw (N0 ()) kg ?F ?N hs ?hu ?hk r
    (case F => assumption)
    (case N => assumption)
    (case hu => exact List.forall_mem_cons.mpr ⟨by k_mem, List.forall_mem_cons.mpr ⟨by k_mem, List.forall_mem_cons.mpr ⟨by k_mem, List.forall_mem_nil _⟩⟩⟩)
    (case hk => exact List.forall_mem_cons.mpr ⟨.inr (by k_mem), List.forall_mem_cons.mpr ⟨.inl ⟨_, .head _, rfl⟩, List.forall_mem_cons.mpr ⟨.inr (by k_mem), List.forall_mem_cons.mpr ⟨.inl ⟨_, .tail _ (.head _), rfl⟩, List.forall_mem_cons.mpr ⟨.inr (by k_mem), List.forall_mem_cons.mpr ⟨.inl ⟨_, .tail _ (.tail _ (.head _)), rfl⟩, List.forall_mem_nil _⟩⟩⟩⟩⟩⟩))
end
end Mine
end
-- part Sg
section
namespace Mine
noncomputable def bkv (tb : Tok) : Option (List Nat) → List Value
  | none => []
  | some t => [.str (tx t) tb]
noncomputable def gtok (back : Option (List Nat)) (pb : Option Nat) (rest : List Nat) (ln : Int) (fin : Bool) : Option LexOut := match back with
  | some t => some ⟨t, pb, rest, ln, fin⟩
  | none => lex (finMd fin) [] (pb.toList ++ rest) ln
noncomputable abbrev LA.led7 (a : LA) (w : World) (st ln tok : Value) (pos : Int) (u6 : Tok) (k1 k3 : Int) (back pbk : List Value) : List (Addr × Obj) :=
  [(a.x, instObj 756 a.d), (a.d, lexD w a.tt a.b a.q1 a.q2 a.q3 st ln tok), (a.b, instObj 621 a.e), (a.e, sioD w a.u1 a.u2 a.u3 (.str "\n" a.u4) (.str a.page a.u5) (.int pos u6)), (a.q1, dqObj k1 back), (a.q3, dqObj k3 pbk), (a.q2, dqObj 0 [])]
noncomputable abbrev LA.us4 (a : LA) (w : World) (st ln tok : Value) (pos : Int) (u6 : Tok) (k1 k3 : Int) (back pbk : List Value) : List (Addr × Obj) :=
  [(a.d, lexD w a.tt a.b a.q1 a.q2 a.q3 st ln tok), (a.e, sioD w a.u1 a.u2 a.u3 (.str "\n" a.u4) (.str a.page a.u5) (.int pos u6)), (a.q1, dqObj k1 back), (a.q3, dqObj k3 pbk)]
section
variable {w : World} {hh : Option Value} {dp un : Nat} {gd : Option (List Code)} {A₀ : Around} {base h₀ : Heap} {L : Addr} {m : Str → Option Value} {s : Shared} {p : Program} {loose : List Str} {mean : ExcName → Option Value} {mg mb : Str → Option Value} {env : Env} {outer : List Env} {Q E : Value → Shared → Prop} {news : List (Addr × Obj)}
variable {a : LA} {k1 k3 ln : Int} {ts tl tk tc u6 tb : Tok} {pos : Nat} {pb : Option Nat} {rest : List Nat} {fin : Bool} {o : LexOut}
theorem gt_back {t : List Nat} (nd : a.Nd) (B : Below A₀ base outer h₀) (F : Fr h₀ L s.heap m) (X : (Mine.KK w.params).In h₀)
  (N : News h₀ L s.heap news) (hs : ∀ q ∈ a.led7 w (mdV ts (finMd fin)) (.int ln tl) (.str "" tk) pos u6 k1 k3 [.str (tx t) tb] (pbv tc pb), q ∈ news)
  (T : Top p loose mean mg mb h₀) (hf : env.frame = some L) (hke : env.scope.kind = .function) (hd : dp + 14 < 1000)
  (hQ : ∀ h' k' (tr : Tok) (k1 : Int), Fr h₀ L h' m →
    (∀ news', Rw (a.us4 w (mdV ts (finMd fin)) (.int ln tl) (.str "" tk) pos u6 k1 k3 [] (pbv tc pb)) news news' → News h₀ L h' news') → Q (.str (tx t) tr) { s with heap := h', toks := k' }) :
  wpAny (model PG w) (Around.mk hh dp (some (env :: outer)) gd un) (call (.ref 717) [.ref a.x] []) Q E s := by
  have nd0 := nd
  obtain ⟨n1, n2, n3, n4, n5, n6, n7, n8, n9, n10, n11, n12, n13, n14, n15, n16, n17, n18⟩ := nd0
  refine wpAny_call ?_
  refine' call_small B F X N hs T rfl hf hke ?k6 ?k7 ?k8 ?k9 ?kB ?_ ?c2 ?c3 ?c4 ?c5
  (case k6 => k_is)
  (case k7 => k_is)
  (case k8 => (show dp < 1000); omega)
  (case k9 => exact BindsTo.of_eq rfl)
  (case kB => exact locs rfl)
  (case c2 => exact rfl)
  (case c3 => exact rfl)
  (case c4 => exact rfl)
  (case c5 => decide)
  intro g L' h₁ F' N' B' X' T' kg
  k_fold
  have N0 := fun (_ : Unit) => N
  clear N
  (try k_fold)
  (repeat' (first | (focus ((with_reducible show wpAny _ _ (exec (Stmt.While (PySem.Expr.Compare _ _ _ _) _ _ _) _) _ _ _); k_dflt (refine whl_start 100 ?_))) | (focus ((with_reducible show WhlIf ..); first | (refine WhlIf.no (by with_reducible assumption) ?_) | (refine WhlIf.yes (by with_reducible assumption) ?_))) | (focus ((with_reducible show wpAny _ _ (PySem.truthy (Value.ref _)) _ _ _); k_dflt (first | (refine' dq_truthy_nil ?N ?m ?_; (case N => k_asm); (case m => k_mem); k_whole) | (refine' dq_truthy_cons ?N ?m ?z ?_; (case N => k_asm); (case m => k_mem); (case z => (first | decide | (simp only [List.length_cons, List.length_nil]; omega) | omega)); k_whole)))) | (focus ((with_reducible show wpAny _ _ (PySem.call (Value.builtin "collections.deque.popleft") _ _) _ _ _); k_dflt (refine' dq_popleft ?F ?N ?U ?z ?_; (case F | N => k_asm); (case U => k_upd); (case z => (first | decide | (simp only [List.length_cons, List.length_nil]; omega) | omega)); k_whole); intro h' F' N'; (try k_sweep))) | (focus ((with_reducible show wpAny _ _ (getMethod (Value.ref _) _ _) _ _ _); k_dflt (refine' dq_getMethod ?N ?m dq_slot_popleft dq_type_popleft ?_; (case N => k_asm); (case m => k_mem); k_whole))) | walk_at "one step"))
  refine' hQ _ _ _ _ ?hF ?hN
  (case hF => assumption)
  (case hN =>
    intro news' r
    refine' news_rw (N0 ()) kg ?F ?N hs ?hu ?hk r
    (case F => assumption)
    (case N => assumption)
    (case hu => exact List.forall_mem_cons.mpr ⟨by k_mem, List.forall_mem_cons.mpr ⟨by k_mem, List.forall_mem_cons.mpr ⟨by k_mem, List.forall_mem_cons.mpr ⟨by k_mem, List.forall_mem_nil _⟩⟩⟩⟩)
    (case hk => exact List.forall_mem_cons.mpr ⟨.inr (by k_mem), List.forall_mem_cons.mpr ⟨.inl ⟨_, .head _, rfl⟩, List.forall_mem_cons.mpr ⟨.inr (by k_mem), List.forall_mem_cons.mpr ⟨.inl ⟨_, .tail _ (.head _), rfl⟩, List.forall_mem_cons.mpr ⟨.inl ⟨_, .tail _ (.tail _ (.head _)), rfl⟩, List.forall_mem_cons.mpr ⟨.inl ⟨_, .tail _ (.tail _ (.tail _ (.head _))), rfl⟩, List.forall_mem_cons.mpr ⟨.inr (by k_mem), List.forall_mem_nil _⟩⟩⟩⟩⟩⟩⟩))
theorem gt_read (nd : a.Nd) (B : Below A₀ base outer h₀) (F : Fr h₀ L s.heap m) (X : (Mine.KK w.params).In h₀)
  (N : News h₀ L s.heap news) (hs : ∀ q ∈ a.led7 w (mdV ts (finMd fin)) (.int ln tl) (.str "" tk) pos u6 k1 k3 [] (pbv tc pb), q ∈ news)
  (T : Top p loose mean mg mb h₀) (hf : env.frame = some L) (hke : env.scope.kind = .function) (hd : dp + 14 < 1000) (hsz : a.page.length ≤ 1048576)
  (I : Inp a.page pb pos (pb.toList ++ rest)) (hl : lex (finMd fin) [] (pb.toList ++ rest) ln = some o) (hne : (tx o.tok == Str.ofString "") = false)
  (hQ : ∀ h' k' (ts tl tk tc u6 tr : Tok) (pos : Nat) (k3 : Int), Inp a.page o.pb pos (o.pb.toList ++ o.rest) → Fr h₀ L h' m →
    (∀ news', Rw (a.us4 w (mdV ts (finMd o.fin)) (.int o.ln tl) (.str "" tk) pos u6 k1 k3 [] (pbv tc o.pb)) news news' → News h₀ L h' news') → Q (.str (tx o.tok) tr) { s with heap := h', toks := k' }) :
  wpAny (model PG w) (Around.mk hh dp (some (env :: outer)) gd un) (call (.ref 717) [.ref a.x] []) Q E s := by
  have nd0 := nd
  obtain ⟨n1, n2, n3, n4, n5, n6, n7, n8, n9, n10, n11, n12, n13, n14, n15, n16, n17, n18⟩ := nd0
  refine wpAny_call ?_
  refine' call_small B F X N hs T rfl hf hke ?k6 ?k7 ?k8 ?k9 ?kB ?_ ?c2 ?c3 ?c4 ?c5
  (case k6 => k_is)
  (case k7 => k_is)
  (case k8 => (show dp < 1000); omega)
  (case k9 => exact BindsTo.of_eq rfl)
  (case kB => exact locs rfl)
  (case c2 => exact rfl)
  (case c3 => exact rfl)
  (case c4 => exact rfl)
  (case c5 => decide)
  intro g L' h₁ F' N' B' X' T' kg
  k_fold
  have N0 := fun (_ : Unit) => N
  clear N
  (try k_fold)
  (repeat' (first | (focus ((with_reducible show wpAny _ _ (PySem.call (Value.ref _) _ _) _ _ _); k_dflt (refine' rtk_ct ?nd ?B ?F ?X ?N ?hs ?T ?hf ?hke ?hd ?hsz ?I ?hl ?_; (case nd => assumption); (case B | F | X | N | T => k_asm); (case hs => walk_at "all mem"); (case hf | hke => exact rfl); (case hd => walk_at "depth is"); (case hsz | I | hl => assumption); k_whole; intro h' k' ts' tl' tk' tc' u6' tr' pos' k3' I' F' HN'; (have N' := HN' _ (by k_upd)); clear HN'))) | (focus ((with_reducible show wpAny _ _ (exec (Stmt.While (PySem.Expr.Compare _ _ _ _) _ _ _) _) _ _ _); k_dflt (refine whl_start 100 ?_))) | (focus ((with_reducible show WhlIf ..); first | (refine WhlIf.no (by with_reducible assumption) ?_) | (refine WhlIf.yes (by with_reducible assumption) ?_))) | (focus ((with_reducible show wpAny _ _ (PySem.truthy (Value.ref _)) _ _ _); k_dflt (first | (refine' dq_truthy_nil ?N ?m ?_; (case N => k_asm); (case m => k_mem); k_whole) | (refine' dq_truthy_cons ?N ?m ?z ?_; (case N => k_asm); (case m => k_mem); (case z => (first | decide | (simp only [List.length_cons, List.length_nil]; omega) | omega)); k_whole)))) | (focus ((with_reducible show wpAny _ _ (PySem.call (Value.builtin "collections.deque.popleft") _ _) _ _ _); k_dflt (refine' dq_popleft ?F ?N ?U ?z ?_; (case F | N => k_asm); (case U => k_upd); (case z => (first | decide | (simp only [List.length_cons, List.length_nil]; omega) | omega)); k_whole); intro h' F' N'; (try k_sweep))) | (focus ((with_reducible show wpAny _ _ (getMethod (Value.ref _) _ _) _ _ _); k_dflt (refine' dq_getMethod ?N ?m dq_slot_popleft dq_type_popleft ?_; (case N => k_asm); (case m => k_mem); k_whole))) | walk_at "one step"))
  refine' hQ _ _ _ _ _ _ _ _ _ _ ?hI ?hF ?hN
  (case hI => assumption)
  (case hF => assumption)
  (case hN =>
    intro news' r
    refine' news_rw (N0 ()) kg ?F ?N hs ?hu ?hk r
    (case F => assumption)
    (case N => assumption)
    (case hu => exact List.forall_mem_cons.mpr ⟨by k_mem, List.forall_mem_cons.mpr ⟨by k_mem, List.forall_mem_cons.mpr ⟨by k_mem, List.forall_mem_cons.mpr ⟨by k_mem, List.forall_mem_nil _⟩⟩⟩⟩)
    (case hk => exact List.forall_mem_cons.mpr ⟨.inr (by k_mem), List.forall_mem_cons.mpr ⟨.inl ⟨_, .head _, rfl⟩, List.forall_mem_cons.mpr ⟨.inr (by k_mem), List.forall_mem_cons.mpr ⟨.inl ⟨_, .tail _ (.head _), rfl⟩, List.forall_mem_cons.mpr ⟨.inl ⟨_, .tail _ (.tail _ (.head _)), rfl⟩, List.forall_mem_cons.mpr ⟨.inl ⟨_, .tail _ (.tail _ (.tail _ (.head _))), rfl⟩, List.forall_mem_cons.mpr ⟨.inr (by k_mem), List.forall_mem_nil _⟩⟩⟩⟩⟩⟩⟩))
theorem gt_end (nd : a.Nd) (B : Below A₀ base outer h₀) (F : Fr h₀ L s.heap m) (X : (Mine.KK w.params).In h₀)
  (N : News h₀ L s.heap news) (hs : ∀ q ∈ a.led7 w (mdV ts (finMd fin)) (.int ln tl) (.str "" tk) pos u6 k1 k3 [] (pbv tc pb), q ∈ news)
  (T : Top p loose mean mg mb h₀) (hf : env.frame = some L) (hke : env.scope.kind = .function) (hd : dp + 14 < 1000) (hsz : a.page.length ≤ 1048576)
  (I : Inp a.page pb pos (pb.toList ++ rest)) (hl : lex (finMd fin) [] (pb.toList ++ rest) ln = some o) (hne : (tx o.tok == Str.ofString "") = true)
  (hQ : ∀ h' k' (ts tl tk tc u6 tr : Tok) (pos : Nat) (k3 : Int), Inp a.page o.pb pos (o.pb.toList ++ o.rest) → Fr h₀ L h' m →
    (∀ news', Rw (a.us4 w (mdV ts (finMd o.fin)) (.int o.ln tl) (.str "" tk) pos u6 k1 k3 [] (pbv tc o.pb)) news news' → News h₀ L h' news') → Q (.str "" tr) { s with heap := h', toks := k' }) :
  wpAny (model PG w) (Around.mk hh dp (some (env :: outer)) gd un) (call (.ref 717) [.ref a.x] []) Q E s := by
  have nd0 := nd
  obtain ⟨n1, n2, n3, n4, n5, n6, n7, n8, n9, n10, n11, n12, n13, n14, n15, n16, n17, n18⟩ := nd0
  refine wpAny_call ?_
  refine' call_small B F X N hs T rfl hf hke ?k6 ?k7 ?k8 ?k9 ?kB ?_ ?c2 ?c3 ?c4 ?c5
  (case k6 => k_is)
  (case k7 => k_is)
  (case k8 => (show dp < 1000); omega)
  (case k9 => exact BindsTo.of_eq rfl)
  (case kB => exact locs rfl)
  (case c2 => exact rfl)
  (case c3 => exact rfl)
  (case c4 => exact rfl)
  (case c5 => decide)
  intro g L' h₁ F' N' B' X' T' kg
  k_fold
  have N0 := fun (_ : Unit) => N
  clear N
  (try k_fold)
  (repeat' (first | (focus ((with_reducible show wpAny _ _ (PySem.call (Value.ref _) _ _) _ _ _); k_dflt (refine' rtk_ct ?nd ?B ?F ?X ?N ?hs ?T ?hf ?hke ?hd ?hsz ?I ?hl ?_; (case nd => assumption); (case B | F | X | N | T => k_asm); (case hs => walk_at "all mem"); (case hf | hke => exact rfl); (case hd => walk_at "depth is"); (case hsz | I | hl => assumption); k_whole; intro h' k' ts' tl' tk' tc' u6' tr' pos' k3' I' F' HN'; (have N' := HN' _ (by k_upd)); clear HN'))) | (focus ((with_reducible show wpAny _ _ (exec (Stmt.While (PySem.Expr.Compare _ _ _ _) _ _ _) _) _ _ _); k_dflt (refine whl_start 100 ?_))) | (focus ((with_reducible show WhlIf ..); first | (refine WhlIf.no (by with_reducible assumption) ?_) | (refine WhlIf.yes (by with_reducible assumption) ?_))) | (focus ((with_reducible show wpAny _ _ (PySem.truthy (Value.ref _)) _ _ _); k_dflt (first | (refine' dq_truthy_nil ?N ?m ?_; (case N => k_asm); (case m => k_mem); k_whole) | (refine' dq_truthy_cons ?N ?m ?z ?_; (case N => k_asm); (case m => k_mem); (case z => (first | decide | (simp only [List.length_cons, List.length_nil]; omega) | omega)); k_whole)))) | (focus ((with_reducible show wpAny _ _ (PySem.call (Value.builtin "collections.deque.popleft") _ _) _ _ _); k_dflt (refine' dq_popleft ?F ?N ?U ?z ?_; (case F | N => k_asm); (case U => k_upd); (case z => (first | decide | (simp only [List.length_cons, List.length_nil]; omega) | omega)); k_whole); intro h' F' N'; (try k_sweep))) | (focus ((with_reducible show wpAny _ _ (getMethod (Value.ref _) _ _) _ _ _); k_dflt (refine' dq_getMethod ?N ?m dq_slot_popleft dq_type_popleft ?_; (case N => k_asm); (case m => k_mem); k_whole))) | walk_at "one step"))
  refine' hQ _ _ _ _ _ _ _ _ _ _ ?hI ?hF ?hN
  (case hI => assumption)
  (case hF => assumption)
  (case hN =>
    intro news' r
    refine' news_rw (N0 ()) kg ?F ?N hs ?hu ?hk r
    (case F => assumption)
    (case N => assumption)
    (case hu => exact List.forall_mem_cons.mpr ⟨by k_mem, List.forall_mem_cons.mpr ⟨by k_mem, List.forall_mem_cons.mpr ⟨by k_mem, List.forall_mem_cons.mpr ⟨by k_mem, List.forall_mem_nil _⟩⟩⟩⟩)
    (case hk => exact List.forall_mem_cons.mpr ⟨.inr (by k_mem), List.forall_mem_cons.mpr ⟨.inl ⟨_, .head _, rfl⟩, List.forall_mem_cons.mpr ⟨.inr (by k_mem), List.forall_mem_cons.mpr ⟨.inl ⟨_, .tail _ (.head _), rfl⟩, List.forall_mem_cons.mpr ⟨.inl ⟨_, .tail _ (.tail _ (.head _)), rfl⟩, List.forall_mem_cons.mpr ⟨.inl ⟨_, .tail _ (.tail _ (.tail _ (.head _))), rfl⟩, List.forall_mem_cons.mpr ⟨.inr (by k_mem), List.forall_mem_nil _⟩⟩⟩⟩⟩⟩⟩))
end
end Mine
end
-- part Sg2
section
namespace Mine
theorem item_0 {l : List Nat} (h : 1 ≤ (tx l).length) : Txt.item (tx l) 0 = tx (l.take 1) := by
  cases l with
  | nil => exact absurd h (by decide)
  | cons c r =>
    have e : seqIndex? 0 (tx (c :: r)).length = some 0 := by
      rw [tx_len, List.length_cons]
      unfold seqIndex?
      have h1 : ¬ ((0 : Int) < 0) := by decide
      simp only [h1, if_false]
      simp
      try omega
    have : Txt.charAt (tx (c :: r)) 0 = some c := by
      unfold Txt.charAt
      rw [e]
      rfl
    unfold Txt.item
    rw [this]
    rfl
section
variable {w : World} {hh : Option Value} {dp un : Nat} {gd : Option (List Code)} {A₀ : Around} {base h₀ : Heap} {L : Addr} {m : Str → Option Value} {s : Shared} {p : Program} {loose : List Str} {mean : ExcName → Option Value} {mg mb : Str → Option Value} {env : Env} {outer : List Env} {Q E : Value → Shared → Prop} {news : List (Addr × Obj)}
variable {a : LA} {k1 k3 ln : Int} {ts tl tk tc u6 tb : Tok} {pos : Nat} {back : Option (List Nat)} {pb : Option Nat} {rest : List Nat} {fin : Bool} {o : LexOut}
theorem gt_ct (nd : a.Nd) (B : Below A₀ base outer h₀) (F : Fr h₀ L s.heap m) (X : (Mine.KK w.params).In h₀)
  (N : News h₀ L s.heap news) (hs : ∀ q ∈ a.led7 w (mdV ts (finMd fin)) (.int ln tl) (.str "" tk) pos u6 k1 k3 (bkv tb back) (pbv tc pb), q ∈ news)
  (T : Top p loose mean mg mb h₀) (hf : env.frame = some L) (hke : env.scope.kind = .function) (hd : dp + 14 < 1000) (hsz : a.page.length ≤ 1048576)
  (I : Inp a.page pb pos (pb.toList ++ rest)) (hl : gtok back pb rest ln fin = some o)
  (hQ : ∀ h' k' (ts tl tk tc u6 tr : Tok) (pos : Nat) (k1 k3 : Int), Inp a.page o.pb pos (o.pb.toList ++ o.rest) → Fr h₀ L h' m →
    (∀ news', Rw (a.us4 w (mdV ts (finMd o.fin)) (.int o.ln tl) (.str "" tk) pos u6 k1 k3 [] (pbv tc o.pb)) news news' → News h₀ L h' news') → Q (.str (tx o.tok) tr) { s with heap := h', toks := k' }) :
  wpAny (model PG w) (Around.mk hh dp (some (env :: outer)) gd un) (call (.ref 717) [.ref a.x] []) Q E s := by
  cases back with
  | some t =>
    obtain rfl := Option.some.inj hl
    exact gt_back nd B F X N hs T hf hke hd fun h' k' tr k1 F' HN => hQ h' k' ts tl tk tc u6 tr pos k1 k3 I F' HN
  | none =>
    cases he : (tx o.tok == Str.ofString "") with
    | false => exact gt_read nd B F X N hs T hf hke hd hsz I hl he fun h' k' ts tl tk tc u6 tr pos k3 I' F' HN => hQ h' k' ts tl tk tc u6 tr pos k1 k3 I' F' HN
    | true =>
      refine gt_end nd B F X N hs T hf hke hd hsz I hl he fun h' k' ts tl tk tc u6 tr pos k3 I' F' HN => ?_
      have e : tx o.tok = Str.ofString "" := by simpa using he
      rw [← e]
      exact hQ h' k' ts tl tk tc u6 tr pos k1 k3 I' F' HN
theorem sg_a (nd : a.Nd) (B : Below A₀ base outer h₀) (F : Fr h₀ L s.heap m) (X : (Mine.KK w.params).In h₀)
  (N : News h₀ L s.heap news) (hs : ∀ q ∈ a.led7 w (mdV ts (finMd fin)) (.int ln tl) (.str "" tk) pos u6 k1 k3 (bkv tb back) (pbv tc pb), q ∈ news)
  (T : Top p loose mean mg mb h₀) (hf : env.frame = some L) (hke : env.scope.kind = .function) (hd : dp + 16 < 1000) (hsz : a.page.length ≤ 1048576)
  (I : Inp a.page pb pos (pb.toList ++ rest)) (hl : gtok back pb rest ln fin = some o) (htl : (tx o.tok).length ≤ 3000000)
  (hin : ([Str.ofString "<", Str.ofString ">", Str.ofString "/", Str.ofString "="].any fun x => x == Txt.slice (tx o.tok) none (some 1)) = false)
  (hQ : ∀ h' k' (ts tl tk tc u6 tr tb : Tok) (pos : Nat) (k1 k3 : Int), Inp a.page o.pb pos (o.pb.toList ++ o.rest) → Fr h₀ L h' m →
    (∀ news', Rw (a.us4 w (mdV ts (finMd o.fin)) (.int o.ln tl) (.str "" tk) pos u6 k1 k3 [] (pbv tc o.pb)) news news' → News h₀ L h' news') → Q (.str (tx o.tok) tr) { s with heap := h', toks := k' }) :
  wpAny (model PG w) (Around.mk hh dp (some (env :: outer)) gd un) (call (.ref 786) [.ref a.x] []) Q E s := by
  have nd0 := nd
  obtain ⟨n1, n2, n3, n4, n5, n6, n7, n8, n9, n10, n11, n12, n13, n14, n15, n16, n17, n18⟩ := nd0
  refine wpAny_call ?_
  refine' call_small B F X N hs T rfl hf hke ?k6 ?k7 ?k8 ?k9 ?kB ?_ ?c2 ?c3 ?c4 ?c5
  (case k6 => k_is)
  (case k7 => k_is)
  (case k8 => (show dp < 1000); omega)
  (case k9 => exact BindsTo.of_eq rfl)
  (case kB => exact locs rfl)
  (case c2 => exact rfl)
  (case c3 => exact rfl)
  (case c4 => exact rfl)
  (case c5 => decide)
  intro g L' h₁ F' N' B' X' T' kg
  (try k_fold)
  have N0 := fun (_ : Unit) => N
  clear N
  (try k_fold)
  (repeat' (first | (focus ((with_reducible show wpAny _ _ (PySem.call (Value.ref _) _ _) _ _ _); k_dflt (refine' gt_ct ?nd ?B ?F ?X ?N ?hs ?T ?hf ?hke ?hd ?hsz ?I ?hl ?_; (case nd => assumption); (case B | F | X | N | T => k_asm); (case hs => exact fun _ h => h); (case hf | hke => exact rfl); (case hd => walk_at "depth is"); (case hsz | I | hl => assumption); k_whole; intro h' k' ts' tl' tk' tc' u6' tr' pos' k1' k3' I' F' HN'; (have N' := HN' _ (by k_upd)); clear HN'))) | (focus ((with_reducible show wpAny _ _ (PySem.call (Value.builtin "collections.deque.appendleft") _ _) _ _ _); k_dflt (refine' dq_appendleft ?F ?N ?U ?z ?_; (case F | N => k_asm); (case U => k_upd); (case z => (first | decide | (simp only [List.length_cons, List.length_nil]; omega) | omega)); k_whole); intro h' F' N'; (try k_sweep))) | (focus ((with_reducible show wpAny _ _ (getMethod (Value.ref _) _ _) _ _ _); k_dflt (refine' dq_getMethod ?N ?m dq_slot_appendleft dq_type_appendleft ?_; (case N => k_asm); (case m => k_mem); k_whole))) | walk_at "one step"))
  refine' hQ _ _ _ _ _ _ _ _ _ _ _ _ ?hI ?hF ?hN
  (case hI => assumption)
  (case hF => assumption)
  (case hN =>
    intro news' r
    refine' news_rw (N0 ()) kg ?F ?N hs ?hu ?hk r
    (case F => assumption)
    (case N => assumption)
    (case hu => exact List.forall_mem_cons.mpr ⟨by k_mem, List.forall_mem_cons.mpr ⟨by k_mem, List.forall_mem_cons.mpr ⟨by k_mem, List.forall_mem_cons.mpr ⟨by k_mem, List.forall_mem_nil _⟩⟩⟩⟩)
    (case hk => exact List.forall_mem_cons.mpr ⟨.inr (by k_mem), List.forall_mem_cons.mpr ⟨.inl ⟨_, .head _, rfl⟩, List.forall_mem_cons.mpr ⟨.inr (by k_mem), List.forall_mem_cons.mpr ⟨.inl ⟨_, .tail _ (.head _), rfl⟩, List.forall_mem_cons.mpr ⟨.inl ⟨_, .tail _ (.tail _ (.head _)), rfl⟩, List.forall_mem_cons.mpr ⟨.inl ⟨_, .tail _ (.tail _ (.tail _ (.head _))), rfl⟩, List.forall_mem_cons.mpr ⟨.inr (by k_mem), List.forall_mem_nil _⟩⟩⟩⟩⟩⟩⟩))
  all_goals exact (0 : Nat)
theorem sg_b (nd : a.Nd) (B : Below A₀ base outer h₀) (F : Fr h₀ L s.heap m) (X : (Mine.KK w.params).In h₀)
  (N : News h₀ L s.heap news) (hs : ∀ q ∈ a.led7 w (mdV ts (finMd fin)) (.int ln tl) (.str "" tk) pos u6 k1 k3 (bkv tb back) (pbv tc pb), q ∈ news)
  (T : Top p loose mean mg mb h₀) (hf : env.frame = some L) (hke : env.scope.kind = .function) (hd : dp + 16 < 1000) (hsz : a.page.length ≤ 1048576)
  (I : Inp a.page pb pos (pb.toList ++ rest)) (hl : gtok back pb rest ln fin = some o) (htl : (tx o.tok).length ≤ 3000000)
  (hin : ([Str.ofString "<", Str.ofString ">", Str.ofString "/", Str.ofString "="].any fun x => x == Txt.slice (tx o.tok) none (some 1)) = true) (hlen1 : (tx o.tok).length = 1)
  (hQ : ∀ h' k' (ts tl tk tc u6 tr tb : Tok) (pos : Nat) (k1 k3 : Int), Inp a.page o.pb pos (o.pb.toList ++ o.rest) → Fr h₀ L h' m →
    (∀ news', Rw (a.us4 w (mdV ts (finMd o.fin)) (.int o.ln tl) (.str "" tk) pos u6 k1 k3 [] (pbv tc o.pb)) news news' → News h₀ L h' news') → Q (.str (tx o.tok) tr) { s with heap := h', toks := k' }) :
  wpAny (model PG w) (Around.mk hh dp (some (env :: outer)) gd un) (call (.ref 786) [.ref a.x] []) Q E s := by
  have nd0 := nd
  obtain ⟨n1, n2, n3, n4, n5, n6, n7, n8, n9, n10, n11, n12, n13, n14, n15, n16, n17, n18⟩ := nd0
  refine wpAny_call ?_
  refine' call_small B F X N hs T rfl hf hke ?k6 ?k7 ?k8 ?k9 ?kB ?_ ?c2 ?c3 ?c4 ?c5
  (case k6 => k_is)
  (case k7 => k_is)
  (case k8 => (show dp < 1000); omega)
  (case k9 => exact BindsTo.of_eq rfl)
  (case kB => exact locs rfl)
  (case c2 => exact rfl)
  (case c3 => exact rfl)
  (case c4 => exact rfl)
  (case c5 => decide)
  intro g L' h₁ F' N' B' X' T' kg
  (try k_fold)
  have N0 := fun (_ : Unit) => N
  clear N
  (try k_fold)
  (repeat' (first | (focus ((with_reducible show wpAny _ _ (PySem.call (Value.ref _) _ _) _ _ _); k_dflt (refine' gt_ct ?nd ?B ?F ?X ?N ?hs ?T ?hf ?hke ?hd ?hsz ?I ?hl ?_; (case nd => assumption); (case B | F | X | N | T => k_asm); (case hs => exact fun _ h => h); (case hf | hke => exact rfl); (case hd => walk_at "depth is"); (case hsz | I | hl => assumption); k_whole; intro h' k' ts' tl' tk' tc' u6' tr' pos' k1' k3' I' F' HN'; (have N' := HN' _ (by k_upd)); clear HN'))) | (focus ((with_reducible show wpAny _ _ (PySem.call (Value.builtin "collections.deque.appendleft") _ _) _ _ _); k_dflt (refine' dq_appendleft ?F ?N ?U ?z ?_; (case F | N => k_asm); (case U => k_upd); (case z => (first | decide | (simp only [List.length_cons, List.length_nil]; omega) | omega)); k_whole); intro h' F' N'; (try k_sweep))) | (focus ((with_reducible show wpAny _ _ (getMethod (Value.ref _) _ _) _ _ _); k_dflt (refine' dq_getMethod ?N ?m dq_slot_appendleft dq_type_appendleft ?_; (case N => k_asm); (case m => k_mem); k_whole))) | walk_at "one step"))
  refine' hQ _ _ _ _ _ _ _ _ _ _ _ _ ?hI ?hF ?hN
  (case hI => assumption)
  (case hF => assumption)
  (case hN =>
    intro news' r
    refine' news_rw (N0 ()) kg ?F ?N hs ?hu ?hk r
    (case F => assumption)
    (case N => assumption)
    (case hu => exact List.forall_mem_cons.mpr ⟨by k_mem, List.forall_mem_cons.mpr ⟨by k_mem, List.forall_mem_cons.mpr ⟨by k_mem, List.forall_mem_cons.mpr ⟨by k_mem, List.forall_mem_nil _⟩⟩⟩⟩)
    (case hk => exact List.forall_mem_cons.mpr ⟨.inr (by k_mem), List.forall_mem_cons.mpr ⟨.inl ⟨_, .head _, rfl⟩, List.forall_mem_cons.mpr ⟨.inr (by k_mem), List.forall_mem_cons.mpr ⟨.inl ⟨_, .tail _ (.head _), rfl⟩, List.forall_mem_cons.mpr ⟨.inl ⟨_, .tail _ (.tail _ (.head _)), rfl⟩, List.forall_mem_cons.mpr ⟨.inl ⟨_, .tail _ (.tail _ (.tail _ (.head _))), rfl⟩, List.forall_mem_cons.mpr ⟨.inr (by k_mem), List.forall_mem_nil _⟩⟩⟩⟩⟩⟩⟩))
  all_goals exact (0 : Nat)
theorem sg_c (nd : a.Nd) (B : Below A₀ base outer h₀) (F : Fr h₀ L s.heap m) (X : (Mine.KK w.params).In h₀)
  (N : News h₀ L s.heap news) (hs : ∀ q ∈ a.led7 w (mdV ts (finMd fin)) (.int ln tl) (.str "" tk) pos u6 k1 k3 (bkv tb back) (pbv tc pb), q ∈ news)
  (T : Top p loose mean mg mb h₀) (hf : env.frame = some L) (hke : env.scope.kind = .function) (hd : dp + 16 < 1000) (hsz : a.page.length ≤ 1048576)
  (I : Inp a.page pb pos (pb.toList ++ rest)) (hl : gtok back pb rest ln fin = some o) (htl : (tx o.tok).length ≤ 3000000)
  (hin : ([Str.ofString "<", Str.ofString ">", Str.ofString "/", Str.ofString "="].any fun x => x == Txt.slice (tx o.tok) none (some 1)) = true) (hlen1 : 2 ≤ (tx o.tok).length)
  (hQ : ∀ h' k' (ts tl tk tc u6 tr tb : Tok) (pos : Nat) (k1 k3 : Int), Inp a.page o.pb pos (o.pb.toList ++ o.rest) → Fr h₀ L h' m →
    (∀ news', Rw (a.us4 w (mdV ts (finMd o.fin)) (.int o.ln tl) (.str "" tk) pos u6 k1 k3 [.str (Txt.slice (tx o.tok) (some 1) none) tb] (pbv tc o.pb)) news news' → News h₀ L h' news') → Q (.str (tx (o.tok.take 1)) tr) { s with heap := h', toks := k' }) :
  wpAny (model PG w) (Around.mk hh dp (some (env :: outer)) gd un) (call (.ref 786) [.ref a.x] []) Q E s := by
  have nd0 := nd
  obtain ⟨n1, n2, n3, n4, n5, n6, n7, n8, n9, n10, n11, n12, n13, n14, n15, n16, n17, n18⟩ := nd0
  refine wpAny_call ?_
  refine' call_small B F X N hs T rfl hf hke ?k6 ?k7 ?k8 ?k9 ?kB ?_ ?c2 ?c3 ?c4 ?c5
  (case k6 => k_is)
  (case k7 => k_is)
  (case k8 => (show dp < 1000); omega)
  (case k9 => exact BindsTo.of_eq rfl)
  (case kB => exact locs rfl)
  (case c2 => exact rfl)
  (case c3 => exact rfl)
  (case c4 => exact rfl)
  (case c5 => decide)
  intro g L' h₁ F' N' B' X' T' kg
  (try k_fold)
  have N0 := fun (_ : Unit) => N
  clear N
  (try k_fold)
  (repeat' (first | (focus ((with_reducible show wpAny _ _ (PySem.call (Value.ref _) _ _) _ _ _); k_dflt (refine' gt_ct ?nd ?B ?F ?X ?N ?hs ?T ?hf ?hke ?hd ?hsz ?I ?hl ?_; (case nd => assumption); (case B | F | X | N | T => k_asm); (case hs => exact fun _ h => h); (case hf | hke => exact rfl); (case hd => walk_at "depth is"); (case hsz | I | hl => assumption); k_whole; intro h' k' ts' tl' tk' tc' u6' tr' pos' k1' k3' I' F' HN'; (have N' := HN' _ (by k_upd)); clear HN'))) | (focus ((with_reducible show wpAny _ _ (PySem.call (Value.builtin "collections.deque.appendleft") _ _) _ _ _); k_dflt (refine' dq_appendleft ?F ?N ?U ?z ?_; (case F | N => k_asm); (case U => k_upd); (case z => (first | decide | (simp only [List.length_cons, List.length_nil]; omega) | omega)); k_whole); intro h' F' N'; (try k_sweep))) | (focus ((with_reducible show wpAny _ _ (getMethod (Value.ref _) _ _) _ _ _); k_dflt (refine' dq_getMethod ?N ?m dq_slot_appendleft dq_type_appendleft ?_; (case N => k_asm); (case m => k_mem); k_whole))) | walk_at "one step"))
  rw [item_0 (by show 1 ≤ _; omega)]
  refine' hQ _ _ _ _ _ _ _ _ _ _ _ _ ?hI ?hF ?hN
  (case hI => assumption)
  (case hF => assumption)
  (case hN =>
    intro news' r
    refine' news_rw (N0 ()) kg ?F ?N hs ?hu ?hk r
    (case F => assumption)
    (case N => assumption)
    (case hu => exact List.forall_mem_cons.mpr ⟨by k_mem, List.forall_mem_cons.mpr ⟨by k_mem, List.forall_mem_cons.mpr ⟨by k_mem, List.forall_mem_cons.mpr ⟨by k_mem, List.forall_mem_nil _⟩⟩⟩⟩)
    (case hk => exact List.forall_mem_cons.mpr ⟨.inr (by k_mem), List.forall_mem_cons.mpr ⟨.inl ⟨_, .head _, rfl⟩, List.forall_mem_cons.mpr ⟨.inr (by k_mem), List.forall_mem_cons.mpr ⟨.inl ⟨_, .tail _ (.head _), rfl⟩, List.forall_mem_cons.mpr ⟨.inl ⟨_, .tail _ (.tail _ (.head _)), rfl⟩, List.forall_mem_cons.mpr ⟨.inl ⟨_, .tail _ (.tail _ (.tail _ (.head _))), rfl⟩, List.forall_mem_cons.mpr ⟨.inr (by k_mem), List.forall_mem_nil _⟩⟩⟩⟩⟩⟩⟩))
  all_goals exact (0 : Nat)
end
end Mine
end
-- part Sg3
section
namespace Mine
set_option genInjectivity false in
structure SOut where
  sign : List Nat
  back : Option (List Nat)
  pb : Option Nat
  rest : List Nat
  ln : Int
  fin : Bool
noncomputable def sgn (back : Option (List Nat)) (pb : Option Nat) (rest : List Nat) (ln : Int) (fin : Bool) : Option SOut :=
  (gtok back pb rest ln fin).map fun o => if o.tok.any (fun _ => true) ∧ (∀ c ∈ o.tok.take 1, c ∈ punL) ∧ 2 ≤ o.tok.length then ⟨o.tok.take 1, some (o.tok.drop 1), o.pb, o.rest, o.ln, o.fin⟩ else ⟨o.tok, none, o.pb, o.rest, o.ln, o.fin⟩
theorem lex_len : ∀ (l : List Nat) (md : Md) (t : List Nat) (ln : Int) (o : LexOut), lex md t l ln = some o → o.tok.length ≤ t.length + l.length := by
  intro l
  induction l with
  | nil =>
    intro md t ln o h
    cases md <;> rw [lex] at h <;> first | (cases h; done) | (obtain rfl := (Option.some.inj h).symm; simp)
  | cons c l ih =>
    intro md t ln o h
    cases md <;> rw [lex] at h
    case nn => cases h
    case sp =>
      (repeat' split at h) <;> first | (cases h; done) | (have := ih _ _ _ _ h; simp only [List.length_cons, List.length_nil] at this ⊢; omega)
    case wd =>
      (repeat' split at h) <;> first | (cases h; done) | (obtain rfl := (Option.some.inj h).symm; simp only [List.length_cons]; omega) | (have := ih _ _ _ _ h; simp only [List.length_cons, List.length_append, List.length_nil] at this ⊢; omega)
    case pn =>
      (repeat' split at h) <;> first | (cases h; done) | (obtain rfl := (Option.some.inj h).symm; simp only [List.length_cons]; omega) | (have := ih _ _ _ _ h; simp only [List.length_cons, List.length_append, List.length_nil] at this ⊢; omega)
    case qt q =>
      (repeat' split at h) <;> first | (cases h; done) | (obtain rfl := (Option.some.inj h).symm; simp only [List.length_cons, List.length_append, List.length_nil]; omega) | (have := ih _ _ _ _ h; simp only [List.length_cons, List.length_append, List.length_nil] at this ⊢; omega)
theorem slice_1 (l : List Nat) : Txt.slice (tx l) none (some 1) = tx (l.take 1) := by
  cases l with
  | nil => decide +kernel
  | cons c r => rw [slice_to (by rw [tx_len, List.length_cons]; omega)]; rfl
theorem slice_r1 (l : List Nat) (h : 1 ≤ l.length) : Txt.slice (tx l) (some 1) none = tx (l.drop 1) := by
  rw [slice_from (by rw [tx_len]; omega)]; rfl
theorem signs_any (l : List Nat) : ([Str.ofString "<", Str.ofString ">", Str.ofString "/", Str.ofString "="].any fun x => x == Txt.slice (tx l) none (some 1)) = decide (l.any (fun _ => true) ∧ ∀ c ∈ l.take 1, c ∈ punL) := by
  rw [slice_1]
  have e1 : Str.ofString "<" = tx [60] := by decide +kernel
  have e2 : Str.ofString ">" = tx [62] := by decide +kernel
  have e3 : Str.ofString "/" = tx [47] := by decide +kernel
  have e4 : Str.ofString "=" = tx [61] := by decide +kernel
  rw [e1, e2, e3, e4]
  cases l with
  | nil => decide +kernel
  | cons c r =>
    have e5 : (decide (((c :: r).any fun _ => true) = true ∧ ∀ x ∈ (c :: r).take 1, x ∈ punL)) = decide (c ∈ punL) := by
      rw [decide_eq_decide]
      constructor
      · intro h; exact h.2 c (.head _)
      · intro h; refine ⟨rfl, fun x hx => ?_⟩; rcases List.mem_cons.mp hx with rfl | hx
        · exact h
        · exact absurd hx (by simp)
    rw [e5]
    show (tx [60] == tx [c] || (tx [62] == tx [c] || (tx [47] == tx [c] || (tx [61] == tx [c] || false)))) = _
    rw [beq_one, beq_one, beq_one, beq_one, Bool.or_false]
    by_cases h1 : c = 60
    · subst h1; decide
    by_cases h2 : c = 62
    · subst h2; decide
    by_cases h3 : c = 47
    · subst h3; decide
    by_cases h4 : c = 61
    · subst h4; decide
    rw [decide_eq_false (Ne.symm h1), decide_eq_false (Ne.symm h2), decide_eq_false (Ne.symm h3), decide_eq_false (Ne.symm h4), decide_eq_false (by simp [punL, h1, h2, h3, h4])]
    rfl
section
variable {w : World} {hh : Option Value} {dp un : Nat} {gd : Option (List Code)} {A₀ : Around} {base h₀ : Heap} {L : Addr} {m : Str → Option Value} {s : Shared} {p : Program} {loose : List Str} {mean : ExcName → Option Value} {mg mb : Str → Option Value} {env : Env} {outer : List Env} {Q E : Value → Shared → Prop} {news : List (Addr × Obj)}
variable {a : LA} {k1 k3 ln : Int} {ts tl tk tc u6 tb : Tok} {pos : Nat} {back : Option (List Nat)} {pb : Option Nat} {rest : List Nat} {fin : Bool} {o : SOut}
theorem sgn_ct (nd : a.Nd) (B : Below A₀ base outer h₀) (F : Fr h₀ L s.heap m) (X : (Mine.KK w.params).In h₀)
  (N : News h₀ L s.heap news) (hs : ∀ q ∈ a.led7 w (mdV ts (finMd fin)) (.int ln tl) (.str "" tk) pos u6 k1 k3 (bkv tb back) (pbv tc pb), q ∈ news)
  (T : Top p loose mean mg mb h₀) (hf : env.frame = some L) (hke : env.scope.kind = .function) (hd : dp + 16 < 1000) (hsz : a.page.length ≤ 1048576)
  (I : Inp a.page pb pos (pb.toList ++ rest)) (hb : ∀ t, back = some t → t.length ≤ 2000000) (hl : sgn back pb rest ln fin = some o)
  (hQ : ∀ h' k' (ts tl tk tc u6 tr tb : Tok) (pos : Nat) (k1 k3 : Int), Inp a.page o.pb pos (o.pb.toList ++ o.rest) → (∀ t, o.back = some t → t.length ≤ 2000000) → Fr h₀ L h' m →
    (∀ news', Rw (a.us4 w (mdV ts (finMd o.fin)) (.int o.ln tl) (.str "" tk) pos u6 k1 k3 (bkv tb o.back) (pbv tc o.pb)) news news' → News h₀ L h' news') → Q (.str (tx o.sign) tr) { s with heap := h', toks := k' }) :
  wpAny (model PG w) (Around.mk hh dp (some (env :: outer)) gd un) (call (.ref 786) [.ref a.x] []) Q E s := by
  unfold sgn at hl
  obtain ⟨r, hr, hl⟩ := Option.map_eq_some_iff.mp hl
  have hrl : r.tok.length ≤ 2000000 := by
    cases hbk : back with
    | some t => rw [hbk] at hr; obtain rfl := Option.some.inj hr; exact hb t hbk
    | none =>
      rw [hbk] at hr
      have h1 := lex_len _ _ _ _ _ hr
      have h2 := inp_len I
      rw [List.length_nil] at h1
      omega
  have hrl' : (tx r.tok).length ≤ 3000000 := by rw [tx_len]; omega
  by_cases hc : r.tok.any (fun _ => true) = true ∧ ∀ c ∈ r.tok.take 1, c ∈ punL
  · have hin := (signs_any r.tok).trans (decide_eq_true hc)
    by_cases h2 : 2 ≤ r.tok.length
    · rw [if_pos ⟨hc.1, hc.2, h2⟩] at hl
      subst hl
      refine sg_c nd B F X N hs T hf hke hd hsz I hr hrl' hin (by rw [tx_len]; exact h2) fun h' k' ts tl tk tc u6 tr tb pos k1 k3 I' F' HN => hQ h' k' ts tl tk tc u6 tr tb pos k1 k3 I' (fun t e => ?_) F' ?_
      · obtain rfl := Option.some.inj e
        rw [List.length_drop]; omega
      · rw [slice_r1 _ (by omega)] at HN
        exact HN
    · rw [if_neg (fun q => h2 q.2.2)] at hl
      subst hl
      refine sg_b nd B F X N hs T hf hke hd hsz I hr hrl' hin ?_ fun h' k' ts tl tk tc u6 tr tb pos k1 k3 I' F' HN => hQ h' k' ts tl tk tc u6 tr tb pos k1 k3 I' (fun t e => nomatch e) F' HN
      rw [tx_len]
      have h3 := hc.1
      cases hq : r.tok with
      | nil => rw [hq] at h3; cases h3
      | cons c l => rw [hq] at h2; simp only [List.length_cons] at h2 ⊢; omega
  · have hin := (signs_any r.tok).trans (decide_eq_false hc)
    rw [if_neg (fun q => hc ⟨q.1, q.2.1⟩)] at hl
    subst hl
    exact sg_a nd B F X N hs T hf hke hd hsz I hr hrl' hin fun h' k' ts tl tk tc u6 tr tb pos k1 k3 I' F' HN => hQ h' k' ts tl tk tc u6 tr tb pos k1 k3 I' (fun t e => nomatch e) F' HN
end
end Mine
end
-- part It
section
namespace Mine
noncomputable abbrev enS (w : World) (x : Str) (t : Tok) (v : Value) : DictEntry := ⟨hashStr w x, .str x t, v⟩
noncomputable def AllS (w : World) (es : List DictEntry) : Prop := ∀ e ∈ es, ∃ x t, e.key = .str x t ∧ e.hash = hashStr w x
noncomputable def Miss (x : Str) (es : List DictEntry) : Prop := ∀ e ∈ es, Value.isStrOf x e.key = false
section
variable {prog : Program} {w : World} {A : Around} {E : Value → Shared → Prop} {s : Shared} {it d : Addr} {es : List DictEntry} {n i : Nat} {ok ov : Value} {e : DictEntry}
theorem AllS.keys (h : AllS w es) : KeysOf (PySem.strKind prog w) es.toArray := fun e he => by
  obtain ⟨x, t, h1, h2⟩ := h e (List.mem_toArray.mp he)
  exact ⟨x, by rw [h1]; simp [PySem.strKind, Value.isStrOf], h2⟩
set_option maxHeartbeats 1000000 in
theorem items_next {Q : Option Value → Shared → Prop} (hit : IsItemIter s.heap it d i es.length n ok ov) (hd : s.heap.get? d = some (dictOf es n)) (he : es[i]? = some e)
    (hQ : ∀ h', IsItemIterOut h' it d (i + 1) es.length n e.key e.val s.heap.objs.size → h'.get? s.heap.objs.size = some { cls := .type "tuple", data := .seq #[e.key, e.val] } → h'.objs.size = s.heap.objs.size + 1 →
      (∀ b o, b ≠ it → s.heap.get? b = some o → h'.get? b = some o) → Q (some (.ref s.heap.objs.size)) { s with heap := h' }) :
    wpAny (model prog w) A (pyNext (.ref it)) Q E s := by
  obtain ⟨hp, g, dr, tk, os⟩ := s
  have hT : Shared.TypeIs ⟨hp, g, dr, tk, os⟩ (.ref it) "dict_itemiterator" := ⟨_, hit, rfl⟩
  unfold pyNext
  refine wpAny_bind (wpAny_attempt (wpAny_callSpecial?_slot (name := Str.ofString "__next__") hT F.slot_dict_itemiterator_next
    (wpAny_call_entry F.slot_dict_itemiterator_next hT F.entry_dict_itemiterator_next ?_ (F.args_dict_itemiterator_next_1 _))))
  refine wpAny_bind (wpAny_pure ?_)
  refine wpAny_bind ?_
  refine wpAny_bind ?_
  first | refine wpAny_bind (wpAny_typeNameOfWhole_itemiter hT (wpAny_pure ?_)) | refine wpAny_bind (wpAny_typeNameOf_itemiter hT (wpAny_pure ?_))
  refine wpAny_bind (wpAny_fieldsOf hit rfl ?_)
  have hown : Builtin.Dict_items.ownsTuple "dict_itemiterator" = true := by decide
  rw [hown, if_pos rfl]
  show wpAny _ _ (if (Value.ref d == Value.none) = true then _ else _) _ _ _
  rw [if_neg (show ¬ ((Value.ref d == Value.none) = true) from Bool.false_ne_true)]
  refine wpAny_bind (wpAny_pure ?_)
  refine wpAny_bind (wpAny_dictEntries hd rfl ?_)
  rw [if_neg (by simp)]
  refine wpAny_bind (wpAny_pure ?_)
  refine wpAny_bind (wpAny_dictEpoch hd rfl ?_)
  rw [if_neg (by simp)]
  refine wpAny_pure ?_
  have he' : es.toArray[i]? = some e := by simpa using he
  dsimp only
  rw [if_neg (show ¬ ((i : Int) < 0) from by omega), Int.toNat_natCast, he']
  dsimp only
  refine wpAny_bind ?_
  first | refine wpAny_bind (wpAny_typeNameOfWhole_itemiter hT (wpAny_pure ?_)) | refine wpAny_bind (wpAny_typeNameOf_itemiter hT (wpAny_pure ?_))
  refine wpAny_bind (wpAny_isOneOf_itemiter hT ?_)
  show wpAny _ _ (setField (.ref it) 3 (rawInt ((i : Int) + 1)) >>= _) _ _ ⟨hp, g, dr, tk, os⟩
  refine wpAny_bind (wpAny_setField_rec hit (by simp) fun h₁ he₁ hs₁ => ?_)
  replace hs₁ : Heap.SameBut it hp h₁ := hs₁
  replace he₁ : IsItemIter h₁ it d (i + 1) es.length n ok ov := by
    have e : ((i + 1 : Nat) : Int) = (i : Int) + 1 := by omega
    unfold IsItemIter; rw [e]; simpa [rawInt] using he₁
  have hT₁ : Shared.TypeIs ⟨h₁, g, dr, tk, os⟩ (.ref it) "dict_itemiterator" := ⟨_, he₁, rfl⟩
  refine wpAny_bind (wpAny_holding ?_)
  refine wpAny_bind (wpAny_isOneOf_itemiter hT₁ ?_)
  refine wpAny_bind (wpAny_isOneOf_itemiter hT₁ ?_)
  show wpAny _ _ (Builtin.Dict_items.pairFromOwner (.ref it) 6 e.key e.val) _ _ ⟨h₁, g, dr, tk, os⟩
  unfold Builtin.Dict_items.pairFromOwner
  refine wpAny_bind (wpAny_newTuple ?_)
  have he₂ : IsItemIter (h₁.push { cls := .type "tuple", data := .seq #[e.key, e.val] }) it d (i + 1) es.length n ok ov := Heap.get?_push_of_some _ he₁
  generalize hh₂ : h₁.push { cls := .type "tuple", data := .seq #[e.key, e.val] } = h₂ at he₂
  have hz₁ : h₁.objs.size = hp.objs.size := hs₁.1
  have hil : it < hp.objs.size := Heap.lt_size hit
  have ht₂ : h₂.get? hp.objs.size = some { cls := .type "tuple", data := .seq #[e.key, e.val] } := by rw [← hh₂, ← hz₁]; exact Heap.get?_push_size _ rfl
  have hz₂ : h₂.objs.size = hp.objs.size + 1 := by rw [← hh₂, Heap.size_push, hz₁]
  have hk₂ : ∀ b o, b ≠ it → hp.get? b = some o → h₂.get? b = some o := fun b o hb e => by rw [← hh₂]; exact Heap.get?_push_of_some _ (hs₁.extBut b o hb e)
  show wpAny _ _ (Builtin.Dict_items.ownedTupleIsFree (.ref it) >>= _) _ _ ⟨h₂, g, dr, tk, os⟩
  rw [hz₁]
  clear hh₂ he₁ hs₁ hT₁ hz₁ h₁
  refine wpAny_bind ?_
  unfold Builtin.Dict_items.ownedTupleIsFree
  refine wpAny_bind (wpAny_field he₂ rfl (x := .none) rfl (wpAny_pure ?_))
  rw [if_pos rfl]
  refine wpAny_bind (wpAny_field he₂ rfl (x := ok) rfl ?_)
  refine wpAny_bind (wpAny_field he₂ rfl (x := ov) rfl ?_)
  refine wpAny_bind (wpAny_setField_rec he₂ (by simp) fun h₃ he₃ hs₃ => ?_)
  replace hs₃ : Heap.SameBut it h₂ h₃ := hs₃
  replace he₃ : IsItemIter h₃ it d (i + 1) es.length n e.key ov := he₃
  refine wpAny_bind (wpAny_setField_rec he₃ (by simp) fun h₄ he₄ hs₄ => ?_)
  replace hs₄ : Heap.SameBut it h₃ h₄ := hs₄
  replace he₄ : IsItemIter h₄ it d (i + 1) es.length n e.key e.val := he₄
  refine wpAny_bind (wpAny_setField_rec he₄ (by simp) fun h₅ he₅ hs₅ => ?_)
  replace hs₅ : Heap.SameBut it h₄ h₅ := hs₅
  replace he₅ : IsItemIterOut h₅ it d (i + 1) es.length n e.key e.val hp.objs.size := he₅
  refine wpAny_bind (wpAny_setField_rec he₅ (by simp) fun h₆ he₆ hs₆ => ?_)
  replace hs₆ : Heap.SameBut it h₅ h₆ := hs₆
  replace he₆ : IsItemIterOut h₆ it d (i + 1) es.length n e.key e.val hp.objs.size := he₆
  refine wpAny_bind (wpAny_letGo (wpAny_pure (wpAny_pure ⟨_, rfl, wpAny_pure (hQ h₆ he₆ ?_ ?_ ?_)⟩)))
  · exact hs₆.extBut _ _ (Nat.ne_of_gt hil) (hs₅.extBut _ _ (Nat.ne_of_gt hil) (hs₄.extBut _ _ (Nat.ne_of_gt hil) (hs₃.extBut _ _ (Nat.ne_of_gt hil) ht₂)))
  · show h₆.objs.size = hp.objs.size + 1
    rw [hs₆.1, hs₅.1, hs₄.1, hs₃.1, hz₂]
  · exact fun b o hb e => hs₆.extBut b o hb (hs₅.extBut b o hb (hs₄.extBut b o hb (hs₃.extBut b o hb (hk₂ b o hb e))))
theorem find_none {x : Str} {t : Tok} {Q : Option Nat → Shared → Prop} (hd : s.heap.get? d = some (dictOf es n)) (hk : AllS w es) (hm : Miss x es) (h : Q none s) :
    wpAny (model prog w) A (dictFind d (.str x t) (hashStr w x)) Q E s := by
  refine wpAny_dictFind_of (knd := PySem.strKind prog w) (k := x) (by simp [PySem.strKind, Value.isStrOf]) hd rfl (hk.keys) ?_
  have e : (es.toArray.findIdx? fun e => (PySem.strKind prog w).is x e.key) = none := Array.findIdx?_eq_none_iff.mpr fun e he => hm e (List.mem_toArray.mp he)
  rw [e]; exact h
theorem keys_new {x : Str} {t : Tok} {v : Value} {part : Option Value} {Q : Unit → Shared → Prop} (hd : s.heap.get? d = some (dictOf es n)) (hz : es.length ≤ 100)
    (hQ : ∀ h', h'.get? d = some (dictOf (es ++ [enS w x t v]) (n + 1)) → Heap.SameBut d s.heap h' → Q () { s with heap := h' }) :
    wpAny (model prog w) A (updateDictKeys d (·.push ⟨hashStr w x, .str x t, v⟩) part) Q E s := by
  have hz' : es.toArray.size ≤ sizeLine := by simp [sizeLine_eq]; omega
  refine wpAny_updateDictKeys (hz := hz') hd rfl (hQ _ ?_ (Heap.SameBut.update ..))
  refine (Heap.get?_update_self _ hd (Obj.isFreed_of_dict (Obj.data_mapDictKeys rfl _))).trans ?_
  simp [Obj.mapDictKeys]
theorem put_new {x : Str} {t : Tok} {v : Value} {Q : Unit → Shared → Prop} (hd : s.heap.get? d = some (dictOf es n)) (hk : AllS w es) (hm : Miss x es) (hz : es.length ≤ 100)
    (hQ : ∀ h', h'.get? d = some (dictOf (es ++ [enS w x t v]) (n + 1)) → Heap.SameBut d s.heap h' → Q () { s with heap := h' }) :
    wpAny (model prog w) A (dictPut d (hashStr w x) (.str x t) v) Q E s := by
  unfold dictPut
  exact wpAny_bind (find_none hd hk hm (keys_new hd hz hQ))
theorem set_new {x : Str} {t : Tok} {v : Value} {Q : Unit → Shared → Prop} (hd : s.heap.get? d = some (dictOf es n)) (hk : AllS w es) (hm : Miss x es) (hz : es.length ≤ 100)
    (hQ : ∀ h', h'.get? d = some (dictOf (es ++ [enS w x t v]) (n + 1)) → Heap.SameBut d s.heap h' → Q () { s with heap := h', toks := s.toks + 1 }) :
    wpAny (model prog w) A (dictSet d (.str x t) v) Q E s := by
  unfold dictSet
  try with_reducible refine wpAny_holding ?_
  refine wpAny_bind (wpAny_pyHash_str ?_)
  unfold dictSetHashed
  try with_reducible refine wpAny_holding ?_
  refine wpAny_bind (find_none (s := { s with toks := s.toks + 1 }) hd hk hm ?_)
  exact wpAny_bind (wpAny_rule (keys_new (s := { s with toks := s.toks + 1 }) hd hz hQ))
theorem AllS.snoc {x : Str} {t : Tok} {v : Value} (h : AllS w es) : AllS w (es ++ [enS w x t v]) := fun e he => by
  rcases List.mem_append.mp he with he | he
  · exact h e he
  · obtain rfl := List.mem_singleton.mp he; exact ⟨x, t, rfl, rfl⟩
theorem store_all : ∀ (ps : List (Str × Tok × Value)) (es : List DictEntry) (n : Nat) (s : Shared) (Q : PUnit → Shared → Prop), s.heap.get? d = some (dictOf es n) → AllS w es → (∀ p ∈ ps, Miss p.1 es) → (ps.map (·.1)).Nodup → es.length + ps.length ≤ 100 →
    (∀ h' tk, h'.get? d = some (dictOf (es ++ ps.map fun p => enS w p.1 p.2.1 p.2.2) (n + ps.length)) → Heap.SameBut d s.heap h' → Q PUnit.unit { s with heap := h', toks := tk }) →
    wpAny (model prog w) A (storeAll d (ps.map fun p => (.str p.1 p.2.1, p.2.2))) Q E s
  | [], es, n, s, Q, hd, _, _, _, _, hQ => by
    unfold storeAll
    rw [List.map_nil, List.forIn_nil]
    exact wpAny_pure (by simpa using hQ s.heap s.toks (by simpa using hd) (Heap.SameBut.refl _ _))
  | (x, t, v) :: ps, es, n, s, Q, hd, hk, hm, hn, hz, hQ => by
    unfold storeAll
    rw [List.map_cons, List.forIn_cons]
    rw [List.length_cons] at hz
    rw [List.map_cons, List.nodup_cons] at hn
    refine wpAny_bind (wpAny_bind (set_new hd hk (hm _ (.head _)) (by omega) fun h₁ hd₁ hs₁ => wpAny_pure ?_))
    refine store_all ps _ _ { s with heap := h₁, toks := s.toks + 1 } Q hd₁ hk.snoc (fun p hp e he => ?_) hn.2 (by simp; omega) fun h' tk hd' hs' => hQ h' tk (by simpa [Nat.add_assoc, Nat.add_comm 1] using hd') (hs₁.trans hs')
    rcases List.mem_append.mp he with he | he
    · exact hm p (.tail _ hp) e he
    · obtain rfl := List.mem_singleton.mp he
      have : x ≠ p.1 := fun q => hn.1 (by rw [q]; exact List.mem_map_of_mem (f := (·.1)) hp)
      simpa [Value.isStrOf] using fun q : x = p.1 => this q
end
end Mine
end
-- part It2
section
namespace Mine
noncomputable abbrev tupO (a b : Value) : Obj := { cls := .type "tuple", data := .seq #[a, b] }
theorem dictS {prog : Program} {w : World} (ps : List (Str × Tok × Str × Tok)) (n : Nat) (hn : (ps.map (·.1)).Nodup) :
  ∃ kvs, (dictOf (ps.map fun p => enS w p.1 p.2.1 (.str p.2.2.1 p.2.2.2)) n).IsDictOf (PySem.strKind prog w) kvs ∧ PyProof.V.FlatPairs PyData.str kvs (ps.map fun p => (.str p.1, .str p.2.2.1)) ∧
    kvs.length = ps.length ∧ ∀ (h : Heap) (d : Addr), h.get? d = some (dictOf (ps.map fun p => enS w p.1 p.2.1 (.str p.2.2.1 p.2.2.2)) n) → h.DictAt (PySem.strKind prog w) d kvs n := by
  have h1 : KeysOf (PySem.strKind prog w) (ps.map fun p => enS w p.1 p.2.1 (.str p.2.2.1 p.2.2.2)).toArray := AllS.keys fun e he => by obtain ⟨p, _, rfl⟩ := List.mem_map.mp he; exact ⟨_, _, rfl, rfl⟩
  have h2 : Pairs (PySem.strKind prog w) (ps.map fun p => enS w p.1 p.2.1 (.str p.2.2.1 p.2.2.2)) (ps.map fun p => (p.1, .str p.2.2.1 p.2.2.2)) := by
    clear hn h1
    induction ps with
    | nil => exact .nil
    | cons p ps ih => exact .cons (by simp [PySem.strKind, Value.isStrOf]) rfl ih
  have h3 : ((ps.map fun p => (p.1, Value.str p.2.2.1 p.2.2.2)).map (·.1)).Nodup := by simpa [Function.comp_def] using hn
  refine ⟨ps.map fun p => (p.1, .str p.2.2.1 p.2.2.2), ⟨_, n, ⟨rfl, rfl, rfl⟩, rfl, h1, h2, h3⟩, ?_, by simp, fun h d hd => ⟨_, _, hd, ⟨rfl, rfl, rfl⟩, rfl, h1, h2, h3⟩⟩
  clear hn h1 h2 h3
  induction ps with
  | nil => exact .nil
  | cons p ps ih => exact .cons (.str _ _) ih
section
variable {prog : Program} {w : World} {A : Around} {E : Value → Shared → Prop} {s : Shared} {env : Env} {h₀ : Heap} {body : List Stmt} {Q : Flow → Shared → Prop} {es : List DictEntry} {n : Nat} {kvs : List (Str × Value)}
theorem items_turns {elts : List PySem.Expr} {kk : Nat} {pos : Pos} (hh : A.handled = none) (I d : Addr) (hne : d ≠ I) (hat : ∀ h : Heap, h.get? d = some (dictOf es n) → h.DictAt (PySem.strKind prog w) d kvs n) (hl : kvs.length = es.length) :
    KTurns prog w A (.Tuple elts kk pos) I [I, d] [I] es.length
      (fun i v h => ∃ T e, v = .ref T ∧ es[i]? = some e ∧ h.get? T = some (tupO e.key e.val))
      (fun i v h => ∃ T e ok ov, v = .ref T ∧ es[i]? = some e ∧ h.get? T = some (tupO e.key e.val) ∧ IsItemIterOut h I d (i + 1) es.length n ok ov T ∧ h.get? d = some (dictOf es n) ∧ T ≠ I)
      (fun i h => (∃ ok ov, IsItemIter h I d i es.length n ok ov) ∧ h.get? d = some (dictOf es n)) where
  sub := fun b hb => by simp at hb; simp [hb]
  frame := fun i h h' st hk => by
    obtain ⟨⟨ok, ov, he⟩, hm⟩ := st
    exact ⟨⟨ok, ov, hk I (by simp) _ he⟩, hk d (by simp) _ hm⟩
  item := fun i s Q E hi st hQ => by
    obtain ⟨⟨ok, ov, he⟩, hm⟩ := st
    refine items_next he hm (List.getElem?_eq_getElem hi) fun h' ho hT hsz hk => ?_
    exact hQ (.ref s.heap.objs.size) h' s.toks ⟨s.heap.objs.size, _, _, _, rfl, List.getElem?_eq_getElem hi, hT, ho, hk d _ hne hm, Nat.ne_of_gt (Heap.lt_size he)⟩ fun b o hb e => hk b o (fun h => hb (by simp [h])) e
  go := fun i v s Q E hm hQ => by
    obtain ⟨T, e, ok, ov, rfl, hx, hT, ho, hd, hTI⟩ := hm
    refine wpAny_letOwnedTupleGo_items ho fun h' he hs => ?_
    exact hQ h' ⟨T, e, rfl, hx, hs.extBut T _ hTI hT⟩ ⟨⟨ok, ov, he⟩, hs.extBut d _ hne hd⟩ fun b o hb e => hs.extBut b o (fun h => hb (by simp [h])) e
  done := fun s Q E st hQ => by
    obtain ⟨⟨ok, ov, he⟩, hm⟩ := st
    rw [← hl] at he
    exact wpAny_pyNext_items_end hh he (hat _ hm) (by simp [hl]) fun h' hx => hQ h' s.toks fun b o hb e => hx b o (fun h => hb (by simp [h])) e
theorem items_for {elts : List PySem.Expr} {kk : Nat} {pos : Pos} {d vw : Addr} {m₀ : Str → Option Value} {news : List (Addr × Obj)}
    (hh : A.handled = none) (F : Fr h₀ env.locals s.heap m₀) (N : News h₀ env.locals s.heap news) (hvw : ∃ ov, s.heap.get? vw = some ov ∧ ov.cls = .type "dict_items" ∧ ov.data = .fields #[.ref d])
    (hat : ∀ h : Heap, h.get? d = some (dictOf es n) → h.DictAt (PySem.strKind prog w) d kvs n) (hl : kvs.length = es.length) (hm : (d, dictOf es n) ∈ news) (J : Nat → (Str → Option Value) → Prop) (h0 : J 0 m₀)
    (step : ∀ i T I oi e m₁ h₁ tk₁, es[i]? = some e → J i m₁ → (∀ p ∈ news, p.1 < I) → Fr h₀ env.locals h₁ m₁ → News h₀ env.locals h₁ ((I, oi) :: news) → IsTup h₁ T #[e.key, e.val] →
      wpAny (model prog w) A (assign (.Tuple elts kk pos) env (.ref T)) (fun _ s₃ => wpAny (model prog w) A (execs body env)
        (fun f s₄ => f = .next ∧ ∃ h' tk m', s₄ = { s with heap := h', toks := tk } ∧ Fr h₀ env.locals h' m' ∧ News h₀ env.locals h' ((I, oi) :: news) ∧ J (i + 1) m') E s₃) E { s with heap := h₁, toks := tk₁ })
    (hQ : ∀ h' tk m', Fr h₀ env.locals h' m' → News h₀ env.locals h' news → J es.length m' → Q .next { s with heap := h', toks := tk }) :
    wpAny (model prog w) A (pyIter (.ref vw)) (fun it s₂ => TurnsAt prog w A h₀ env (.Tuple elts kk pos) body Q E it s₂) E s := by
  have hax := N _ hm
  have hdt := hat _ hax.1
  have hlt : d < s.heap.objs.size := Heap.lt_size hax.1
  have hne : d ≠ s.heap.objs.size := Nat.ne_of_lt hlt
  have hI0 : h₀.get? s.heap.objs.size = none := ktu_new F (Nat.le_refl _)
  have hout : ∀ p ∈ news, p.1 < s.heap.objs.size := fun p hp => Heap.lt_size (N p hp).1
  refine wpAny_pyIter_items hvw hdt ?_
  refine ⟨s.heap.objs.size, [s.heap.objs.size, d], [s.heap.objs.size], es.length, _, _, _, m₀, news, fun i m₁ n₁ => n₁ = news ∧ J i m₁, rfl, items_turns hh _ d hne hat hl, ?_, ?_, ?_, ?_, F.push _, fun p hp => ⟨Heap.get?_push_of_some _ (N p hp).1, (N p hp).2⟩, ⟨rfl, h0⟩, ?_, ?_⟩
  · intro hI
    have hb' : env.locals = s.heap.objs.size ∨ env.locals = d := by simpa using hI
    rcases hb' with e | e
    · exact absurd F.ns.lt (e ▸ Nat.lt_irrefl _)
    · exact hax.2.1 e.symm
  · intro b hb
    rw [List.mem_singleton.mp hb]; exact hI0
  · intro p hp hI
    exact absurd (hout p hp) ((List.mem_singleton.mp hI) ▸ Nat.lt_irrefl _)
  · exact ⟨⟨.none, .none, by rw [← hl]; exact Heap.get?_push_size _ rfl⟩, Heap.get?_push_of_some _ hax.1⟩
  · rintro i v m₁ news₁ h₁ tk₁ own hin ⟨T, e, rfl, he, hT⟩ ⟨rfl, hJ⟩ hnw hoff hown hall ⟨⟨ok, ov, hit⟩, hd1⟩ F₁ N₁
    have hi1 := hall s.heap.objs.size (by simp) hI0 _ hit
    have N₂ : News h₀ env.locals h₁ ((s.heap.objs.size, _) :: news₁) := fun p hp => by
      rcases List.mem_cons.mp hp with rfl | hp
      · exact N₁ _ (List.mem_append_left _ hi1)
      · exact N₁ _ (List.mem_append_right _ hp)
    refine wpAny_mono (step i T s.heap.objs.size _ e m₁ h₁ tk₁ he hJ hout F₁ N₂ ⟨_, hT, rfl, _, rfl⟩) (fun _ s₃ h₃ => wpAny_mono h₃ (fun f s₄ h₄ => ?_) fun _ _ e => e) fun _ _ e => e
    obtain ⟨rfl, h', tk, m', rfl, F', N', hJ'⟩ := h₄
    refine LoopStepV.next ⟨rfl, h', tk, m', news₁, rfl, F', fun p hp => ?_, hnw, rfl, hJ'⟩
    rcases List.mem_append.mp hp with hp | hp
    · have h2 := hown p hp
      rcases (by simpa using hoff p hp : p.1 = s.heap.objs.size ∨ p.1 = d) with e1 | e1
      · rw [e1, hit] at h2
        have := N' _ (List.mem_cons_self ..)
        rw [show p = (s.heap.objs.size, _) from Prod.ext e1 (Option.some.inj h2).symm]
        exact this
      · rw [e1, hd1] at h2
        rw [show p = (d, _) from Prod.ext e1 (Option.some.inj h2).symm]
        exact N' _ (List.mem_cons_of_mem _ hm)
    · exact N' _ (List.mem_cons_of_mem _ hp)
  · rintro h' tk m' news' F' N' _ ⟨rfl, hJ⟩
    exact hQ h' tk m' F' N' hJ
end
end Mine
end
-- part It3
section
namespace Mine
section
variable {prog : Program} {w : World} {A : Around} {E : Value → Shared → Prop} {s : Shared} {env : Env} {h₀ : Heap} {target : Expr} {body : List Stmt} {Q : Flow → Shared → Prop}
inductive StepOut (h₀ : Heap) (L : Addr) (s : Shared) (J : Nat → (Str → Option Value) → List (Addr × Obj) → Prop) (i : Nat) (I : Addr) (oi : Obj) (f : Flow) (s₄ : Shared) : Prop
  | mk (a : f = .next ∨ f = .cont) (h' : Heap) (tk : Nat) (m' : Str → Option Value) (news' : List (Addr × Obj)) (e : s₄ = { s with heap := h', toks := tk }) (b : Fr h₀ L h' m') (c : News h₀ L h' ((I, oi) :: news')) (d : ∀ p ∈ news', @Ne Nat p.1 I) (k : J (i + 1) m' news')
theorem list_for {ax : Addr} {vs : List Value} {m₀ : Str → Option Value} {news : List (Addr × Obj)}
    (hh : A.handled = none) (F : Fr h₀ env.locals s.heap m₀) (N : News h₀ env.locals s.heap news) (hg : h₀.IsList ax vs.toArray) (J : Nat → (Str → Option Value) → List (Addr × Obj) → Prop) (h0 : J 0 m₀ news)
    (step : ∀ i v I oi m₁ news₁ h₁ tk₁ (R : Flow → Shared → Prop), vs[i]? = some v → J i m₁ news₁ → (∀ p ∈ news₁, @Ne Nat p.1 I) →
      (∀ f h' tk m' news', (f = .next ∨ f = .cont) → Fr h₀ env.locals h' m' → News h₀ env.locals h' ((I, oi) :: news') → (∀ p ∈ news', @Ne Nat p.1 I) → J (i + 1) m' news' → R f { s with heap := h', toks := tk }) →
      Fr h₀ env.locals h₁ m₁ → News h₀ env.locals h₁ ((I, oi) :: news₁) →
      wpAny (model prog w) A (assign target env v) (fun _ s₃ => wpAny (model prog w) A (execs body env) R E s₃) E { s with heap := h₁, toks := tk₁ })
    (hQ : ∀ h' tk m' news', Fr h₀ env.locals h' m' → News h₀ env.locals h' news' → J vs.length m' news' → Q .next { s with heap := h', toks := tk }) :
    wpAny (model prog w) A (pyIter (.ref ax)) (fun it s₂ => TurnsAt prog w A h₀ env target body Q E it s₂) E s := by
  have hl : s.heap.IsList ax vs.toArray := let ⟨o, e, r⟩ := hg; ⟨o, F.keep _ _ e, r⟩
  have hlt : ax < s.heap.objs.size := by obtain ⟨_, e, _⟩ := hl; exact Heap.lt_size e
  have hne : ax ≠ s.heap.objs.size := Nat.ne_of_lt hlt
  have hI0 : h₀.get? s.heap.objs.size = none := ktu_new F (Nat.le_refl _)
  have hout : ∀ p ∈ news, p.1 < s.heap.objs.size := fun p hp => Heap.lt_size (N p hp).1
  have haxL : env.locals ≠ ax := by
    intro e
    obtain ⟨o, e1, _⟩ := hg
    have := Heap.lt_size e1
    exact absurd (Nat.lt_of_lt_of_le this F.above) (by rw [e]; exact Nat.lt_irrefl _)
  refine wpAny_pyIter_list hl ?_
  refine ⟨s.heap.objs.size, [s.heap.objs.size, ax], [s.heap.objs.size], vs.length, _, _, _, m₀, news, fun i m₁ n₁ => (∀ p ∈ n₁, @Ne Nat p.1 s.heap.objs.size) ∧ J i m₁ n₁, rfl,
    by have W := KTurns.ofWalks (target := target) (Walks.list (prog := prog) (w := w) hh s.heap.objs.size ax hne vs.toArray) fun i v s Q E st q => letGo_listiter st.1 q
       rw [List.size_toArray] at W; exact W, ?_, ?_, ?_, ?_, F.push _, fun p hp => ⟨Heap.get?_push_of_some _ (N p hp).1, (N p hp).2⟩, ⟨fun p hp => Nat.ne_of_lt (hout p hp), h0⟩, ?_, ?_⟩
  · intro hI
    have hb' : env.locals = s.heap.objs.size ∨ env.locals = ax := by simpa using hI
    rcases hb' with e | e
    · exact absurd F.ns.lt (e ▸ Nat.lt_irrefl _)
    · exact haxL e
  · intro b hb
    rw [List.mem_singleton.mp hb]; exact hI0
  · intro p hp hI
    exact absurd (hout p hp) ((List.mem_singleton.mp hI) ▸ Nat.lt_irrefl _)
  · exact ⟨⟨_, Heap.get?_push_size _ rfl, rfl, rfl⟩, hl.push _⟩
  · rintro i v m₁ news₁ h₁ tk₁ own hin hv ⟨hoI, hJ⟩ hnw hoff hown hall ⟨⟨oi, hit, hcl⟩, hl1⟩ F₁ N₁
    have hi1 := hall s.heap.objs.size (by simp) hI0 _ hit
    have N₂ : News h₀ env.locals h₁ ((s.heap.objs.size, oi) :: news₁) := fun p hp => by
      rcases List.mem_cons.mp hp with rfl | hp
      · exact N₁ _ (List.mem_append_left _ hi1)
      · exact N₁ _ (List.mem_append_right _ hp)
    refine wpAny_mono (step i v s.heap.objs.size oi m₁ news₁ h₁ tk₁ (fun f s₄ => StepOut h₀ env.locals s J i s.heap.objs.size oi f s₄) (by simpa using hv) hJ hoI (fun f h' tk m' news' a b c d e => ⟨a, h', tk, m', news', rfl, b, c, d, e⟩) F₁ N₂) (fun _ s₃ h₃ => wpAny_mono h₃ (fun f s₄ h₄ => ?_) fun _ _ e => e) fun _ _ e => e
    obtain ⟨hf, h', tk, m', news', rfl, F', N', hoI', hJ'⟩ := h₄
    have fin : LoopStepU h₀ env.locals [s.heap.objs.size] own (fun m₁ n₁ => (∀ p ∈ n₁, @Ne Nat p.1 s.heap.objs.size) ∧ J (i + 1) m₁ n₁) { s with heap := h₁, toks := tk₁ } .next { s with heap := h', toks := tk } := by
      refine ⟨rfl, h', tk, m', news', rfl, F', fun p hp => ?_, fun p hp q => hoI' p hp (List.mem_singleton.mp q), hoI', hJ'⟩
      rcases List.mem_append.mp hp with hp | hp
      · have h2 := hown p hp
        rcases (by simpa using hoff p hp : p.1 = s.heap.objs.size ∨ p.1 = ax) with e1 | e1
        · have h3 : some oi = some p.2 := hit.symm.trans ((congrArg h₁.get? e1).symm.trans h2)
          have := N' _ (List.mem_cons_self ..)
          rw [show p = (s.heap.objs.size, oi) from Prod.ext e1 (Option.some.inj h3).symm]
          exact this
        · obtain ⟨o, e2, _⟩ := hg
          have := (N₁ p (List.mem_append_left _ hp)).2.2
          rw [e1, e2] at this; cases this
      · exact N' _ (List.mem_cons_of_mem _ hp)
    rcases hf with rfl | rfl
    · exact LoopStepV.next fin
    · exact LoopStepV.cont fin
  · rintro h' tk m' news' F' N' _ ⟨_, hJ⟩
    exact hQ h' tk m' news' F' N' hJ
end
end Mine
end
-- part Dr
section
namespace Mine
noncomputable def rpl (x : Str) (ps : List (Str × Tok × Str × Tok)) : Str := ps.foldl (fun x p => Txt.replace x p.1 p.2.2.1) x
theorem rpl_snoc (x : Str) (ps : List (Str × Tok × Str × Tok)) (i : Nat) (p : Str × Tok × Str × Tok) (h : ps[i]? = some p) : rpl x (ps.take (i + 1)) = Txt.replace (rpl x (ps.take i)) p.1 p.2.2.1 := by
  unfold rpl
  rw [List.take_add_one, h, List.foldl_append]
  rfl
noncomputable abbrev drLoc (D : Addr) (x : Str) (t : Tok) (kv vv : Option Value) : Str → Option Value := fun y =>
  if y = "s" then some (.str x t) else if y = "key" then kv else if y = "value" then vv else if y = "d" then some (.ref D) else none
theorem drLoc_start (D : Addr) (x : Str) (t : Tok) : (fun y => List.lookup y [(Str.ofString "s", Value.str x t), (Str.ofString "d", Value.ref D)].reverse) = drLoc D x t none none := by
  funext y
  by_cases h1 : y = Str.ofString "s"
  · subst h1; rfl
  · by_cases h2 : y = Str.ofString "d"
    · subst h2; rfl
    · have h3 : (y == Str.ofString "s") = false := by simpa using h1
      have h4 : (y == Str.ofString "d") = false := by simpa using h2
      simp only [drLoc, if_neg h1, if_neg h2, List.reverse_cons, List.reverse_nil, List.nil_append, List.cons_append, List.lookup, h3, h4]
      split <;> (try rfl); split <;> rfl
theorem drLoc_step (D : Addr) (x x' : Str) (t t' : Tok) (kv vv kv' vv' : Option Value) : (fun y => if y = Str.ofString "s" then some (Value.str x' t') else if y = Str.ofString "value" then vv' else if y = Str.ofString "key" then kv' else drLoc D x t kv vv y) = drLoc D x' t' kv' vv' := by
  funext y
  by_cases h1 : y = Str.ofString "s"
  · simp only [drLoc, if_pos h1]
  · by_cases h2 : y = Str.ofString "key"
    · subst h2; rfl
    · by_cases h3 : y = Str.ofString "value"
      · subst h3; rfl
      · simp only [drLoc, if_neg h1, if_neg h2, if_neg h3]
theorem dict_truthy {prog : Program} {w : World} {A : Around} {E : Value → Shared → Prop} {s : Shared} {h₀ : Heap} {L : Addr} {news : List (Addr × Obj)} {D : Addr} {ps : List (Str × Tok × Str × Tok)} {n : Nat} {Q : Bool → Shared → Prop}
    (N : News h₀ L s.heap news) (hm : (D, dictOf (ps.map fun p => enS w p.1 p.2.1 (.str p.2.2.1 p.2.2.2)) n) ∈ news) (hlo : (D == sysModules) = false) (hn : (ps.map (·.1)).Nodup) (hl : ps.length ≤ 100) (hne : (ps.length == 0) = false)
    (h : ∀ k, Q true { s with toks := k }) : wpAny (model prog w) A (truthy (.ref D)) Q E s := by
  obtain ⟨kvs, hID, hFP, hkl, hat⟩ := dictS (prog := prog) (w := w) ps n hn
  refine wpAny_truthy_dict hlo (Heap.dictOf_iff.mpr ⟨_, (N _ hm).1, hID⟩) (by omega) ?_
  have e : (!kvs.isEmpty) = true := by
    cases kvs with
    | nil => rw [← hkl] at hne; exact absurd hne (by decide)
    | cons => rfl
  rw [e]
  exact h _
section
variable {w : World} {dp un : Nat} {gd : Option (List Code)} {A₀ : Around} {base h₀ : Heap} {L : Addr} {m : Str → Option Value} {s : Shared} {p : Program} {loose : List Str} {mean : ExcName → Option Value} {mg mb : Str → Option Value} {env : Env} {outer : List Env} {Q E : Value → Shared → Prop} {news : List (Addr × Obj)}
theorem dr_ct {D : Addr} {x : Str} {t : Tok} {ps : List (Str × Tok × Str × Tok)} {n : Nat} (B : Below A₀ base outer h₀) (F : Fr h₀ L s.heap m) (X : (Mine.KK w.params).In h₀)
  (N : News h₀ L s.heap news) (hs : ∀ q ∈ [(D, dictOf (ps.map fun p => enS w p.1 p.2.1 (.str p.2.2.1 p.2.2.2)) n)], q ∈ news)
  (T : Top p loose mean mg mb h₀) (hf : env.frame = some L) (hke : env.scope.kind = .function) (hd : dp + 14 < 1000) (hn : (ps.map (·.1)).Nodup) (hlo : (D == sysModules) = false)
  (hok : ∀ p ∈ ps, p.2.1 ≠ 0 ∧ p.2.2.2 ≠ 0 ∧ p.2.1 ≠ p.2.2.2 ∧ (p.1 == p.2.2.1) = false ∧ p.2.2.1.length ≤ 14) (hlen : ∀ i, (rpl x (ps.take i)).length ≤ 1048576)
  (hQ : ∀ h' k' tr, Fr h₀ L h' m → News h₀ L h' news → Q (.str (rpl x ps) tr) { s with heap := h', toks := k' }) :
  wpAny (model PG w) (Around.mk none dp (some (env :: outer)) gd un) (call (.ref 46) [.str x t, .ref D] []) Q E s := by
  refine wpAny_call ?_
  refine' call_small B F X N hs T rfl hf hke ?k6 ?k7 ?k8 ?k9 ?kB ?_ ?c2 ?c3 ?c4 ?c5
  (case k6 => k_is)
  (case k7 => k_is)
  (case k8 => (show dp < 1000); omega)
  (case k9 => exact BindsTo.of_eq rfl)
  (case kB => exact locs rfl)
  (case c2 => exact rfl)
  (case c3 => exact rfl)
  (case c4 => exact rfl)
  (case c5 => decide)
  intro g L' h₁ F' N' B' X' T' kg
  (try k_fold)
  have N0 := fun (_ : Unit) => N
  clear N
  (try k_fold)
  replace F' : Fr g L' h₁ (drLoc D x t none none) := drLoc_start D x t ▸ F'
  obtain ⟨kvs, hID, hFP, hkl, hat⟩ := dictS (prog := PG) (w := w) ps n hn
  (first | walk_at "one step")
  refine For_turns F' ?_ (by intro _; rfl) ?hE
  case hE => passes_own
  iterate 3 (first | walk_at "one step")
  repeat ((fail_if_success (with_reducible show wpAny _ _ (pyIter _) _ _ _)); (first | walk_at "one step"))
  rename Fr _ _ _ _ => F2
  rename News _ _ _ _ => N2
  clear hID hFP
  refine' items_for rfl F2 N2 ⟨_, (N2 _ (.head _)).1, rfl, rfl⟩ (fun h => hat h D) (by rw [hkl, List.length_map]) (.tail _ (.head _)) (fun i m₁ => ∃ t kv vv, m₁ = drLoc D (rpl x (ps.take i)) t kv vv) ⟨_, _, _, rfl⟩ ?step ?fin
  case step =>
    intro i T I oi e m₁ h₁ tk₁ he hJ hlt F1 N1 hT
    rw [List.getElem?_map] at he
    obtain ⟨q, hq, rfl⟩ := Option.map_eq_some_iff.mp he
    obtain ⟨t1, kv, vv, rfl⟩ := hJ
    obtain ⟨q1, q2, q3, q4⟩ := q
    obtain ⟨o1, o2, o3, o4, o5⟩ := hok _ (List.mem_of_getElem? hq)
    have hL := hlen i
    have hS := rpl_snoc x ps i _ hq
    dsimp only at o1 o2 o3 o4 o5 hS hT
    clear F2 N2 he
    repeat ((fail_if_success (with_reducible show And _ _)); (first | walk_at "one step"))
    refine' ⟨(by first | rfl | trivial), _, _, _, rfl, ?stF, ?stN, ?stJ⟩
    case stF => assumption
    case stN => assumption
    case stJ =>
      exact ⟨_, _, _, by rw [hS]; exact drLoc_step ..⟩
  case fin =>
    intro h2 tk2 m2 F3 N3 hJ
    obtain ⟨t1, kv, vv, rfl⟩ := hJ
    rw [List.length_map, List.take_length] at F3
    clear F2 N2
    dsimp only
    k_steps
    refine' hQ _ _ _ ?hF ?hN
    (case hF => assumption)
    (case hN =>
      refine' news_rw (us := []) (N0 ()) kg ?F ?N hs ?hu ?hk (Rw.same ?_)
      (case F => assumption)
      (case N => assumption)
      (case hu => exact List.forall_mem_nil _)
      (case hk => exact List.forall_mem_cons.mpr ⟨.inr (by k_mem), List.forall_mem_nil _⟩)
      (exact fun _ _ u hu => nomatch hu))
end
end Mine
end
-- part Esc
section
namespace Mine
noncomputable abbrev amp (x : Str) : Str := Txt.replace (Txt.replace (Txt.replace x (Str.ofString "&") (Str.ofString "&amp;")) (Str.ofString ">") (Str.ofString "&gt;")) (Str.ofString "<") (Str.ofString "&lt;")
noncomputable abbrev deamp (x : Str) : Str := Txt.replace (Txt.replace x (Str.ofString "&lt;") (Str.ofString "<")) (Str.ofString "&gt;") (Str.ofString ">")
section
variable {w : World} {dp un : Nat} {gd : Option (List Code)} {A₀ : Around} {base h₀ : Heap} {L : Addr} {m : Str → Option Value} {s : Shared} {p : Program} {loose : List Str} {mean : ExcName → Option Value} {mg mb : Str → Option Value} {env : Env} {outer : List Env} {Q E : Value → Shared → Prop} {news : List (Addr × Obj)}
theorem esc_ct {D : Addr} {x : Str} {t : Tok} {ps : List (Str × Tok × Str × Tok)} {n : Nat} (B : Below A₀ base outer h₀) (F : Fr h₀ L s.heap m) (X : (Mine.KK w.params).In h₀)
  (N : News h₀ L s.heap news) (hs : ∀ q ∈ [(D, dictOf (ps.map fun p => enS w p.1 p.2.1 (.str p.2.2.1 p.2.2.2)) n)], q ∈ news)
  (T : Top p loose mean mg mb h₀) (hf : env.frame = some L) (hke : env.scope.kind = .function) (hd : dp + 15 < 1000) (hn : (ps.map (·.1)).Nodup) (hlo : (D == sysModules) = false) (hne : (ps.length == 0) = false) (hle : ps.length ≤ 100) (hk0 : 1 ≤ s.toks)
  (hok : ∀ p ∈ ps, p.2.1 ≠ 0 ∧ p.2.2.2 ≠ 0 ∧ p.2.1 ≠ p.2.2.2 ∧ (p.1 == p.2.2.1) = false ∧ p.2.2.1.length ≤ 14) (hl0 : x.length ≤ 1048576) (hl1 : (Txt.replace x (Str.ofString "&") (Str.ofString "&amp;")).length ≤ 1048576)
  (hl2 : (Txt.replace (Txt.replace x (Str.ofString "&") (Str.ofString "&amp;")) (Str.ofString ">") (Str.ofString "&gt;")).length ≤ 1048576) (hlen : ∀ i, (rpl (amp x) (ps.take i)).length ≤ 1048576)
  (hQ : ∀ h' k' tr, Fr h₀ L h' m → News h₀ L h' news → Q (.str (rpl (amp x) ps) tr) { s with heap := h', toks := k' }) :
  wpAny (model PG w) (Around.mk none dp (some (env :: outer)) gd un) (call (.ref 55) [.str x t, .ref D] []) Q E s := by
  refine wpAny_call ?_
  refine' call_small B F X N hs T rfl hf hke ?k6 ?k7 ?k8 ?k9 ?kB ?_ ?c2 ?c3 ?c4 ?c5
  (case k6 => k_is)
  (case k7 => k_is)
  (case k8 => (show dp < 1000); omega)
  (case k9 => first | exact BindsTo.of_eq rfl | exact binds_K (by k_in) rfl (by k_is) rfl rfl rfl)
  (case kB => exact locs rfl)
  (case c2 => exact rfl)
  (case c3 => exact rfl)
  (case c4 => exact rfl)
  (case c5 => decide)
  intro g L' h₁ F' N' B' X' T' kg
  k_fold
  have N0 := fun (_ : Unit) => N
  clear N
  (try k_fold)
  obtain ⟨kvs, hID, hFP, hkl, hat⟩ := dictS (prog := PG) (w := w) ps n hn
  have hk1 : 1 ≤ s.toks + 2 := by omega
  refine execs_toks hk1 ?_
  repeat (first | ((with_reducible show ((1:Nat) ≤ Shared.toks _) → _); intro hTk; (try dsimp only at hTk ⊢)) | (first | (focus ((with_reducible show wpAny _ _ (PySem.truthy (Value.ref _)) _ _ _); k_dflt (refine' dict_truthy ?N ?m ?lo ?n ?l ?e ?_; (case N => k_asm); (case m => k_mem); (case lo | n | l | e => assumption); k_whole); intro kt')) | (focus ((with_reducible show wpAny _ _ (PySem.call (Value.ref _) _ _) _ _ _); k_dflt (refine' dr_ct ?B ?F ?X ?N ?hs ?T ?hf ?hke ?hd ?hn ?hlo ?hok ?hlen ?_; (case B | F | X | N | T => k_asm); (case hs => walk_at "all mem"); (case hf | hke => exact rfl); (case hd => walk_at "depth is"); (case hn | hlo | hok | hlen => assumption); k_whole; intro h' k' tr' F' N'))) | (focus ((with_reducible show wpAny _ _ (execs (List.nil) _) _ _ _); (with_reducible refine wpAny_execs_nil ?_))) | (focus ((with_reducible show wpAny _ _ (execs _ _) _ _ _); (refine' execs_toks ?etk ?_); (case etk => first | assumption | (dsimp only; omega)))) | walk_at "one step"))
  refine' hQ _ _ _ ?hF ?hN
  (case hF => assumption)
  (case hN =>
    refine' news_rw (us := []) (N0 ()) kg ?F ?N hs ?hu ?hk (Rw.same ?_)
    (case F => assumption)
    (case N => assumption)
    (case hu => exact List.forall_mem_nil _)
    (case hk => exact List.forall_mem_cons.mpr ⟨.inr (by k_mem), List.forall_mem_nil _⟩)
    (exact fun _ _ u hu => nomatch hu))
theorem une_ct {D : Addr} {x : Str} {t : Tok} {ps : List (Str × Tok × Str × Tok)} {n : Nat} (B : Below A₀ base outer h₀) (F : Fr h₀ L s.heap m) (X : (Mine.KK w.params).In h₀)
  (N : News h₀ L s.heap news) (hs : ∀ q ∈ [(D, dictOf (ps.map fun p => enS w p.1 p.2.1 (.str p.2.2.1 p.2.2.2)) n)], q ∈ news)
  (T : Top p loose mean mg mb h₀) (hf : env.frame = some L) (hke : env.scope.kind = .function) (hd : dp + 15 < 1000) (hn : (ps.map (·.1)).Nodup) (hlo : (D == sysModules) = false) (hne : (ps.length == 0) = false) (hle : ps.length ≤ 100) (hk0 : 1 ≤ s.toks)
  (hok : ∀ p ∈ ps, p.2.1 ≠ 0 ∧ p.2.2.2 ≠ 0 ∧ p.2.1 ≠ p.2.2.2 ∧ (p.1 == p.2.2.1) = false ∧ p.2.2.1.length ≤ 14) (hl0 : x.length ≤ 1048576) (hl1 : (Txt.replace x (Str.ofString "&lt;") (Str.ofString "<")).length ≤ 1048576)
  (hlen : ∀ i, (rpl (deamp x) (ps.take i)).length ≤ 1048576) (hl3 : (rpl (deamp x) ps).length ≤ 1048576)
  (hQ : ∀ h' k' tr, Fr h₀ L h' m → News h₀ L h' news → Q (.str (Txt.replace (rpl (deamp x) ps) (Str.ofString "&amp;") (Str.ofString "&")) tr) { s with heap := h', toks := k' }) :
  wpAny (model PG w) (Around.mk none dp (some (env :: outer)) gd un) (call (.ref 64) [.str x t, .ref D] []) Q E s := by
  refine wpAny_call ?_
  refine' call_small B F X N hs T rfl hf hke ?k6 ?k7 ?k8 ?k9 ?kB ?_ ?c2 ?c3 ?c4 ?c5
  (case k6 => k_is)
  (case k7 => k_is)
  (case k8 => (show dp < 1000); omega)
  (case k9 => first | exact BindsTo.of_eq rfl | exact binds_K (by k_in) rfl (by k_is) rfl rfl rfl)
  (case kB => exact locs rfl)
  (case c2 => exact rfl)
  (case c3 => exact rfl)
  (case c4 => exact rfl)
  (case c5 => decide)
  intro g L' h₁ F' N' B' X' T' kg
  k_fold
  have N0 := fun (_ : Unit) => N
  clear N
  (try k_fold)
  obtain ⟨kvs, hID, hFP, hkl, hat⟩ := dictS (prog := PG) (w := w) ps n hn
  have hk1 : 1 ≤ s.toks + 2 := by omega
  refine execs_toks hk1 ?_
  repeat (first | ((with_reducible show ((1:Nat) ≤ Shared.toks _) → _); intro hTk; (try dsimp only at hTk ⊢)) | (first | (focus ((with_reducible show wpAny _ _ (PySem.truthy (Value.ref _)) _ _ _); k_dflt (refine' dict_truthy ?N ?m ?lo ?n ?l ?e ?_; (case N => k_asm); (case m => k_mem); (case lo | n | l | e => assumption); k_whole); intro kt')) | (focus ((with_reducible show wpAny _ _ (PySem.call (Value.ref _) _ _) _ _ _); k_dflt (refine' dr_ct ?B ?F ?X ?N ?hs ?T ?hf ?hke ?hd ?hn ?hlo ?hok ?hlen ?_; (case B | F | X | N | T => k_asm); (case hs => walk_at "all mem"); (case hf | hke => exact rfl); (case hd => walk_at "depth is"); (case hn | hlo | hok | hlen => assumption); k_whole; intro h' k' tr' F' N'))) | (focus ((with_reducible show wpAny _ _ (execs (List.nil) _) _ _ _); (with_reducible refine wpAny_execs_nil ?_))) | (focus ((with_reducible show wpAny _ _ (execs _ _) _ _ _); (refine' execs_toks ?etk ?_); (case etk => first | assumption | (dsimp only; omega)))) | walk_at "one step"))
  refine' hQ _ _ _ ?hF ?hN
  (case hF => assumption)
  (case hN =>
    refine' news_rw (us := []) (N0 ()) kg ?F ?N hs ?hu ?hk (Rw.same ?_)
    (case F => assumption)
    (case N => assumption)
    (case hu => exact List.forall_mem_nil _)
    (case hk => exact List.forall_mem_cons.mpr ⟨.inr (by k_mem), List.forall_mem_nil _⟩)
    (exact fun _ _ u hu => nomatch hu))
end
end Mine
end
-- part Dd
section
namespace Mine
theorem sub_dict_self : isSubtype (.type "dict") (.type "dict") = pure true := by rw [isSubtype_type]; kernel_rfl
noncomputable abbrev enP (w : World) (p : Str × Tok × Value) : DictEntry := enS w p.1 p.2.1 p.2.2
noncomputable def Disj (es : List DictEntry) (ps : List (Str × Tok × Value)) : Prop := (∀ p ∈ ps, Miss p.1 es) ∧ (ps.map (·.1)).Nodup
theorem Disj.tail {w : World} {es : List DictEntry} {p : Str × Tok × Value} {ps : List (Str × Tok × Value)} (h : Disj es (p :: ps)) : Disj (es ++ [enP w p]) ps := by
  have hn := h.2
  rw [List.map_cons, List.nodup_cons] at hn
  refine ⟨fun q hq e he => ?_, hn.2⟩
  rcases List.mem_append.mp he with he | he
  · exact h.1 q (.tail _ hq) e he
  · obtain rfl := List.mem_singleton.mp he
    have : p.1 ≠ q.1 := fun z => hn.1 (by rw [z]; exact List.mem_map_of_mem (f := (·.1)) hq)
    simpa [Value.isStrOf] using fun z : p.1 = q.1 => this z
section
variable {prog : Program} {w : World} {A : Around} {E : Value → Shared → Prop} {s : Shared} {d a : Addr} {es : List DictEntry} {n n' : Nat}
theorem merge_steps (ps : List (Str × Tok × Value)) (hda : a ≠ d) : ∀ (k : Nat) (i : Nat) (es : List DictEntry) (n : Nat) (s : Shared) (Q : PUnit → Shared → Prop), i + k = ps.length → s.heap.get? a = some (dictOf (ps.map (enP w)) n') → s.heap.get? d = some (dictOf es n) →
    AllS w es → Disj es (ps.drop i) → es.length + k ≤ 100 →
    (∀ h', h'.get? d = some (dictOf (es ++ (ps.drop i).map (enP w)) (n + k)) → Heap.SameBut d s.heap h' → Q PUnit.unit { s with heap := h' }) →
    wpAny (model prog w) A (forIn (List.range' i k) PUnit.unit fun i (_ : PUnit) => (do
      let __do_lift ← dictEntries a
      match __do_lift[i]? with
      | some e => do
        holding [e.key, e.val] (do
          if false = true then do
            let __do_lift ← dictFind d e.key e.hash
            if __do_lift.isSome = true then do
              rule "dict.merge.duplicate-key"
              raiseNew (← newExc (.type "KeyError") [e.key])
              dictPut d e.hash e.key e.val
            else dictPut d e.hash e.key e.val
          else dictPut d e.hash e.key e.val)
        let __do_lift ← dictEpoch a
        if (__do_lift != n') = true then do
          unsupported "dict.changed-during-merge"
          pure (ForInStep.yield PUnit.unit)
        else pure (ForInStep.yield PUnit.unit)
      | _ => do
        unsupported "dict.changed-during-merge"
        pure (ForInStep.yield PUnit.unit) : Sem (ForInStep PUnit))) Q E s := by
  intro k
  induction k with
  | zero =>
    intro i es n s Q hik ha hd hk hj hz hQ
    rw [List.range'_zero, List.forIn_nil]
    have e : ps.drop i = [] := List.drop_eq_nil_of_le (by omega)
    rw [e] at hQ
    exact wpAny_pure (hQ s.heap (by simpa using hd) (Heap.SameBut.refl _ _))
  | succ k ih =>
    intro i es n s Q hik ha hd hk hj hz hQ
    have hi : i < ps.length := by omega
    have e : ps.drop i = ps[i] :: ps.drop (i + 1) := List.drop_eq_getElem_cons hi
    rw [e] at hj
    rw [List.range'_succ, List.forIn_cons]
    refine wpAny_bind ?_
    refine wpAny_bind (wpAny_dictEntries ha rfl ?_)
    have e2 : (ps.map (enP w)).toArray[i]? = some (enP w ps[i]) := by simp [hi]
    rw [e2]
    refine wpAny_bind (wpAny_holding ?_)
    rw [if_neg (by simp)]
    refine put_new hd hk (hj.1 _ (.head _)) (by omega) fun h₁ hd₁ hs₁ => ?_
    have ha₁ := hs₁.extBut a _ hda ha
    refine wpAny_bind (wpAny_dictEpoch (s := { s with heap := h₁ }) ha₁ rfl ?_)
    rw [if_neg (by simp)]
    refine wpAny_pure ?_
    refine ih (i + 1) _ _ { s with heap := h₁ } Q (by omega) ha₁ hd₁ hk.snoc hj.tail (by simp; omega) fun h' hd' hs' => ?_
    refine hQ h' ?_ (hs₁.trans hs')
    rw [e, List.map_cons]
    simpa [Nat.add_assoc, Nat.add_comm 1] using hd'
theorem noref_loop : ∀ (l : List DictEntry) (f : DictEntry → PUnit → Sem (ForInStep PUnit)) (s : Shared) (Q : PUnit → Shared → Prop), (∀ e ∈ l, f e PUnit.unit = pure (.yield PUnit.unit)) → Q PUnit.unit s → wpAny (model prog w) A (forIn l PUnit.unit f) Q E s
  | [], f, s, Q, _, hQ => by rw [List.forIn_nil]; exact wpAny_pure hQ
  | e :: l, f, s, Q, h, hQ => by
    rw [List.forIn_cons, h e (.head _)]
    exact wpAny_bind (wpAny_pure (noref_loop l f s Q (fun e he => h e (.tail _ he)) hQ))
theorem merge_exact (ps : List (Str × Tok × Value)) {Q : Unit → Shared → Prop} (hda : a ≠ d) (hlo : (a == sysModules) = false) (ha : s.heap.get? a = some (dictOf (ps.map (enP w)) n')) (hd : s.heap.get? d = some (dictOf es n))
    (hk : AllS w es) (hj : Disj es ps) (hz : es.length + ps.length ≤ 100)
    (hQ : ∀ h', h'.get? d = some (dictOf (es ++ ps.map (enP w)) (n + ps.length)) → Heap.SameBut d s.heap h' → Q () { s with heap := h' }) :
    wpAny (model prog w) A (mergeMapping d (.ref a) false) Q E s := by
  have hT : s.TypeIs (.ref a) "dict" := ⟨_, ha, rfl⟩
  have main : wpAny (model prog w) A (forIn (List.range' 0 ps.length) PUnit.unit fun i (_ : PUnit) => (do
      let __do_lift ← dictEntries a
      match __do_lift[i]? with
      | some e => do
        holding [e.key, e.val] (do
          if false = true then do
            let __do_lift ← dictFind d e.key e.hash
            if __do_lift.isSome = true then do
              rule "dict.merge.duplicate-key"
              raiseNew (← newExc (.type "KeyError") [e.key])
              dictPut d e.hash e.key e.val
            else dictPut d e.hash e.key e.val
          else dictPut d e.hash e.key e.val)
        let __do_lift ← dictEpoch a
        if (__do_lift != n') = true then do
          unsupported "dict.changed-during-merge"
          pure (ForInStep.yield PUnit.unit)
        else pure (ForInStep.yield PUnit.unit)
      | _ => do
        unsupported "dict.changed-during-merge"
        pure (ForInStep.yield PUnit.unit) : Sem (ForInStep PUnit))) Q E s :=
    merge_steps ps hda ps.length 0 es n s Q (by omega) ha hd hk hj hz fun h' hd' hs' => hQ h' (by simpa using hd') hs'
  unfold mergeMapping
  refine wpAny_bind (wpAny_isInstance hT sub_dict_self ?_)
  dsimp only
  rw [if_pos rfl]
  refine wpAny_bind (wpAny_specialOf (name := Str.ofString "__iter__") hT F.slot_dict_iter.lookup ?_)
  refine wpAny_bind (wpAny_pure ?_)
  have e1 : (some (Value.builtin "dict.__iter__") == some (Value.builtin "dict.__iter__")) = true := by decide
  rw [e1]
  dsimp only
  rw [if_neg (by rw [hlo]; decide)]
  refine wpAny_bind (wpAny_dictEntries hd rfl ?_)
  have rest : wpAny (model prog w) A (do
      let __do_lift ← dictEntries a
      let epoch ← dictEpoch a
      forIn (List.range __do_lift.size) PUnit.unit fun i (_ : PUnit) => (do
      let __do_lift ← dictEntries a
      match __do_lift[i]? with
      | some e => do
        holding [e.key, e.val] (do
          if false = true then do
            let __do_lift ← dictFind d e.key e.hash
            if __do_lift.isSome = true then do
              rule "dict.merge.duplicate-key"
              raiseNew (← newExc (.type "KeyError") [e.key])
              dictPut d e.hash e.key e.val
            else dictPut d e.hash e.key e.val
          else dictPut d e.hash e.key e.val)
        let __do_lift ← dictEpoch a
        if (__do_lift != epoch) = true then do
          unsupported "dict.changed-during-merge"
          pure (ForInStep.yield PUnit.unit)
        else pure (ForInStep.yield PUnit.unit)
      | _ => do
        unsupported "dict.changed-during-merge"
        pure (ForInStep.yield PUnit.unit) : Sem (ForInStep PUnit))
      pure ()) Q E s := by
    refine wpAny_bind (wpAny_dictEntries ha rfl ?_)
    refine wpAny_bind (wpAny_dictEpoch ha rfl ?_)
    rw [List.range_eq_range']
    refine wpAny_bind (wpAny_mono (Q := Q) (E := E) ?_ (fun _ _ q => wpAny_pure q) fun _ _ q => q)
    simpa using main
  split
  · refine wpAny_bind (wpAny_dictEntries ha rfl ?_)
    rw [← Array.forIn_toList]
    refine wpAny_bind (noref_loop _ _ _ _ (fun e he => ?_) rest)
    obtain ⟨p, _, rfl⟩ := List.mem_map.mp (show e ∈ ps.map (enP w) from he)
    rfl
  · exact rest
end
end Mine
end
-- part Dd2
section
namespace Mine
noncomputable def Cst (prog : Program) (w : World) (A : Around) (t : Sem Value) (x : Str) : Prop := ∀ (E : Value → Shared → Prop) (s : Shared) (Q : Value → Shared → Prop), Q (.str x s.toks) { s with toks := s.toks + 1 } → wpAny (model prog w) A t Q E s
section
variable {prog : Program} {w : World} {A : Around} {E : Value → Shared → Prop} {s : Shared} {d a : Addr} {es : List DictEntry} {n n' : Nat} {env : Env}
theorem Cst.const (x : Str) (k : Nat) (pos : Pos) : Cst prog w A (eval (.Constant (.str x) k pos) env) x := fun _ _ _ h => Calls.Constant_str h
theorem Cst.stood {t : Sem Value} {x : Str} (c : Cst prog w A t x) (pos : Pos) : Cst prog w A (do let x ← t; standAt pos; pure x) x := fun E s Q h => wpAny_bind (c E s _ (wpAny_bind (wpAny_standAt (wpAny_pure h))))
noncomputable def pairsAt : Tok → List (Str × Str) → List (Str × Tok × Value)
  | _, [] => []
  | t, p :: r => (p.1, t, .str p.2 (t + 1)) :: pairsAt (t + 2) r
inductive Csts (prog : Program) (w : World) (A : Around) : List (Sem Value × Sem Value) → List (Str × Str) → Prop
  | nil : Csts prog w A [] []
  | cons {k v : Sem Value} {x y : Str} {r : List (Sem Value × Sem Value)} {q : List (Str × Str)} : Cst prog w A k x → Cst prog w A v y → Csts prog w A r q → Csts prog w A ((k, v) :: r) ((x, y) :: q)
theorem Csts.eval {r : List (Sem Value × Sem Value)} {q : List (Str × Str)} (c : Csts prog w A r q) : ∀ (E : Value → Shared → Prop) (s : Shared) (Q : List (Value × Value) → Shared → Prop),
    Q ((pairsAt s.toks q).map fun p => (.str p.1 p.2.1, p.2.2)) { s with toks := s.toks + 2 * q.length } → wpAny (model prog w) A (evalPairs r) Q E s := by
  induction c with
  | nil => exact fun _ _ _ h => evalPairs_nil h
  | @cons _ _ _ _ _ q c1 c2 _ ih =>
    intro E s Q h
    refine evalPairs_cons (c1 _ _ _ (c2 _ _ _ (ih _ _ _ ?_)))
    have e : s.toks + 1 + 1 + 2 * q.length = s.toks + 2 * (q.length + 1) := by omega
    dsimp only
    rw [e]
    exact h
theorem pairsAt_fst : ∀ (t : Tok) (q : List (Str × Str)), (pairsAt t q).map (·.1) = q.map (·.1)
  | _, [] => rfl
  | t, p :: r => by rw [pairsAt, List.map_cons, List.map_cons, pairsAt_fst]
theorem pairsAt_length : ∀ (t : Tok) (q : List (Str × Str)), (pairsAt t q).length = q.length
  | _, [] => rfl
  | t, p :: r => by rw [pairsAt, List.length_cons, List.length_cons, pairsAt_length]
theorem sub_exact {r : List (Sem Value × Sem Value)} {q : List (Str × Str)} {Q : Addr → Shared → Prop} (c : Csts prog w A r q) (hn : (q.map (·.1)).Nodup) (hl : r.length ≤ 15) (hz : q.length ≤ 15)
    (hQ : ∀ h' k, h'.get? s.heap.objs.size = some (dictOf ((pairsAt s.toks q).map (enP w)) q.length) → (∀ b o, s.heap.get? b = some o → h'.get? b = some o) → h'.objs.size = s.heap.objs.size + 1 → Q s.heap.objs.size { s with heap := h', toks := k }) :
    wpAny (model prog w) A (subDict r) Q E s := by
  refine wpAny_subDict_any hl (c.eval _ _ _ ?_)
  refine store_all (pairsAt s.toks q) [] 0 _ _ (Heap.get?_push_size _ rfl) (fun _ h => nomatch h) (fun _ _ _ h => nomatch h) (by rw [pairsAt_fst]; exact hn) (by rw [pairsAt_length]; simp; omega) fun h' tk hd hs => ?_
  refine hQ h' tk (by rw [pairsAt_length] at hd; simpa using hd) (fun b o hb => hs.extBut b o (Nat.ne_of_lt (Heap.lt_size hb)) (Heap.get?_push_of_some _ hb)) ?_
  rw [hs.1, Heap.size_push]
theorem disp_consts {keys : List (Option Expr)} {values : List Expr} {pos : Pos} {q : List (Str × Str)} {Q : Value → Shared → Prop}
    (hall : keys.all (·.isSome) = true) (hl : keys.length = values.length) (h0 : keys ≠ []) (hlen : keys.length ≤ 15) (c : Csts prog w A (pairTrees keys values env pos) q) (hn : (q.map (·.1)).Nodup) (hz : q.length ≤ 15)
    (hQ : ∀ h' k, h'.get? s.heap.objs.size = some (dictOf ((pairsAt s.toks q).map (enP w)) q.length) → (∀ b o, s.heap.get? b = some o → h'.get? b = some o) → h'.objs.size = s.heap.objs.size + 1 → Q (.ref s.heap.objs.size) { s with heap := h', toks := k }) :
    wpAny (model prog w) A (eval (.Dict keys values pos) env) Q E s := by
  have hp := pairTrees_length keys values env pos hall hl
  have hp0 : pairTrees keys values env pos ≠ [] := by
    intro he
    rw [he] at hp
    exact h0 (List.length_eq_zero_iff.mp hp.symm)
  rw [arm_eval_Dict, zip_pairTrees keys values env pos hall hl, dictDisplay_pairs _ hp0 (by rw [hp]; omega)]
  exact wpAny_bind (wpAny_standAt (wpAny_bind (sub_exact c hn (by rw [hp]; omega) hz fun h' k a b e => wpAny_pure (hQ h' k a b e))))
theorem disp_star {e0 k1 v1 k2 v2 k3 v3 : Sem Value} {x1 y1 x2 y2 x3 y3 : Str} {n0 : Nat} {Q : Value → Shared → Prop} (c : Csts prog w A [(k1, v1), (k2, v2), (k3, v3)] [(x1, y1), (x2, y2), (x3, y3)]) (hn : ([x1, x2, x3]).Nodup)
    (ha : s.heap.get? a = some (dictOf [] n0)) (hlo : (a == sysModules) = false) (hls : sysModules < s.heap.objs.size)
    (h : wpAny (model prog w) A e0 (fun v s' => v = .ref a ∧ s' = { s with heap := s.heap.push { cls := .type "dict", data := .dict #[] } }) E { s with heap := s.heap.push { cls := .type "dict", data := .dict #[] } })
    (hQ : ∀ h' k, h'.get? s.heap.objs.size = some (dictOf ((pairsAt s.toks [(x1, y1), (x2, y2), (x3, y3)]).map (enP w)) 3) → (∀ b o, s.heap.get? b = some o → h'.get? b = some o) → Q (.ref s.heap.objs.size) { s with heap := h', toks := k }) :
    wpAny (model prog w) A (dictDisplay [(none, e0), (some k1, v1), (some k2, v2), (some k3, v3)]) Q E s := by
  have had : a ≠ s.heap.objs.size := Nat.ne_of_lt (Heap.lt_size ha)
  unfold dictDisplay
  simp only [List.forIn_cons, List.forIn_nil, pure_bind, List.isEmpty_nil, if_true, bind_assoc]
  refine wpAny_bind (wpAny_alloc ?_)
  refine wpAny_bind (wpAny_holding ?_)
  refine wpAny_mono h (fun v s' hv => ?_) fun _ _ q => q
  obtain ⟨rfl, rfl⟩ := hv
  refine wpAny_bind (wpAny_onRaise (wpAny_tryCatch (wpAny_onRaise (wpAny_holding (merge_exact (n' := n0) (es := []) (n := 0) [] had hlo (Heap.get?_push_of_some _ ha) (Heap.get?_push_size _ rfl) (fun _ h => nomatch h) (show Disj [] [] from ⟨fun _ h => (nomatch h), List.nodup_nil⟩) (by simp) fun h₁ hd₁ hs₁ => ?_)))))
  simp only [List.nil_append, List.cons_append, List.length_cons, List.length_nil, pure_bind, List.isEmpty_cons, Bool.false_eq_true, if_false, bind_assoc, Nat.zero_add, Nat.reduceAdd, Nat.reduceBEq]
  have z₁ : h₁.objs.size = s.heap.objs.size + 1 := by rw [hs₁.1, Heap.size_push]
  have k₁ : ∀ b o, s.heap.get? b = some o → h₁.get? b = some o := fun b o hb => hs₁.extBut b o (Nat.ne_of_lt (Heap.lt_size hb)) (Heap.get?_push_of_some _ hb)
  refine wpAny_bind (wpAny_holding ?_)
  refine sub_exact (s := { s with heap := h₁ }) c (by simpa using hn) (by simp) (by simp) fun h₂ k₂ hd₂ hk₂ hz₂ => ?_
  have hne : h₁.objs.size ≠ s.heap.objs.size := by omega
  refine wpAny_bind (wpAny_onRaise (wpAny_holding (merge_exact (s := { s with heap := h₂, toks := k₂ }) (es := []) (n := 0) (n' := 3) (pairsAt s.toks [(x1, y1), (x2, y2), (x3, y3)]) hne ?_ hd₂ (hk₂ _ _ hd₁) (fun _ h => nomatch h) (show Disj [] _ from ⟨fun _ _ _ h => (nomatch h), by rw [pairsAt_fst]; simpa using hn⟩) (by simp [pairsAt]) fun h₃ hd₃ hs₃ => ?_)))
  · have : h₁.objs.size ≠ sysModules := by rw [z₁]; exact Nat.ne_of_gt (Nat.lt_succ_of_lt hls)
    simpa using this
  · refine wpAny_pure ?_
    exact hQ h₃ k₂ (by simpa [pairsAt] using hd₃) fun b o hb => hs₃.extBut b o (Nat.ne_of_lt (Heap.lt_size hb)) (hk₂ _ _ (k₁ b o hb))
theorem star_eval {e0 : Expr} {i1 i2 i3 j1 j2 j3 : Nat} {p1 p2 p3 r1 r2 r3 pos : Pos} {x1 y1 x2 y2 x3 y3 : Str} {n0 : Nat} {Q : Value → Shared → Prop} (hn : ([x1, x2, x3]).Nodup)
    (ha : s.heap.get? a = some (dictOf [] n0)) (hlo : (a == sysModules) = false) (hls : sysModules < s.heap.objs.size)
    (h : wpAny (model prog w) A (eval e0 env) (fun v s' => v = .ref a ∧ s' = { s with heap := s.heap.push { cls := .type "dict", data := .dict #[] } }) E { s with heap := s.heap.push { cls := .type "dict", data := .dict #[] } })
    (hQ : ∀ h' k, h'.get? s.heap.objs.size = some (dictOf ((pairsAt s.toks [(x1, y1), (x2, y2), (x3, y3)]).map (enP w)) 3) → (∀ b o, s.heap.get? b = some o → h'.get? b = some o) → Q (.ref s.heap.objs.size) { s with heap := h', toks := k }) :
    wpAny (model prog w) A (eval (.Dict [none, some (.Constant (.str x1) i1 p1), some (.Constant (.str x2) i2 p2), some (.Constant (.str x3) i3 p3)] [e0, .Constant (.str y1) j1 r1, .Constant (.str y2) j2 r2, .Constant (.str y3) j3 r3] pos) env) Q E s := by
  rw [arm_eval_Dict]
  refine wpAny_bind (wpAny_standAt ?_)
  exact disp_star (.cons (.const _ _ _) (.stood (.const _ _ _) _) (.cons (.const _ _ _) (.stood (.const _ _ _) _) (.cons (.const _ _ _) (.stood (.const _ _ _) _) .nil))) hn ha hlo hls
    (wpAny_bind (wpAny_mono h (fun _ _ q => wpAny_bind (wpAny_standAt (wpAny_pure q))) fun _ _ q => q)) hQ
end
end Mine
end
-- part Qa
section
namespace Mine
noncomputable abbrev qps (t : Tok) : List (Str × Tok × Str × Tok) := [(Str.ofString "\n", t, Str.ofString "&#10;", t + 1), (Str.ofString "\r", t + 2, Str.ofString "&#13;", t + 3), (Str.ofString "\t", t + 4, Str.ofString "&#9;", t + 5)]
noncomputable abbrev ent3 (x : Str) : Str := Txt.replace (Txt.replace (Txt.replace x (Str.ofString "\n") (Str.ofString "&#10;")) (Str.ofString "\r") (Str.ofString "&#13;")) (Str.ofString "\t") (Str.ofString "&#9;")
noncomputable def quo (y : Str) : Str := if isin y (Str.ofString "\"") = true then (if isin y (Str.ofString "'") = true then Str.ofString "\"" ++ Txt.replace y (Str.ofString "\"") (Str.ofString "&quot;") ++ Str.ofString "\"" else Str.ofString "'" ++ y ++ Str.ofString "'") else Str.ofString "\"" ++ y ++ Str.ofString "\""
theorem quo_no {y : Str} (h : (Builtin.Str.occurrences y (Str.ofString "\"") 0 y.length 1).isEmpty = true) : Str.ofString "\"" ++ y ++ Str.ofString "\"" = quo y := by unfold quo; rw [if_neg (by unfold isin; rw [h]; decide)]
theorem quo_one {y : Str} (h : (Builtin.Str.occurrences y (Str.ofString "\"") 0 y.length 1).isEmpty = false) (h2 : (Builtin.Str.occurrences y (Str.ofString "'") 0 y.length 1).isEmpty = true) : Str.ofString "'" ++ y ++ Str.ofString "'" = quo y := by
  unfold quo; rw [if_pos (by unfold isin; rw [h]; decide), if_neg (by unfold isin; rw [h2]; decide)]
theorem quo_two {y : Str} (h : (Builtin.Str.occurrences y (Str.ofString "\"") 0 y.length 1).isEmpty = false) (h2 : (Builtin.Str.occurrences y (Str.ofString "'") 0 y.length 1).isEmpty = false) : Str.ofString "\"" ++ Txt.replace y (Str.ofString "\"") (Str.ofString "&quot;") ++ Str.ofString "\"" = quo y := by
  unfold quo; rw [if_pos (by unfold isin; rw [h]; decide), if_pos (by unfold isin; rw [h2]; decide)]
section
variable {w : World} {dp un : Nat} {gd : Option (List Code)} {A₀ : Around} {base h₀ : Heap} {L : Addr} {m : Str → Option Value} {s : Shared} {p : Program} {loose : List Str} {mean : ExcName → Option Value} {mg mb : Str → Option Value} {env : Env} {outer : List Env} {Q E : Value → Shared → Prop} {news : List (Addr × Obj)}
theorem news_kept {g h h' : Heap} {L' : Addr} {m' : Str → Option Value} (N : News h₀ L h news) (kg : ∀ q ∈ news, q.1 ∉ ([] : List (Addr × Obj)).map (·.1) → g.get? q.1 = some q.2) (F' : Fr g L' h' m') : News h₀ L h' news :=
  fun q hq => ⟨F'.keep _ _ (kg q hq (by simp)), (N q hq).2⟩
theorem pct_dq (X : (Mine.KK w.params).In h₀) {A : Around} {y : Str} {t u : Tok} (hy : y.length ≤ 1000000) (h : ∀ t' k, Q (.str (Str.ofString "\"" ++ y ++ Str.ofString "\"") t') { s with toks := k }) : wpAny (model PG w) A (binaryOp .Mod (.str (Str.ofString "\"%s\"") t) (.str y u)) Q E s := by
  walk1
  exact h _ _
theorem pct_sq (X : (Mine.KK w.params).In h₀) {A : Around} {y : Str} {t u : Tok} (hy : y.length ≤ 1000000) (h : ∀ t' k, Q (.str (Str.ofString "'" ++ y ++ Str.ofString "'") t') { s with toks := k }) : wpAny (model PG w) A (binaryOp .Mod (.str (Str.ofString "'%s'") t) (.str y u)) Q E s := by
  walk1
  exact h _ _
theorem qa_ct {x : Str} {t : Tok} (B : Below A₀ base outer h₀) (F : Fr h₀ L s.heap m) (X : (Mine.KK w.params).In h₀)
  (N : News h₀ L s.heap news)
  (T : Top p loose mean mg mb h₀) (hf : env.frame = some L) (hke : env.scope.kind = .function) (hd : dp + 16 < 1000) (hk0 : 1 ≤ s.toks) (hl0 : x.length ≤ 1048576) (hl1 : (Txt.replace x (Str.ofString "&") (Str.ofString "&amp;")).length ≤ 1048576)
  (hl2 : (Txt.replace (Txt.replace x (Str.ofString "&") (Str.ofString "&amp;")) (Str.ofString ">") (Str.ofString "&gt;")).length ≤ 1048576) (hlen : ∀ t i, (rpl (amp x) ((qps t).take i)).length ≤ 900000) (hl3 : (Txt.replace (ent3 (amp x)) (Str.ofString "\"") (Str.ofString "&quot;")).length ≤ 900000)
  (hQ : ∀ h' k' tr, Fr h₀ L h' m → News h₀ L h' news → Q (.str (quo (ent3 (amp x))) tr) { s with heap := h', toks := k' }) :
  wpAny (model PG w) (Around.mk none dp (some (env :: outer)) gd un) (call (.ref 73) [.str x t] []) Q E s := by
  refine wpAny_call ?_
  refine' call_small B F X N (small := []) (fun _ h => nomatch h) T rfl hf hke ?k6 ?k7 ?k8 ?k9 ?kB ?_ ?c2 ?c3 ?c4 ?c5
  (case k6 => k_is)
  (case k7 => k_is)
  (case k8 => (show dp < 1000); omega)
  (case k9 => first | exact BindsTo.of_eq rfl | exact binds_K (by k_in) rfl (by k_is) rfl rfl rfl)
  (case kB => exact locs rfl)
  (case c2 => exact rfl)
  (case c3 => exact rfl)
  (case c4 => exact rfl)
  (case c5 => decide)
  intro g L' h₁ F' N' B' X' T' kg
  (try k_fold)
  have N0 := fun (_ : Unit) => N
  clear N
  (try k_fold)
  have hk1 : 1 ≤ s.toks + 2 := by omega
  refine execs_toks hk1 ?_
  (first | (focus ((with_reducible show wpAny _ _ (binaryOp Operator.Mod (Value.str _ _) (Value.str _ _)) _ _ _); first | ((with_reducible refine' pct_dq ?pX ?py ?_); (case pX => k_asm); (case py => kpc_size)) | ((with_reducible refine' pct_sq ?pX ?py ?_); (case pX => k_asm); (case py => kpc_size)); intro _ _)) | (focus ((with_reducible show wpAny _ _ (PySem.call (Value.ref _) _ _) _ _ _); k_dflt (refine' esc_ct ?B ?F ?X ?N ?hs ?T ?hf ?hke ?hd ?hn ?hlo ?hne ?hle ?hk0 ?hok ?hl0 ?hl1 ?hl2 ?hlen ?_; (case B | F | X | N | T => k_asm); (case hs => walk_at "all mem"); (case hf | hke => exact rfl); (case hd => walk_at "depth is"); (case hn | hlo | hne | hle => assumption); (case hk0 => (dsimp only; omega)); (case hok | hl0 | hl1 | hl2 | hlen => assumption); k_whole; intro h' k' tr' F' N'))) | (focus ((with_reducible show wpAny _ _ (execs (List.nil) _) _ _ _); (with_reducible refine wpAny_execs_nil ?_))) | (focus ((with_reducible show wpAny _ _ (execs _ _) _ _ _); (refine' execs_toks ?etk ?_); (case etk => first | assumption | (dsimp only; omega)))) | walk_at "one step")
  have X1 := X'.keeps F'.keep
  have F1 := F'.push { cls := .type "dict", data := .dict #[] }
  refine' star_eval (by decide) ?ha ?hlo ?hls ?he ?_
  case he =>
    (first | (focus ((with_reducible show wpAny _ _ (binaryOp Operator.Mod (Value.str _ _) (Value.str _ _)) _ _ _); first | ((with_reducible refine' pct_dq ?pX ?py ?_); (case pX => k_asm); (case py => kpc_size)) | ((with_reducible refine' pct_sq ?pX ?py ?_); (case pX => k_asm); (case py => kpc_size)); intro _ _)) | (focus ((with_reducible show wpAny _ _ (PySem.call (Value.ref _) _ _) _ _ _); k_dflt (refine' esc_ct ?B ?F ?X ?N ?hs ?T ?hf ?hke ?hd ?hn ?hlo ?hne ?hle ?hk0 ?hok ?hl0 ?hl1 ?hl2 ?hlen ?_; (case B | F | X | N | T => k_asm); (case hs => walk_at "all mem"); (case hf | hke => exact rfl); (case hd => walk_at "depth is"); (case hn | hlo | hne | hle => assumption); (case hk0 => (dsimp only; omega)); (case hok | hl0 | hl1 | hl2 | hlen => assumption); k_whole; intro h' k' tr' F' N'))) | (focus ((with_reducible show wpAny _ _ (execs (List.nil) _) _ _ _); (with_reducible refine wpAny_execs_nil ?_))) | (focus ((with_reducible show wpAny _ _ (execs _ _) _ _ _); (refine' execs_toks ?etk ?_); (case etk => first | assumption | (dsimp only; omega)))) | walk_at "one step")
    refine' And.intro ?_ rfl
    exact rfl
  case ha => exact X1 _ _ rfl
  case hlo => decide
  case hls => exact Nat.lt_trans (by decide) (Heap.lt_size (X1 798 _ rfl))
  intro h2 k2 hd2 hk2
  have hD0 : g.get? h₁.objs.size = none := ktu_new F' (Nat.le_refl _)
  have F2 := F'.keeps hk2
  have hDL : h₁.objs.size ≠ L' := Nat.ne_of_gt F'.ns.lt
  have N2 : News g L' h2 [(h₁.objs.size, dictOf ((qps (s.toks + 2)).map fun p => enS w p.1 p.2.1 (.str p.2.2.1 p.2.2.2)) 3)] := List.forall_mem_cons.mpr ⟨⟨hd2, hDL, hD0⟩, List.forall_mem_nil _⟩
  have hlo : (h₁.objs.size == sysModules) = false := by
    have : h₁.objs.size ≠ 1 := Nat.ne_of_gt (Nat.lt_trans (by decide) (Heap.lt_size (X1 798 _ rfl)))
    simpa [sysModules] using this
  dsimp only
  clear F' N' hd2 hk2 F1 X1
  generalize h₁.objs.size = D at *
  have hn : ((qps (s.toks + 2)).map (·.1)).Nodup := show ([Str.ofString "\n", Str.ofString "\r", Str.ofString "\t"] : List Str).Nodup by decide
  have hne : ((qps (s.toks + 2)).length == 0) = false := rfl
  have hle : (qps (s.toks + 2)).length ≤ 100 := by show 3 ≤ 100; decide
  have hlen1 : ∀ i, (rpl (amp x) ((qps (s.toks + 2)).take i)).length ≤ 1048576 := fun i => Nat.le_trans (hlen _ i) (by decide)
  have hy : (rpl (amp x) (qps (s.toks + 2))).length ≤ 900000 := hlen _ 3
  have hok : ∀ p ∈ qps (s.toks + 2), p.2.1 ≠ 0 ∧ p.2.2.2 ≠ 0 ∧ p.2.1 ≠ p.2.2.2 ∧ (p.1 == p.2.2.1) = false ∧ p.2.2.1.length ≤ 14 := by
    refine List.forall_mem_cons.mpr ⟨⟨?_, ?_, ?_, by dsimp only; decide, by dsimp only; decide⟩, List.forall_mem_cons.mpr ⟨⟨?_, ?_, ?_, by dsimp only; decide, by dsimp only; decide⟩, List.forall_mem_cons.mpr ⟨⟨?_, ?_, ?_, by dsimp only; decide, by dsimp only; decide⟩, List.forall_mem_nil _⟩⟩⟩ <;> ((show @Ne Nat _ _); (dsimp only); omega)
  have hl4 : (Txt.replace (rpl (amp x) (qps (s.toks + 2))) (Str.ofString "\"") (Str.ofString "&quot;")).length ≤ 900000 := hl3
  have ed : rpl (amp x) (qps (s.toks + 2)) = ent3 (amp x) := rfl
  repeat (first | ((with_reducible show ((1:Nat) ≤ Shared.toks _) → _); intro hTk; (try dsimp only at hTk ⊢)) | (first | (focus ((with_reducible show wpAny _ _ (binaryOp Operator.Mod (Value.str _ _) (Value.str _ _)) _ _ _); first | ((with_reducible refine' pct_dq ?pX ?py ?_); (case pX => k_asm); (case py => kpc_size)) | ((with_reducible refine' pct_sq ?pX ?py ?_); (case pX => k_asm); (case py => kpc_size)); intro _ _)) | (focus ((with_reducible show wpAny _ _ (PySem.call (Value.ref _) _ _) _ _ _); k_dflt (refine' esc_ct ?B ?F ?X ?N ?hs ?T ?hf ?hke ?hd ?hn ?hlo ?hne ?hle ?hk0 ?hok ?hl0 ?hl1 ?hl2 ?hlen ?_; (case B | F | X | N | T => k_asm); (case hs => walk_at "all mem"); (case hf | hke => exact rfl); (case hd => walk_at "depth is"); (case hn | hlo | hne | hle => assumption); (case hk0 => (dsimp only; omega)); (case hok | hl0 | hl1 | hl2 | hlen => assumption); k_whole; intro h' k' tr' F' N'))) | (focus ((with_reducible show wpAny _ _ (execs (List.nil) _) _ _ _); (with_reducible refine wpAny_execs_nil ?_))) | (focus ((with_reducible show wpAny _ _ (execs _ _) _ _ _); (refine' execs_toks ?etk ?_); (case etk => first | assumption | (dsimp only; omega)))) | walk_at "one step"))
  (rename (List.isEmpty _ = true) => hA; rw [quo_no hA, ed]; refine' hQ _ _ _ ?zhF ?zhN; (case zhF => assumption); (case zhN => (refine' news_kept (N0 ()) kg ?zF; (case zF => assumption))))
  rename (List.isEmpty _ = false) => hA
  repeat (first | ((with_reducible show ((1:Nat) ≤ Shared.toks _) → _); intro hTk; (try dsimp only at hTk ⊢)) | (first | (focus ((with_reducible show wpAny _ _ (binaryOp Operator.Mod (Value.str _ _) (Value.str _ _)) _ _ _); first | ((with_reducible refine' pct_dq ?pX ?py ?_); (case pX => k_asm); (case py => kpc_size)) | ((with_reducible refine' pct_sq ?pX ?py ?_); (case pX => k_asm); (case py => kpc_size)); intro _ _)) | (focus ((with_reducible show wpAny _ _ (PySem.call (Value.ref _) _ _) _ _ _); k_dflt (refine' esc_ct ?B ?F ?X ?N ?hs ?T ?hf ?hke ?hd ?hn ?hlo ?hne ?hle ?hk0 ?hok ?hl0 ?hl1 ?hl2 ?hlen ?_; (case B | F | X | N | T => k_asm); (case hs => walk_at "all mem"); (case hf | hke => exact rfl); (case hd => walk_at "depth is"); (case hn | hlo | hne | hle => assumption); (case hk0 => (dsimp only; omega)); (case hok | hl0 | hl1 | hl2 | hlen => assumption); k_whole; intro h' k' tr' F' N'))) | (focus ((with_reducible show wpAny _ _ (execs (List.nil) _) _ _ _); (with_reducible refine wpAny_execs_nil ?_))) | (focus ((with_reducible show wpAny _ _ (execs _ _) _ _ _); (refine' execs_toks ?etk ?_); (case etk => first | assumption | (dsimp only; omega)))) | walk_at "one step"))
  (rename (List.isEmpty _ = true) => hC; rw [quo_one hA hC, ed]; refine' hQ _ _ _ ?zhF ?zhN; (case zhF => assumption); (case zhN => (refine' news_kept (N0 ()) kg ?zF; (case zF => assumption))))
  rename (List.isEmpty _ = false) => hC
  repeat (first | ((with_reducible show ((1:Nat) ≤ Shared.toks _) → _); intro hTk; (try dsimp only at hTk ⊢)) | (first | (focus ((with_reducible show wpAny _ _ (binaryOp Operator.Mod (Value.str _ _) (Value.str _ _)) _ _ _); first | ((with_reducible refine' pct_dq ?pX ?py ?_); (case pX => k_asm); (case py => kpc_size)) | ((with_reducible refine' pct_sq ?pX ?py ?_); (case pX => k_asm); (case py => kpc_size)); intro _ _)) | (focus ((with_reducible show wpAny _ _ (PySem.call (Value.ref _) _ _) _ _ _); k_dflt (refine' esc_ct ?B ?F ?X ?N ?hs ?T ?hf ?hke ?hd ?hn ?hlo ?hne ?hle ?hk0 ?hok ?hl0 ?hl1 ?hl2 ?hlen ?_; (case B | F | X | N | T => k_asm); (case hs => walk_at "all mem"); (case hf | hke => exact rfl); (case hd => walk_at "depth is"); (case hn | hlo | hne | hle => assumption); (case hk0 => (dsimp only; omega)); (case hok | hl0 | hl1 | hl2 | hlen => assumption); k_whole; intro h' k' tr' F' N'))) | (focus ((with_reducible show wpAny _ _ (execs (List.nil) _) _ _ _); (with_reducible refine wpAny_execs_nil ?_))) | (focus ((with_reducible show wpAny _ _ (execs _ _) _ _ _); (refine' execs_toks ?etk ?_); (case etk => first | assumption | (dsimp only; omega)))) | walk_at "one step"))
  (rw [quo_two hA hC, ed]; refine' hQ _ _ _ ?zhF ?zhN; (case zhF => assumption); (case zhN => (refine' news_kept (N0 ()) kg ?zF; (case zF => assumption))))
end
end Mine
end
-- part Fs2
section
namespace Mine
section
variable {prog : Program} {w : World} {A₀ A : Around} {s : Shared} {base h₀ : Heap} {outer : List Env} {L : Addr} {m : Str → Option Value} {env : Env} {news small : List (Addr × Obj)} {K : Frag}
  {R : Result → Shared → Prop} {name qual : Str} {params : Arguments} {body : List Stmt} {scope : Scope} {dV kV doc pm cdv ct oc : Value} {an od : Option Addr} {osl : Array (Option Value)} {f : Addr} {args : Args} {binds : List (Str × Value)} {p : Program} {loose : List Str} {mean : ExcName → Option Value} {mg mb : Str → Option Value}
theorem call_smallC (B : Below A₀ base outer h₀) (F : Fr h₀ L s.heap m) (X₀ : K.In h₀) (N : News h₀ L s.heap news) (hs : ∀ q ∈ small, q ∈ news) (T : Top p loose mean mg mb h₀) (hA : A.frames = some (env :: outer)) (hf : env.frame = some L) (hke : env.scope.kind = .function)
    (ho : K.lookup f = some ⟨oc, od, .func (fnOf name qual params body scope dV kV doc pm an cdv ct), osl⟩) (hcd : codeIn K cdv qual = true) (hroom : A.depth < recursionLimit)
    (hbind : BindsTo s (fnOf name qual params body scope dV kV doc pm an cdv ct) args binds) (hkind : (binds.all fun y => scope.names.lookup y.1 == some .local || scope.names.lookup y.1 == some .cell) = true)
    (hnd : ((cellsFrom 0 scope.names []).map (·.1)).Nodup)
    (h : ∀ g L' h₁ tk cells, Fr g L' h₁ (bindL (envOfC qual scope L' f cdv).kindOf binds fun _ => none) → News g L' h₁ (cells ++ small) →
      CellsAre (bindC (envOfC qual scope L' f cdv).kindOf binds fun _ => none) (cellsFrom (L' + 1) scope.names []) cells → Below A base (env :: outer) g → K.In g → Top p loose mean mg mb g → (∀ q ∈ small, q.1 < L') → (∀ q ∈ news, q.1 ∉ small.map (·.1) → g.get? q.1 = some q.2) →
      wpAny (model prog w) (A.deeper (envOfC qual scope L' f cdv)) (execs body (envOfC qual scope L' f cdv))
        (fun fl s' => LeaveK h₀ L m g R (match fl with | .ret v => v | _ => .none) s')
        (fun e s' => wpAny (model prog w) (A.deeper (envOfC qual scope L' f cdv)) (leaving (envOfC qual scope L' f cdv) e) (fun _ s'' => R (.error e) s'') (fun e' s'' => R (.error e') s'') s')
        { s with heap := h₁, toks := tk })
    (hco : scope.isCoroutine = false) (hgen : scope.isGenerator = false) (hk : scope.kind = .function) : codeAny (model prog w) A (.call (.ref f) args) R s := by
  have Ns : News h₀ L s.heap small := fun q hq => N q (hs q hq)
  obtain ⟨FG, BG, st, lv⟩ := groundX (R := R) B F Ns hA hf hke
  refine codeAny_call_function hroom ((X₀.keeps F.keep) _ _ ho) rfl hco hgen rfl (codeRec_of (X₀.keeps F.keep) hcd) (hbind _ _ _ _ ?_)
  refine wpAny_newFunctionEnv_cells hk (kindsX hkind _) fun env' he s' x => ?_
  subst he
  refine ⟨(T.nolimit.keeps F.keep).keeps x.toInCall.keep, codeAny_func ?_⟩
  obtain ⟨h₁, tk, rfl, _⟩ := x.done
  have hk₁ := x.toInCall.keep
  obtain ⟨cells, NC, Y⟩ := Cl.news (h₀ := s.heap) (Nat.le_refl _) fun n c hm => ⟨x.cell n c (lookup_of_mem_nodup (cellsFrom_names scope.names 0 (s.heap.objs.size + 1) [] [] rfl ▸ hnd) hm), x.above n c hm⟩
  refine wpAny_mono (h _ s.heap.objs.size h₁ tk cells ⟨x.toInCall.ns, fun b o e => hk₁ b o (of_hideAll _ e), Nat.le_of_eq (hideAll_size _ _)⟩ (fun q hq => ?_) Y BG (X₀.keeps st) (T.keeps st) (fun q hq => Heap.lt_size (Ns q hq).1) fun q hq hn => ?_) (fun fl s' hl => lv _ _ hl) fun _ _ y => y
  · rcases List.mem_append.mp hq with hq | hq
    · refine ⟨(NC q hq).1, (NC q hq).2.1, ?_⟩
      cases z : (hideAll s.heap (small.map (·.1))).get? q.1 with
      | none => rfl
      | some o => have := of_hideAll _ z; rw [(NC q hq).2.2] at this; cases this
    · exact ⟨hk₁ _ _ (Ns q hq).1, Nat.ne_of_lt (Heap.lt_size (Ns q hq).1), hideAll_none _ (List.mem_map_of_mem hq)⟩
  · exact hideAll_get _ (N q hq).1 hn
end
end Mine
end
-- part Lc
section
open PySem PySem.W PySem.Spec PySem.Calls PyProof.Rows LCg LCt
namespace Mine
section
variable {prog : Program} {w : World} {A : Around} {E : Value → Shared → Prop} {s : Shared} {h₀ : Heap} {L : Addr} {m : Str → Option Value} {env : Env}
theorem str_st {ty : String} {X : Str} {tX : Tok} {I : Addr} {h₀ : Heap} {L : Addr} : ∀ i (h h' : Heap) (o : Obj) (nw : List (Addr × Obj)), h.IsStrIter I ty X tX i → h.get? I = some o → h'.get? I = some o → (∀ b o, h₀.get? b = some o → h'.get? b = some o) → News h₀ L h' nw → True → h'.IsStrIter I ty X tX i :=
  fun i h h' o nw st e e' _ _ _ => by obtain ⟨o', q, r⟩ := st; rw [e] at q; cases q; exact ⟨o, e', r⟩
theorem ListComp_S {elt iter : Expr} {x : Str} {px : Pos} {scope : Scope} {cl : List (Str × Addr)} {pos : Pos} {Q : Value → Shared → Prop} (_F₀ : Fr h₀ L s.heap m)
    (hclos : closureFor scope env = pure cl) (hcell : ∀ y ∈ scope.names, y.2 ≠ .cell) (hkind : scope.kind = .function)
    (hnames : ∀ y ∈ scope.names, y.2 = .local → scope.names.lookup y.1 = some .local) (hx : scope.names.lookup x = some .local) (hh : A.handled = none)
    (h : wpAny (model prog w) A (eval iter env) (fun xv s₁ => ∃ X tX news, xv = .str X tX ∧ X.cps.size ≤ sizeLine ∧ Fr h₀ L s₁.heap m ∧ News h₀ L s₁.heap news ∧
      ∀ g, CompRest prog w A h₀ L m env elt x scope cl { s₁ with heap := g } (fun _ => True) (SignAt X) (FinE h₀ L m { s₁ with heap := g } Q) X.cps.size 0 [] news) E s)
    (hs : ∀ x, foldedSetIterable iter env x = pure x := by intro _; rfl) :
    wpAny (model prog w) A (eval (.ListComp elt [⟨.Name x px, iter, [], 0⟩] scope pos) env) Q E s := by
  rw [eval_ListComp]
  refine wpAny_comprehension_free (use := none) rfl hs hclos hkind hnames (wpAny_mono h (fun xv s₁ h₁ => ?_) fun _ _ e => e)
  obtain ⟨X, tX, news, rfl, hsz, F, N, R⟩ := h₁
  have fin : ∀ D C h tk m' ys news', Fr h₀ L h m → News h₀ L h ((D, lst ys) :: news') → Off1 D news' → h.Ns C m' → h₀.get? C = none → h₀.get? D = none → C ≠ L → D ≠ L → C ≠ D → (∀ p ∈ news', p.1 ≠ C) → ∀ g, FinE h₀ L m { s₁ with heap := g } Q ys news' → ∃ m', h.Ns C m' ∧ ∀ h'', Heap.SameBut C h h'' → Q (.ref D) { s₁ with heap := h'', toks := tk } := by
    intro D C h tk m' ys news' F' N' o1 hn hC₀ hD₀ hCL hDL hCD offC g fin
    refine ⟨m', hn, fun h'' hs'' => fin D h'' tk (F'.change hs'' hCL hC₀) (fun p hp => ?_) o1⟩
    refine ⟨hs''.extBut _ _ ?_ (N' p hp).1, (N' p hp).2⟩
    rcases List.mem_cons.mp hp with rfl | hp
    · exact Ne.symm hCD
    · exact offC p hp
  have up : ∀ o b o', s₁.heap.get? b = some o' → (s₁.heap.push o).get? b = some o' := fun o b o' e => Heap.get?_push_of_some _ e
  have bel : ∀ o b, b ∈ [s₁.heap.objs.size] → b < (s₁.heap.push o).objs.size := fun o b hb => by rw [List.mem_singleton.mp hb, Heap.size_push]; exact Nat.lt_succ_self _
  cases ha : X.cps.all (· < 128)
  · refine wpAny_pyIter_wide ha ?_
    exact block_U (Walks.strWide hh s₁.heap.objs.size X tX) hsz (fun i h st => by obtain ⟨o, e, _⟩ := st; exact ⟨o, e⟩) str_st hcell hkind hx ⟨_, Heap.get?_push_size _ rfl, rfl, rfl⟩ (bel _)
      (F.keeps (up _)) (N.grown (up _)) (Nat.ne_of_lt F.ns.lt) (next_is_new F) (fun p hp => Nat.ne_of_lt (Heap.lt_size (N p hp).1)) trivial (R _) fun D C h tk m' ys news' a b c d e f g i j k l => fin D C h tk m' ys news' a b c d e f g i j k _ l
  · refine wpAny_pyIter_ascii ha ?_
    exact block_U (Walks.strAscii hh s₁.heap.objs.size X tX) hsz (fun i h st => by obtain ⟨o, e, _⟩ := st; exact ⟨o, e⟩) str_st hcell hkind hx ⟨_, Heap.get?_push_size _ rfl, rfl, rfl⟩ (bel _)
      (F.keeps (up _)) (N.grown (up _)) (Nat.ne_of_lt F.ns.lt) (next_is_new F) (fun p hp => Nat.ne_of_lt (Heap.lt_size (N p hp).1)) trivial (R _) fun D C h tk m' ys news' a b c d e f g i j k l => fin D C h tk m' ys news' a b c d e f g i j k _ l
theorem ListComp_ST {ct elt iter : Expr} {x : Str} {px : Pos} {scope : Scope} {cl : List (Str × Addr)} {pos : Pos} {Q : Value → Shared → Prop} (_F₀ : Fr h₀ L s.heap m)
    (hclos : closureFor scope env = pure cl) (hcell : ∀ y ∈ scope.names, y.2 ≠ .cell) (hkind : scope.kind = .function)
    (hnames : ∀ y ∈ scope.names, y.2 = .local → scope.names.lookup y.1 = some .local) (hx : scope.names.lookup x = some .local) (hh : A.handled = none)
    (h : wpAny (model prog w) A (eval iter env) (fun xv s₁ => ∃ X tX news, xv = .str X tX ∧ X.cps.size ≤ sizeLine ∧ Fr h₀ L s₁.heap m ∧ News h₀ L s₁.heap news ∧
      ∀ g, CompRestT prog w A h₀ L m env ct elt x scope cl { s₁ with heap := g } (fun _ => True) (SignAt X) (FinE h₀ L m { s₁ with heap := g } Q) X.cps.size 0 [] news) E s)
    (hs : ∀ x, foldedSetIterable iter env x = pure x := by intro _; rfl) :
    wpAny (model prog w) A (eval (.ListComp elt [⟨.Name x px, iter, [ct], 0⟩] scope pos) env) Q E s := by
  rw [eval_ListComp]
  refine wpAny_comprehension_free (use := none) rfl hs hclos hkind hnames (wpAny_mono h (fun xv s₁ h₁ => ?_) fun _ _ e => e)
  obtain ⟨X, tX, news, rfl, hsz, F, N, R⟩ := h₁
  have fin : ∀ D C h tk m' ys news', Fr h₀ L h m → News h₀ L h ((D, lst ys) :: news') → Off1 D news' → h.Ns C m' → h₀.get? C = none → h₀.get? D = none → C ≠ L → D ≠ L → C ≠ D → (∀ p ∈ news', p.1 ≠ C) → ∀ g, FinE h₀ L m { s₁ with heap := g } Q ys news' → ∃ m', h.Ns C m' ∧ ∀ h'', Heap.SameBut C h h'' → Q (.ref D) { s₁ with heap := h'', toks := tk } := by
    intro D C h tk m' ys news' F' N' o1 hn hC₀ hD₀ hCL hDL hCD offC g fin
    refine ⟨m', hn, fun h'' hs'' => fin D h'' tk (F'.change hs'' hCL hC₀) (fun p hp => ?_) o1⟩
    refine ⟨hs''.extBut _ _ ?_ (N' p hp).1, (N' p hp).2⟩
    rcases List.mem_cons.mp hp with rfl | hp
    · exact Ne.symm hCD
    · exact offC p hp
  have up : ∀ o b o', s₁.heap.get? b = some o' → (s₁.heap.push o).get? b = some o' := fun o b o' e => Heap.get?_push_of_some _ e
  have bel : ∀ o b, b ∈ [s₁.heap.objs.size] → b < (s₁.heap.push o).objs.size := fun o b hb => by rw [List.mem_singleton.mp hb, Heap.size_push]; exact Nat.lt_succ_self _
  cases ha : X.cps.all (· < 128)
  · refine wpAny_pyIter_wide ha ?_
    exact block_T (Walks.strWide hh s₁.heap.objs.size X tX) hsz (fun i h st => by obtain ⟨o, e, _⟩ := st; exact ⟨o, e⟩) str_st hcell hkind hx ⟨_, Heap.get?_push_size _ rfl, rfl, rfl⟩ (bel _)
      (F.keeps (up _)) (N.grown (up _)) (Nat.ne_of_lt F.ns.lt) (next_is_new F) (fun p hp => Nat.ne_of_lt (Heap.lt_size (N p hp).1)) trivial (R _) fun D C h tk m' ys news' a b c d e f g i j k l => fin D C h tk m' ys news' a b c d e f g i j k _ l
  · refine wpAny_pyIter_ascii ha ?_
    exact block_T (Walks.strAscii hh s₁.heap.objs.size X tX) hsz (fun i h st => by obtain ⟨o, e, _⟩ := st; exact ⟨o, e⟩) str_st hcell hkind hx ⟨_, Heap.get?_push_size _ rfl, rfl, rfl⟩ (bel _)
      (F.keeps (up _)) (N.grown (up _)) (Nat.ne_of_lt F.ns.lt) (next_is_new F) (fun p hp => Nat.ne_of_lt (Heap.lt_size (N p hp).1)) trivial (R _) fun D C h tk m' ys news' a b c d e f g i j k l => fin D C h tk m' ys news' a b c d e f g i j k _ l
theorem strs_snoc {y : Str} {t : Tok} : ∀ {vs : List Value} {ys : List Str}, StrsAre vs ys → StrsAre (vs ++ [.str y t]) (ys ++ [y])
  | _, _, .nil => .cons y t .nil
  | _, _, .cons z u r => .cons z u (strs_snoc r)
theorem comp_rest_S {elt : Expr} {x : Str} {scope : Scope} {cl : List (Str × Addr)} {S : List (Addr × Obj) → Prop} {Fin : List Value → List (Addr × Obj) → Prop} {news : List (Addr × Obj)} {X : Str} (g : Nat → Str)
    (turn : ∀ c t I oI C oC D m₂ ys h tk (E' : Value → Shared → Prop), c ∈ X.cps.toList → NsObj oC m₂ → m₂ x = some (.str ⟨#[c]⟩ t) → Fr h₀ L h m → News h₀ L h ((I, oI) :: (C, oC) :: (D, lst ys) :: news) → Off3 I C D news → ((@Ne Nat I C) ∧ (@Ne Nat I D) ∧ (@Ne Nat C D)) →
      wpAny (model prog w) A (eval elt (compEnvC scope cl C env)) (CompEnd h₀ L m { s with heap := h, toks := tk } I oI C oC D (lst ys) S (fun y news' => KCtEl news (g c) y news')) E' { s with heap := h, toks := tk })
    (fin : ∀ ys, StrsAre ys (X.cps.toList.map g) → Fin ys news) : CompRest prog w A h₀ L m env elt x scope cl s S (SignAt X) Fin X.cps.size 0 [] news := by
  have key : ∀ (j i : Nat) (ys : List Value), i + j = X.cps.size → StrsAre ys ((X.cps.toList.take i).map g) → CompRest prog w A h₀ L m env elt x scope cl s S (SignAt X) Fin j i ys news := by
    intro j
    induction j with
    | zero =>
      intro i ys hi hy
      rw [List.take_of_length_le (by rw [Array.length_toList]; omega)] at hy
      exact CompRest.zero (fin ys hy)
    | succ j ih =>
      intro i ys hi hy
      refine CompRest.succ ?_
      intro v I oI C oC D m₂ h tk E' hv hC hx F N off ne
      obtain ⟨c, u, hc, rfl⟩ := hv
      have hc' : X.cps.toList[i]? = some c := by rw [Array.getElem?_toList]; exact hc
      refine wpAny_mono (turn c u I oI C oC D m₂ ys h tk E' (List.mem_of_getElem? hc') hC hx F N off ne) (fun y s₂ hq => ?_) fun _ _ e => e
      obtain ⟨h', tk', nw, e, F', N', off', hS, hn, t', hy'⟩ := hq
      rw [hn] at N' off' hS
      refine ⟨h', tk', news, e, F', N', off', hS, ?_⟩
      rw [hy']
      refine ih (i + 1) _ (by omega) ?_
      rw [List.take_add_one, hc']
      simpa using strs_snoc hy
  exact key _ 0 [] (by omega) (by simp only [List.take_zero, List.map_nil]; exact .nil)
end
end Mine
end
-- part Lt
section
namespace Mine
noncomputable def pieceL : List Str := [Str.ofString "\"", Str.ofString "'", Str.ofString "&", Str.ofString "<", Str.ofString "\n", Str.ofString " ", Str.ofString "", Str.ofString ">/=", Str.ofString "&lt;", Str.ofString "#\t\\\r"]
noncomputable def piece (c : Nat) : Str := pieceL.getD (c - 48) (Str.ofString "")
noncomputable def lawText (n : Int) : Str := Txt.join (Str.ofString "") ((Str.ofString (toString ((if n < 0 then -n else n).fmod 1000))).cps.toList.map piece)
noncomputable def digOk (k : Nat) : Bool := (Str.ofString (toString (k : Int))).cps.toList.all (fun c => 48 ≤ c && c ≤ 57) && decide ((Str.ofString (toString (k : Int))).cps.size ≤ 3)
theorem digs_ok : ∀ k, k < 1000 → digOk k = true := by decide +kernel
theorem dig_ten (c : Nat) (h1 : 48 ≤ c) (h2 : c ≤ 57) : c = 48 ∨ c = 49 ∨ c = 50 ∨ c = 51 ∨ c = 52 ∨ c = 53 ∨ c = 54 ∨ c = 55 ∨ c = 56 ∨ c = 57 := by
  obtain ⟨k, rfl⟩ := Nat.exists_eq_add_of_le h1
  have : k ∈ List.range 10 := List.mem_range.mpr (Nat.lt_of_add_lt_add_left (n := 48) (Nat.lt_succ_of_le h2))
  exact (show ∀ k ∈ List.range 10, 48 + k = 48 ∨ 48 + k = 49 ∨ 48 + k = 50 ∨ 48 + k = 51 ∨ 48 + k = 52 ∨ 48 + k = 53 ∨ 48 + k = 54 ∨ 48 + k = 55 ∨ 48 + k = 56 ∨ 48 + k = 57 by decide) k this
theorem dig_ok (n : Int) : (∀ c ∈ (Str.ofString (toString ((if n < 0 then -n else n).fmod 1000))).cps.toList, c = 48 ∨ c = 49 ∨ c = 50 ∨ c = 51 ∨ c = 52 ∨ c = 53 ∨ c = 54 ∨ c = 55 ∨ c = 56 ∨ c = 57) ∧ (Str.ofString (toString ((if n < 0 then -n else n).fmod 1000))).cps.size ≤ 3 := by
  generalize (if n < 0 then -n else n) = a
  have h1 : 0 ≤ a.fmod 1000 := Int.fmod_nonneg_of_pos a (by decide)
  have h2 : a.fmod 1000 < 1000 := Int.fmod_lt_of_pos a (by decide)
  obtain ⟨k, hk⟩ := Int.eq_ofNat_of_zero_le h1
  rw [hk]
  have := digs_ok k (by omega)
  unfold digOk at this
  rw [Bool.and_eq_true, List.all_eq_true] at this
  refine ⟨fun c hc => ?_, by simpa using this.2⟩
  have := this.1 c hc
  rw [Bool.and_eq_true, decide_eq_true_eq, decide_eq_true_eq] at this
  exact dig_ten c this.1 this.2
section
variable {w : World} {dp un : Nat} {gd : Option (List Code)} {A₀ : Around} {base h₀ : Heap} {L : Addr} {m : Str → Option Value} {s : Shared} {p : Program} {loose : List Str} {mean : ExcName → Option Value} {mg mb : Str → Option Value} {env : Env} {outer : List Env} {Q E : Value → Shared → Prop} {news : List (Addr × Obj)}
theorem lt_ct {n : Int} {t : Tok} (B : Below A₀ base outer h₀) (F : Fr h₀ L s.heap m) (X : (Mine.KK w.params).In h₀)
  (N : News h₀ L s.heap news)
  (T : Top p loose mean mg mb h₀) (hf : env.frame = some L) (hke : env.scope.kind = .function) (hd : dp + 16 < 1000)
  (hQ : ∀ h' k' tr, Fr h₀ L h' m → News h₀ L h' news → Q (.str (lawText n) tr) { s with heap := h', toks := k' }) :
  wpAny (model PG w) (Around.mk none dp (some (env :: outer)) gd un) (call (.ref 765) [.int n t] []) Q E s := by
  refine wpAny_call ?_
  refine' call_smallC B F X N (small := []) (fun _ h => nomatch h) T rfl hf hke ?k6 ?k7 ?k8 ?k9 ?kB ?kD ?_ ?c2 ?c3 ?c4
  (case k6 => k_is)
  (case k7 => k_is)
  (case k8 => (show dp < 1000); omega)
  (case k9 => first | exact BindsTo.of_eq rfl | exact binds_K (by k_in) rfl (by k_is) rfl rfl rfl)
  (case kB => exact rfl)
  (case kD => decide +kernel)
  (case c2 => exact rfl)
  (case c3 => exact rfl)
  (case c4 => exact rfl)
  intro g L' h₁ tk1 cells F' N' Y' B' X' T' l1 kg
  (try k_fold)
  have N0 := fun (_ : Unit) => N
  clear N
  (try clear l1)
  k_cells Y'
  (try simp only [List.cons_append, List.nil_append] at N')
  (try dsimp only)
  (try k_fold)
  repeat ((fail_if_success (with_reducible show wpAny _ _ (eval (Expr.ListComp _ _ _ _) _) _ _ _)); (first | (focus ((with_reducible show wpAny _ _ (eval (PySem.Expr.ListComp _ _ _ _) _) _ _ _); (refine ListComp_S (by k_asm) (by with_unfolding_all rfl) (by decide) (by rfl) (by decide) (by rfl) (by rfl) ?_))) | walk_at "one step"))
  refine' ListComp_S ?f0 ?c1 ?c2 ?c3 ?c4 ?c5 ?c6 ?_
  case f0 => k_asm
  case c1 => with_unfolding_all rfl
  case c2 => decide
  case c3 => rfl
  case c4 => decide
  case c5 => rfl
  case c6 => rfl
  repeat ((fail_if_success (with_reducible show Exists _)); (first | (focus ((with_reducible show wpAny _ _ (eval (PySem.Expr.ListComp _ _ _ _) _) _ _ _); (refine ListComp_S (by k_asm) (by with_unfolding_all rfl) (by decide) (by rfl) (by decide) (by rfl) (by rfl) ?_))) | walk_at "one step"))
  refine' ⟨_, _, _, rfl, ?sz, ?zF, ?zN, ?zR⟩
  case zF => assumption
  case zN => assumption
  case sz => exact Nat.le_trans (dig_ok n).2 (by rw [sizeLine_eq]; decide)
  case zR =>
    intro gg
    refine' comp_rest_S piece ?turn ?fin
    case turn =>
      intro c t' I oI C oC D m₂ ys h tk5 E' hc hC hx F5 N5 off' ne'
      obtain ⟨ne1, ne2, ne3⟩ := ne'
      (try (simp only [LCg.Off3, and_true] at off'))
      have hc1 := (dig_ok n).1 c hc
      rcases hc1 with rfl | rfl | rfl | rfl | rfl | rfl | rfl | rfl | rfl | rfl
      all_goals (repeat ((fail_if_success (with_reducible show KCtEl _ _ _ _)); (first | (focus ((with_reducible show wpAny _ _ (eval (PySem.Expr.ListComp _ _ _ _) _) _ _ _); (refine ListComp_S (by k_asm) (by with_unfolding_all rfl) (by decide) (by rfl) (by decide) (by rfl) (by rfl) ?_))) | walk_at "one step")))
      all_goals exact ⟨rfl, _, rfl⟩
    case fin =>
      intro ys hys D h tk5 F5 N5 off1
      have hcar := hys.carried
      rw [List.map_map] at hcar
      have hsz3 := (dig_ok n).2
      (first | (focus ((with_reducible show wpAny _ _ (eval (PySem.Expr.ListComp _ _ _ _) _) _ _ _); (refine ListComp_S (by k_asm) (by with_unfolding_all rfl) (by decide) (by rfl) (by decide) (by rfl) (by rfl) ?_))) | walk_at "one step")
      refine' KT.join_B (g := piece) (l := (Str.ofString (toString ((if n < 0 then -n else n).fmod 1000))).cps.toList) 4 ?j1 ?j2 ?j3 ?j4 (by decide) ?_
      case j1 => exact News.isList N5 (.head _)
      case j2 => exact hcar
      case j3 =>
        intro c hc
        have hc1 := (dig_ok n).1 c hc
        rcases hc1 with rfl | rfl | rfl | rfl | rfl | rfl | rfl | rfl | rfl | rfl <;> decide
      case j4 => rw [Array.length_toList]; omega
      intro t9 k9
      (repeat' (first | (focus ((with_reducible show wpAny _ _ (eval (PySem.Expr.ListComp _ _ _ _) _) _ _ _); (refine ListComp_S (by k_asm) (by with_unfolding_all rfl) (by decide) (by rfl) (by decide) (by rfl) (by rfl) ?_))) | walk_at "one step"))
      refine' hQ _ _ _ ?hF ?hN
      (case hF => assumption)
      (case hN => (refine' news_kept (N0 ()) kg ?zF; (case zF => assumption)))
end
end Mine
end
-- part Fo
section
namespace Mine
inductive Fo
  | nil
  | cons (nm : Str) (ps : List (Str × Str)) (kids rest : Fo)
noncomputable def Fo.app : Fo → Fo → Fo
  | .nil, g => g
  | .cons n p k r, g => .cons n p k (r.app g)
inductive RdP (G : Addr → Obj → Prop) (p : Str × Str) (R : List Value → Prop) (vs : List Value) : Prop
  | mk (a : Addr) (t1 t2 : Tok) (vs' : List Value) (e : vs = .ref a :: vs') (g : G a { cls := .type "tuple", data := .seq #[.str p.1 t1, .str p.2 t2] }) (r : R vs')
noncomputable def RdPs (G : Addr → Obj → Prop) : List (Str × Str) → List Value → Prop
  | [] => fun vs => vs = []
  | p :: ps => RdP G p (RdPs G ps)
inductive RdN (G : Addr → Obj → Prop) (n : Str) (ps : List (Str × Str)) (K R : List Value → Prop) (vs : List Value) : Prop
  | mk (b : Addr) (t : Tok) (p kk : Addr) (pv kv : Array Value) (n1 n2 n3 : Nat) (vs' : List Value) (e : vs = .ref b :: vs') (g1 : G b (listOf #[.str n t, .ref p, .ref kk] n1)) (g2 : G p (listOf pv n2)) (rp : RdPs G ps pv.toList) (g3 : G kk (listOf kv n3)) (rk : K kv.toList) (rr : R vs')
noncomputable def RdFo (G : Addr → Obj → Prop) : Fo → List Value → Prop
  | .nil => fun vs => vs = []
  | .cons n ps k r => RdN G n ps (RdFo G k) (RdFo G r)
theorem RdPs.mono {G G' : Addr → Obj → Prop} (h : ∀ a o, G a o → G' a o) : ∀ {ps : List (Str × Str)} {vs : List Value}, RdPs G ps vs → RdPs G' ps vs
  | [], _, e => e
  | _ :: _, _, ⟨a, t1, t2, vs', e, g, r⟩ => ⟨a, t1, t2, vs', e, h _ _ g, r.mono h⟩
theorem RdFo.mono {G G' : Addr → Obj → Prop} (h : ∀ a o, G a o → G' a o) : ∀ {f : Fo} {vs : List Value}, RdFo G f vs → RdFo G' f vs
  | .nil, _, e => e
  | .cons _ _ _ _, _, ⟨b, t, p, kk, pv, kv, n1, n2, n3, vs', e, g1, g2, rp, g3, rk, rr⟩ => ⟨b, t, p, kk, pv, kv, n1, n2, n3, vs', e, h _ _ g1, h _ _ g2, rp.mono h, h _ _ g3, rk.mono h, rr.mono h⟩
theorem RdFo.app {G : Addr → Obj → Prop} : ∀ {f g : Fo} {vs ws : List Value}, RdFo G f vs → RdFo G g ws → RdFo G (f.app g) (vs ++ ws)
  | .nil, _, _, _, e, h => by subst e; exact h
  | .cons _ _ _ _, _, _, _, ⟨b, t, p, kk, pv, kv, n1, n2, n3, vs', e, g1, g2, rp, g3, rk, rr⟩, h => ⟨b, t, p, kk, pv, kv, n1, n2, n3, vs' ++ _, by rw [e]; rfl, g1, g2, rp, g3, rk, rr.app h⟩
end Mine
end
-- part Fp
section
namespace Mine
noncomputable def qv (v : Str) : Str := quo (ent3 (amp v))
noncomputable def Fo.items : Fo → List (Str × List (Str × Str) × Fo)
  | .nil => []
  | .cons n p k r => (n, p, k) :: r.items
noncomputable def Fo.isNil : Fo → Bool
  | .nil => true
  | .cons _ _ _ _ => false
noncomputable def Fo.take : Fo → Nat → Fo
  | _, 0 => .nil
  | .nil, _ => .nil
  | .cons n p k r, i + 1 => .cons n p k (r.take i)
noncomputable def Fo.size : Fo → Nat
  | .nil => 0
  | .cons _ _ k r => k.size + r.size + 1
noncomputable def outA (p : Str × Str) : Str := (if p.2.length % 2 = 1 then Str.ofString "\n" else if p.1 = Str.ofString "k" then Str.ofString " " else Str.empty) ++ p.1 ++ Str.ofString "=" ++ qv p.2
noncomputable def nlA (p : Str × Str) : Int := if p.2.length % 2 = 1 then 1 else 0
noncomputable def outPs : List (Str × Str) → Str
  | [] => Str.empty
  | p :: r => outA p ++ outPs r
noncomputable def nlPs : List (Str × Str) → Int
  | [] => 0
  | p :: r => nlA p + nlPs r
noncomputable def outN (nm : Str) (ps : List (Str × Str)) (kn : Bool) (ko : Str) : Str :=
  Str.ofString "<" ++ nm ++ outPs ps ++ (if kn = true ∧ ps.length < 2 then Str.ofString "/>" else Str.ofString ">" ++ ko ++ Str.ofString "</" ++ nm ++ Str.ofString ">") ++ (if ps.length = 1 then Str.ofString "\n" else Str.empty)
noncomputable def nlN (ps : List (Str × Str)) (kl : Int) : Int := nlPs ps + kl + (if ps.length = 1 then 1 else 0)
noncomputable def outF : Fo → Str
  | .nil => Str.empty
  | .cons nm ps k r => outN nm ps k.isNil (outF k) ++ outF r
noncomputable def nlF : Fo → Int
  | .nil => 0
  | .cons _ ps k r => nlN ps (nlF k) + nlF r
noncomputable def rowsF : Fo → Int → List Int
  | .nil, _ => []
  | .cons _ ps k r, row => row :: (rowsF k (row + nlPs ps) ++ rowsF r (row + nlN ps (nlF k)))
theorem Fo.take_nil : ∀ i, Fo.take .nil i = .nil
  | 0 => rfl
  | _ + 1 => rfl
theorem outF_take : ∀ (f : Fo) (i : Nat) (it : Str × List (Str × Str) × Fo), f.items[i]? = some it → outF (f.take (i + 1)) = outF (f.take i) ++ outN it.1 it.2.1 it.2.2.isNil (outF it.2.2)
  | .nil, i, it, h => by cases h
  | .cons nm ps k r, 0, it, h => by
    obtain rfl := (Option.some.inj h).symm
    cases r <;> simp only [Fo.take, outF, Str.append_empty, Str.empty_append]
  | .cons nm ps k r, i + 1, it, h => by
    have := outF_take r i it h
    simp only [Fo.take, outF] at this ⊢
    rw [this, Str.append_assoc]
theorem nlF_take : ∀ (f : Fo) (i : Nat) (it : Str × List (Str × Str) × Fo), f.items[i]? = some it → nlF (f.take (i + 1)) = nlF (f.take i) + nlN it.2.1 (nlF it.2.2)
  | .nil, i, it, h => by cases h
  | .cons nm ps k r, 0, it, h => by
    obtain rfl := (Option.some.inj h).symm
    cases r <;> simp only [Fo.take, nlF] <;> omega
  | .cons nm ps k r, i + 1, it, h => by
    have := nlF_take r i it h
    simp only [Fo.take, nlF] at this ⊢
    rw [this]; omega
theorem rowsF_take : ∀ (f : Fo) (i : Nat) (it : Str × List (Str × Str) × Fo) (row : Int), f.items[i]? = some it →
    rowsF (f.take (i + 1)) row = rowsF (f.take i) row ++ (row + nlF (f.take i)) :: rowsF it.2.2 (row + nlF (f.take i) + nlPs it.2.1)
  | .nil, i, it, row, h => by cases h
  | .cons nm ps k r, 0, it, row, h => by
    obtain rfl := (Option.some.inj h).symm
    cases r <;> simp only [Fo.take, rowsF, nlF, Int.add_zero, List.append_nil, List.nil_append]
  | .cons nm ps k r, i + 1, it, row, h => by
    have := rowsF_take r i it (row + nlN ps (nlF k)) h
    simp only [Fo.take, rowsF, nlF] at this ⊢
    rw [this, Int.add_assoc row, List.cons_append, List.append_assoc]
theorem Fo.take_all : ∀ (f : Fo), f.take f.items.length = f
  | .nil => rfl
  | .cons nm ps k r => by
    show Fo.cons nm ps k (r.take r.items.length) = _
    rw [Fo.take_all r]
theorem outF_le : ∀ (f : Fo) (i : Nat) (it : Str × List (Str × Str) × Fo), f.items[i]? = some it → (outF (f.take i)).length + (outN it.1 it.2.1 it.2.2.isNil (outF it.2.2)).length ≤ (outF f).length
  | .nil, i, it, h => by cases h
  | .cons nm ps k r, 0, it, h => by
    obtain rfl := (Option.some.inj h).symm
    simp only [Fo.take, outF, Str.length_append]
    have : Str.length Str.empty = 0 := rfl
    omega
  | .cons nm ps k r, i + 1, it, h => by
    have := outF_le r i it h
    simp only [Fo.take, outF, Str.length_append] at this ⊢
    omega
inductive RdIt (G : Addr → Obj → Prop) (it : Str × List (Str × Str) × Fo) (v : Value) : Prop
  | mk (b : Addr) (t : Tok) (p kk : Addr) (pv kv : Array Value) (n1 n2 n3 : Nat) (e : v = .ref b) (g1 : G b (listOf #[.str it.1 t, .ref p, .ref kk] n1)) (g2 : G p (listOf pv n2)) (rp : RdPs G it.2.1 pv.toList) (g3 : G kk (listOf kv n3)) (rk : RdFo G it.2.2 kv.toList)
theorem RdFo.len {G : Addr → Obj → Prop} : ∀ {f : Fo} {vs : List Value}, RdFo G f vs → vs.length = f.items.length
  | .nil, vs, h => by rw [show vs = [] from h]; rfl
  | .cons _ _ _ _, _, ⟨b, t, p, kk, pv, kv, n1, n2, n3, vs', e, g1, g2, rp, g3, rk, rr⟩ => by rw [e]; simp only [List.length_cons, Fo.items, rr.len]
theorem RdFo.get {G : Addr → Obj → Prop} : ∀ {f : Fo} {vs : List Value} {i : Nat} {v : Value}, RdFo G f vs → vs[i]? = some v → ∃ it, f.items[i]? = some it ∧ RdIt G it v
  | .nil, vs, i, v, h, hv => by rw [show vs = [] from h] at hv; cases hv
  | .cons nm ps k r, _, 0, v, ⟨b, t, p, kk, pv, kv, n1, n2, n3, vs', e, g1, g2, rp, g3, rk, rr⟩, hv => by
    subst e
    obtain rfl := (Option.some.inj hv).symm
    exact ⟨(nm, ps, k), rfl, b, t, p, kk, pv, kv, n1, n2, n3, rfl, g1, g2, rp, g3, rk⟩
  | .cons nm ps k r, _, i + 1, v, ⟨b, t, p, kk, pv, kv, n1, n2, n3, vs', e, g1, g2, rp, g3, rk, rr⟩, hv => by
    subst e
    exact rr.get hv
theorem RdPs.len {G : Addr → Obj → Prop} : ∀ {ps : List (Str × Str)} {vs : List Value}, RdPs G ps vs → vs.length = ps.length
  | [], _, e => by rw [show _ = [] from e]; rfl
  | _ :: _, _, ⟨a, t1, t2, vs', e, g, r⟩ => by rw [e]; simp only [List.length_cons, r.len]
theorem RdPs.get {G : Addr → Obj → Prop} : ∀ {ps : List (Str × Str)} {vs : List Value} {i : Nat} {v : Value}, RdPs G ps vs → vs[i]? = some v → ∃ p a t1 t2, ps[i]? = some p ∧ v = .ref a ∧ G a { cls := .type "tuple", data := .seq #[.str p.1 t1, .str p.2 t2] }
  | [], _, i, v, e, hv => by rw [show _ = [] from e] at hv; cases hv
  | p :: _, _, 0, v, ⟨a, t1, t2, vs', e, g, r⟩, hv => by
    subst e
    obtain rfl := (Option.some.inj hv).symm
    exact ⟨p, a, t1, t2, rfl, rfl, g⟩
  | p :: _, _, i + 1, v, ⟨a, t1, t2, vs', e, g, r⟩, hv => by
    subst e
    exact r.get hv
theorem outPs_take : ∀ (ps : List (Str × Str)) (i : Nat) (p : Str × Str), ps[i]? = some p → outPs (ps.take (i + 1)) = outPs (ps.take i) ++ outA p
  | [], i, p, h => by cases h
  | q :: r, 0, p, h => by
    obtain rfl := (Option.some.inj h).symm
    simp only [List.take, outPs, Str.append_empty, Str.empty_append]
  | q :: r, i + 1, p, h => by
    have := outPs_take r i p h
    simp only [List.take, outPs] at this ⊢
    rw [this, Str.append_assoc]
theorem nlPs_take : ∀ (ps : List (Str × Str)) (i : Nat) (p : Str × Str), ps[i]? = some p → nlPs (ps.take (i + 1)) = nlPs (ps.take i) + nlA p
  | [], i, p, h => by cases h
  | q :: r, 0, p, h => by
    obtain rfl := (Option.some.inj h).symm
    simp only [List.take, nlPs]; omega
  | q :: r, i + 1, p, h => by
    have := nlPs_take r i p h
    simp only [List.take, nlPs] at this ⊢
    rw [this]; omega
theorem outPs_le : ∀ (ps : List (Str × Str)) (i : Nat) (p : Str × Str), ps[i]? = some p → (outPs (ps.take i)).length + (outA p).length ≤ (outPs ps).length
  | [], i, p, h => by cases h
  | q :: r, 0, p, h => by
    obtain rfl := (Option.some.inj h).symm
    simp only [List.take, outPs, Str.length_append]
    have : Str.length Str.empty = 0 := rfl
    omega
  | q :: r, i + 1, p, h => by
    have := outPs_le r i p h
    simp only [List.take, outPs, Str.length_append] at this ⊢
    omega
theorem nlA_le (p : Str × Str) : 0 ≤ nlA p ∧ nlA p ≤ (outA p).length := by
  have e : (Str.ofString "\n").length = 1 := by decide +kernel
  unfold nlA outA
  simp only [Str.length_append]
  split <;> (try rw [e]) <;> omega
theorem nlPs_le : ∀ ps : List (Str × Str), 0 ≤ nlPs ps ∧ nlPs ps ≤ (outPs ps).length
  | [] => ⟨Int.le_refl _, Int.le_refl _⟩
  | p :: r => by
    have h1 := nlA_le p
    have h2 := nlPs_le r
    simp only [nlPs, outPs, Str.length_append]
    omega
theorem nlF_le : ∀ f : Fo, 0 ≤ nlF f ∧ nlF f ≤ (outF f).length
  | .nil => ⟨Int.le_refl _, Int.le_refl _⟩
  | .cons nm ps k r => by
    have h1 := nlPs_le ps
    have h2 := nlF_le k
    have h3 := nlF_le r
    have e : (Str.ofString "\n").length = 1 := by decide +kernel
    have h4 : k.isNil = true → nlF k = 0 := by cases k <;> simp [Fo.isNil, nlF]
    simp only [nlF, nlN, outF, outN, Str.length_append]
    by_cases hc : k.isNil = true ∧ ps.length < 2
    · rw [if_pos hc, h4 hc.1]
      split <;> (try rw [e]) <;> omega
    · rw [if_neg hc]
      simp only [Str.length_append]
      split <;> (try rw [e]) <;> omega
end Mine
end
-- part Rf
section
namespace Mine
noncomputable def Fo.All (N : Str → Prop) (V : Str × Str → Prop) : Fo → Prop
  | .nil => True
  | .cons n ps k r => N n ∧ (∀ p ∈ ps, V p) ∧ k.All N V ∧ r.All N V
noncomputable def pairD (p : Str × Str) : PyData := .tuple [.str p.1, .str p.2]
noncomputable def dataF : Fo → List PyData
  | .nil => []
  | .cons n ps k r => .list [.str n, .list (ps.map pairD), .list (dataF k)] :: dataF r
theorem RdPs.reads {G : Addr → Obj → Prop} {h : Heap} (hG : ∀ a o, G a o → h.get? a = some o) : ∀ {ps : List (Str × Str)} {vs : List Value}, RdPs G ps vs → ∃ as, ReadsAll h vs (ps.map pairD) as
  | [], _, e => by rw [show _ = [] from e]; exact ⟨_, .nil⟩
  | p :: _, _, ⟨a, t1, t2, vs', e, g, r⟩ => by
    obtain ⟨as, R⟩ := r.reads hG
    rw [e]
    exact ⟨_, .cons (.tuple (hG _ _ g) rfl rfl (.cons (.str _ _) (.cons (.str _ _) .nil))) R⟩
theorem RdFo.reads {G : Addr → Obj → Prop} {h : Heap} (hG : ∀ a o, G a o → h.get? a = some o) : ∀ {f : Fo} {vs : List Value}, RdFo G f vs → ∃ as, ReadsAll h vs (dataF f) as
  | .nil, _, e => by rw [show _ = [] from e]; exact ⟨_, .nil⟩
  | .cons _ _ _ _, _, ⟨b, t, p, kk, pv, kv, n1, n2, n3, vs', e, g1, g2, rp, g3, rk, rr⟩ => by
    obtain ⟨as, R⟩ := rr.reads hG
    obtain ⟨bs, S⟩ := rk.reads hG
    obtain ⟨cs, P⟩ := rp.reads hG
    rw [e]
    exact ⟨_, .cons (.list (hG _ _ g1) rfl rfl (.cons (.str _ _) (.cons (.list (hG _ _ g2) rfl rfl P) (.cons (.list (hG _ _ g3) rfl rfl S) .nil)))) R⟩
theorem eqvAll_pairs : ∀ ps : List (Str × Str), PyData.eqvAll (ps.map pairD) (ps.map pairD) = true
  | [] => rfl
  | p :: r => by simp only [List.map_cons, pairD, PyData.eqvAll, PyData.eqv, beq_self_eq_true, Bool.and_true, Bool.true_and]; exact eqvAll_pairs r
theorem eqvAll_dataF : ∀ f : Fo, PyData.eqvAll (dataF f) (dataF f) = true
  | .nil => rfl
  | .cons n ps k r => by
    simp only [dataF, PyData.eqvAll, PyData.eqv, beq_self_eq_true, Bool.and_true, Bool.true_and, eqvAll_pairs, eqvAll_dataF k, eqvAll_dataF r]
theorem eqvAll_nil (f : Fo) : PyData.eqvAll (dataF f) [] = f.isNil := by cases f <;> rfl
noncomputable def POk (p : Str × Str) : Prop := PyData.strOk p.1 = true ∧ PyData.strOk p.2 = true
theorem lay_pairs : ∀ ps : List (Str × Str), (∀ p ∈ ps, POk p) → PyData.canLayAll0 (ps.map pairD) = true
  | [], _ => rfl
  | p :: r, h => by
    have h1 := h p (.head _)
    simp only [List.map_cons, pairD, PyData.canLayAll0, PyData.canLay0, h1.1, h1.2, Bool.true_and, Bool.and_true]
    exact lay_pairs r fun q hq => h q (.tail _ hq)
theorem lay_dataF : ∀ f : Fo, f.All (fun n => PyData.strOk n = true) POk → PyData.canLayAll0 (dataF f) = true
  | .nil, _ => rfl
  | .cons n ps k r, ⟨h1, h2, h3, h4⟩ => by
    simp only [dataF, PyData.canLayAll0, PyData.canLay0, h1, Bool.true_and, Bool.and_true, lay_pairs ps h2, lay_dataF k h3, lay_dataF r h4]
theorem depth_pairs : ∀ ps : List (Str × Str), PyData.depthAll (ps.map pairD) ≤ 1
  | [] => by simp [PyData.depthAll]
  | p :: r => by
    have := depth_pairs r
    simp only [List.map_cons, pairD, PyData.depthAll, PyData.depth]
    omega
theorem depth_dataF : ∀ f : Fo, PyData.depthAll (dataF f) ≤ 2 * f.size + 3
  | .nil => by simp [PyData.depthAll, dataF]
  | .cons n ps k r => by
    have h1 := depth_dataF k
    have h2 := depth_dataF r
    have h3 := depth_pairs ps
    simp only [dataF, PyData.depthAll, PyData.depth, Fo.size]
    omega
theorem shaped_dataF (f : Fo) (h : f.All (fun n => PyData.strOk n = true) POk) (hs : f.size ≤ 30) : SeqAt.shaped (.list (dataF f)) = true := by
  unfold SeqAt.shaped
  have := depth_dataF f
  rw [Bool.and_eq_true]
  refine ⟨by simp only [PyData.canLay0, lay_dataF f h], ?_⟩
  rw [decide_eq_true_eq]
  simp only [PyData.depth]
  omega
section
variable {prog : Program} {w : World} {A : Around} {E : Value → Shared → Prop} {s : Shared} {a b : Addr} {Q : Value → Shared → Prop} {G G' : Addr → Obj → Prop} {f : Fo} {vs ws : List Value} {n1 n2 : Nat}
theorem eq_forests (ha : s.heap.get? a = some (listOf vs.toArray n1)) (hb : s.heap.get? b = some (listOf ws.toArray n2)) (r1 : RdFo G f vs) (g1 : ∀ a o, G a o → s.heap.get? a = some o) (r2 : RdFo G' f ws) (g2 : ∀ a o, G' a o → s.heap.get? a = some o)
    (ho : f.All (fun n => PyData.strOk n = true) POk) (hs : f.size ≤ 30) (hu : A.units + 64 < cLine) (h : Q (.bool true) s) : wpAny (model prog w) A (compareOp .Eq (.ref a) (.ref b)) Q E s := by
  obtain ⟨as, R⟩ := r1.reads g1
  obtain ⟨bs, S⟩ := r2.reads g2
  refine eq_dataH (.list ha rfl rfl R) (.list hb rfl rfl S) (shaped_dataF f ho hs) (shaped_dataF f ho hs) hu ?_
  simp only [PyData.eqv, eqvAll_dataF f]
  exact h
theorem eq_nilF (ha : s.heap.get? a = some (listOf vs.toArray n1)) (hb : s.heap.get? b = some (listOf #[] n2)) (r1 : RdFo G f vs) (g1 : ∀ a o, G a o → s.heap.get? a = some o)
    (ho : f.All (fun n => PyData.strOk n = true) POk) (hs : f.size ≤ 30) (hu : A.units + 64 < cLine) (h : Q (.bool f.isNil) s) : wpAny (model prog w) A (compareOp .Eq (.ref a) (.ref b)) Q E s := by
  obtain ⟨as, R⟩ := r1.reads g1
  refine eq_dataH (.list ha rfl rfl R) (.list hb rfl rfl .nil) (shaped_dataF f ho hs) (by decide) hu ?_
  simp only [PyData.eqv, eqvAll_nil f]
  exact h
end
end Mine
end
-- part Fk2
section
namespace Mine
section
variable {prog : Program} {w : World} {A₀ A : Around} {s : Shared} {base h₀ : Heap} {outer : List Env} {L : Addr} {m : Str → Option Value} {env : Env} {news small : List (Addr × Obj)} {K : Frag}
  {R : Result → Shared → Prop} {name qual : Str} {params : Arguments} {body : List Stmt} {scope : Scope} {dV kV doc pm cdv ct oc : Value} {an od : Option Addr} {osl : Array (Option Value)} {f : Addr} {args : Args} {binds : List (Str × Value)} {p : Program} {loose : List Str} {mean : ExcName → Option Value} {mg mb : Str → Option Value}
theorem call_smallK (B : Below A₀ base outer h₀) (F : Fr h₀ L s.heap m) (X₀ : K.In h₀) (N : News h₀ L s.heap news) (hs : ∀ q ∈ small, q ∈ news) (T : Top p loose mean mg mb h₀) (hA : A.frames = some (env :: outer)) (hf : env.frame = some L) (hke : env.scope.kind = .function)
    (ho : K.lookup f = some ⟨oc, od, .func (fnOf name qual params body scope dV kV doc pm an cdv ct), osl⟩) (hcd : codeIn K cdv qual = true) (hroom : A.depth < recursionLimit)
    (hbind : BindsTo s (fnOf name qual params body scope dV kV doc pm an cdv ct) args binds) (hloc : ∀ y ∈ binds, scope.names.lookup y.1 = some .local)
    (h : ∀ g L' h₁, Fr g L' h₁ (fun y => binds.reverse.lookup y) → News g L' h₁ small → Below A base (env :: outer) g → K.In g → Top p loose mean mg mb g → (∀ q ∈ news, q.1 ∉ small.map (·.1) → g.get? q.1 = some q.2) → (∀ b o, h₀.get? b = some o → g.get? b = some o) →
      wpAny (model prog w) (A.deeper (envOf qual scope L' f cdv)) (execs body (envOf qual scope L' f cdv))
        (fun fl s' => LeaveK h₀ L m g R (match fl with | .ret v => v | _ => .none) s')
        (fun e s' => wpAny (model prog w) (A.deeper (envOf qual scope L' f cdv)) (leaving (envOf qual scope L' f cdv) e) (fun _ s'' => R (.error e) s'') (fun e' s'' => R (.error e') s'') s')
        { s with heap := h₁, toks := s.toks + binds.length })
    (hco : scope.isCoroutine = false) (hgen : scope.isGenerator = false) (hk : scope.kind = .function)
    (hcell : ∀ x ∈ scope.names, x.2 ≠ .cell) : codeAny (model prog w) A (.call (.ref f) args) R s := by
  have Ns : News h₀ L s.heap small := fun q hq => N q (hs q hq)
  obtain ⟨FG, BG, st, lv⟩ := groundX (R := R) B F Ns hA hf hke
  refine codeAny_call_def (fd := fnOf name qual params body scope dV kV doc pm an cdv ct) (body := body) (binds := binds) hroom ((X₀.keeps F.keep) _ _ ho) rfl (T.nolimit.keeps F.keep) (codeRec_of (X₀.keeps F.keep) hcd) rfl hbind hcell hloc (fun h₁ hns hk₁ => ?_) hco hgen hk
  refine wpAny_mono (h _ s.heap.objs.size h₁ ⟨hns, fun b o e => hk₁ b o (of_hideAll _ e), Nat.le_of_eq (hideAll_size _ _)⟩ (fun q hq => ?_) BG (X₀.keeps st) (T.keeps st) (fun q hq hn => ?_) st) (fun fl s' hl => lv _ _ hl) fun _ _ y => y
  · exact ⟨hk₁ _ _ (Ns q hq).1, Nat.ne_of_lt (Heap.lt_size (Ns q hq).1), hideAll_none _ (List.mem_map_of_mem hq)⟩
  · exact hideAll_get _ (N q hq).1 hn
end
section
variable {prog : Program} {w : World} {A : Around} {E : Value → Shared → Prop} {s : Shared} {h₀ : Heap} {L : Addr} {m : Str → Option Value} {l : Addr} {ys : List Value} {Q : Value → Shared → Prop}
theorem len_g (F : Fr h₀ L s.heap m) (hl : h₀.IsList l ys.toArray) (hz : ys.length ≤ 1000) (h : Q (.int (ys.length : Int) (s.toks + 1)) { s with toks := s.toks + 1 + 1 }) :
    wpAny (model prog w) A (call (.builtin "len") [.ref l]) Q E s :=
  kun_lenL (let ⟨o, e, r⟩ := hl; ⟨o, F.keep _ _ e, r⟩) (by simp) (by omega) h
theorem eq_nilG {a b : Addr} {f : Fo} {vs : List Value} {n1 n2 : Nat} {bb : Bool} {news : List (Addr × Obj)} (F : Fr h₀ L s.heap m) (N : News h₀ L s.heap news) (ha : h₀.get? a = some (listOf vs.toArray n1)) (hb : (b, listOf #[] n2) ∈ news) (r1 : RdFo (fun a o => h₀.get? a = some o) f vs)
    (ho : f.All (fun n => PyData.strOk n = true) POk) (hs : f.size ≤ 30) (hu : A.units + 64 < cLine) (hbb : f.isNil = bb) (h : Q (.bool bb) s) : wpAny (model prog w) A (compareOp .Eq (.ref a) (.ref b)) Q E s :=
  eq_nilF (F.keep _ _ ha) (N _ hb).1 r1 (fun a o e => F.keep _ _ e) ho hs hu (by rw [hbb]; exact h)
end
theorem Fo.size_items : ∀ (f : Fo) (i : Nat) (it : Str × List (Str × Str) × Fo), f.items[i]? = some it → (f.take i).size + it.2.2.size + 1 ≤ f.size
  | .nil, i, it, h => by cases h
  | .cons nm ps k r, 0, it, h => by
    obtain rfl := (Option.some.inj h).symm
    simp only [Fo.take, Fo.size]; omega
  | .cons nm ps k r, i + 1, it, h => by
    have := Fo.size_items r i it h
    simp only [Fo.take, Fo.size] at this ⊢
    omega
theorem rowsF_len : ∀ (f : Fo) (row : Int), (rowsF f row).length = f.size
  | .nil, _ => rfl
  | .cons nm ps k r, row => by simp only [rowsF, List.length_cons, List.length_append, rowsF_len k, rowsF_len r, Fo.size]
theorem Fo.All.get {N : Str → Prop} {V : Str × Str → Prop} : ∀ {f : Fo} {i : Nat} {it : Str × List (Str × Str) × Fo}, f.All N V → f.items[i]? = some it → N it.1 ∧ (∀ p ∈ it.2.1, V p) ∧ it.2.2.All N V
  | .nil, i, it, _, h => by cases h
  | .cons nm ps k r, 0, it, ⟨h1, h2, h3, h4⟩, h => by
    obtain rfl := (Option.some.inj h).symm
    exact ⟨h1, h2, h3⟩
  | .cons nm ps k r, i + 1, it, ⟨h1, h2, h3, h4⟩, h => h4.get (i := i) h
noncomputable def Fo.Two : Fo → Prop
  | .nil => True
  | .cons _ ps k r => ps.length ≤ 2 ∧ k.Two ∧ r.Two
theorem Fo.Two.get : ∀ {f : Fo} {i : Nat} {it : Str × List (Str × Str) × Fo}, f.Two → f.items[i]? = some it → it.2.1.length ≤ 2 ∧ it.2.2.Two
  | .nil, i, it, _, h => by cases h
  | .cons nm ps k r, 0, it, ⟨h1, h2, h3⟩, h => by
    obtain rfl := (Option.some.inj h).symm
    exact ⟨h1, h2⟩
  | .cons nm ps k r, i + 1, it, ⟨h1, h2, h3⟩, h => h3.get (i := i) h
theorem outF_nil {f : Fo} (h : f.isNil = true) : outF f = Str.empty ∧ nlF f = 0 ∧ ∀ r, rowsF f r = [] := by
  cases f with
  | nil => exact ⟨rfl, rfl, fun _ => rfl⟩
  | cons => cases h
end Mine
end
-- part Wp
section
namespace Mine
local macro_rules | `(tactic| k_all) => `(tactic| (with_reducible assumption))
theorem ll_nl : (Str.ofString "\n").length = 1 := by decide +kernel
theorem ll_sp : (Str.ofString " ").length = 1 := by decide +kernel
theorem ll_eq : (Str.ofString "=").length = 1 := by decide +kernel
theorem ll_lt : (Str.ofString "<").length = 1 := by decide +kernel
theorem ll_gt : (Str.ofString ">").length = 1 := by decide +kernel
theorem ll_sg : (Str.ofString "/>").length = 2 := by decide +kernel
theorem ll_ls : (Str.ofString "</").length = 2 := by decide +kernel
theorem cat_le {prog : Program} {w : World} {A : Around} {E : Value → Shared → Prop} {s : Shared} {x y : PySem.Str} {t u : Tok} {Q : Value → Shared → Prop} (hz : x.length + y.length ≤ 16777216) (h : ∀ t' k, s.toks ≤ k → Q (.str (x ++ y) t') { s with toks := k }) :
    wpAny (model prog w) A (binaryOp .Add (.str x t) (.str y u)) Q E s :=
  wpAny_toks s.toks (Nat.le_refl _) (KXadd.add (Nat.le_refl _) (Nat.le_refl _) hz fun t' k _ hk => h t' k hk)
noncomputable def QOk (x : Str) : Prop := x.length ≤ 1048576 ∧ (Txt.replace x (Str.ofString "&") (Str.ofString "&amp;")).length ≤ 1048576 ∧
  (Txt.replace (Txt.replace x (Str.ofString "&") (Str.ofString "&amp;")) (Str.ofString ">") (Str.ofString "&gt;")).length ≤ 1048576 ∧ (∀ t i, (rpl (amp x) ((qps t).take i)).length ≤ 900000) ∧ (Txt.replace (ent3 (amp x)) (Str.ofString "\"") (Str.ofString "&quot;")).length ≤ 900000
noncomputable def wrFor : Stmt := at_ (bodyOf (defAt 28)) 0
noncomputable def wrFor2 : Stmt := at_ (bodyOf wrFor) 2
noncomputable def wrScope : Scope := scopeOf (defAt 28)
noncomputable abbrev wrEnv (L : Addr) : Env := envOf (Str.ofString "_law_written") wrScope L 779 (.ref 778)
noncomputable abbrev wrLoc (ta ra : Addr) (t : Str) (tt : Tok) (row : Int) (tr : Tok) (nm pr inn ky vl : Option Value) : Str → Option Value := fun y =>
  if y = Str.ofString "text" then some (.str t tt) else if y = Str.ofString "row" then some (.int row tr) else if y = Str.ofString "value" then vl else if y = Str.ofString "key" then ky else if y = Str.ofString "inner" then inn else if y = Str.ofString "pairs" then pr else if y = Str.ofString "name" then nm
  else if y = Str.ofString "tree" then some (.ref ta) else if y = Str.ofString "rows" then some (.ref ra) else none
theorem wrLoc_1 (ta ra : Addr) (t t' u : Str) (tt tt' ut : Tok) (row row' : Int) (tr tr' : Tok) (nm pr inn ky vl ky' vl' : Option Value) :
    (fun y => if y = Str.ofString "text" then some (Value.str t' tt') else if y = Str.ofString "row" then some (Value.int row' tr') else if y = Str.ofString "text" then some (Value.str u ut) else if y = Str.ofString "value" then vl' else if y = Str.ofString "key" then ky' else wrLoc ta ra t tt row tr nm pr inn ky vl y) = wrLoc ta ra t' tt' row' tr' nm pr inn ky' vl' := by
  funext y
  by_cases h1 : y = Str.ofString "text"
  · simp only [wrLoc, if_pos h1]
  by_cases h2 : y = Str.ofString "row"
  · simp only [wrLoc, if_neg h1, if_pos h2]
  by_cases h3 : y = Str.ofString "value"
  · simp only [wrLoc, if_neg h1, if_neg h2, if_pos h3]
  by_cases h4 : y = Str.ofString "key"
  · simp only [wrLoc, if_neg h1, if_neg h2, if_neg h3, if_pos h4]
  simp only [wrLoc, if_neg h1, if_neg h2, if_neg h3, if_neg h4]
theorem wrLoc_2 (ta ra : Addr) (t t' u : Str) (tt tt' ut : Tok) (row : Int) (tr : Tok) (nm pr inn ky vl ky' vl' : Option Value) :
    (fun y => if y = Str.ofString "text" then some (Value.str t' tt') else if y = Str.ofString "text" then some (Value.str u ut) else if y = Str.ofString "value" then vl' else if y = Str.ofString "key" then ky' else wrLoc ta ra t tt row tr nm pr inn ky vl y) = wrLoc ta ra t' tt' row tr nm pr inn ky' vl' := by
  funext y
  by_cases h1 : y = Str.ofString "text"
  · simp only [wrLoc, if_pos h1]
  by_cases h2 : y = Str.ofString "row"
  · subst h2; rfl
  by_cases h3 : y = Str.ofString "value"
  · simp only [wrLoc, if_neg h1, if_neg h2, if_pos h3]
  by_cases h4 : y = Str.ofString "key"
  · simp only [wrLoc, if_neg h1, if_neg h2, if_neg h3, if_pos h4]
  simp only [wrLoc, if_neg h1, if_neg h2, if_neg h3, if_neg h4]
theorem wrLoc_3 (ta ra : Addr) (t t' : Str) (tt tt' : Tok) (row : Int) (tr : Tok) (nm pr inn ky vl ky' vl' : Option Value) :
    (fun y => if y = Str.ofString "text" then some (Value.str t' tt') else if y = Str.ofString "value" then vl' else if y = Str.ofString "key" then ky' else wrLoc ta ra t tt row tr nm pr inn ky vl y) = wrLoc ta ra t' tt' row tr nm pr inn ky' vl' := by
  funext y
  by_cases h1 : y = Str.ofString "text"
  · simp only [wrLoc, if_pos h1]
  by_cases h2 : y = Str.ofString "row"
  · subst h2; rfl
  by_cases h3 : y = Str.ofString "value"
  · simp only [wrLoc, if_neg h1, if_neg h2, if_pos h3]
  by_cases h4 : y = Str.ofString "key"
  · simp only [wrLoc, if_neg h1, if_neg h2, if_neg h3, if_pos h4]
  simp only [wrLoc, if_neg h1, if_neg h2, if_neg h3, if_neg h4]
theorem odd_of {n : Nat} (h : (n : Int).fmod 2 = 1) : n % 2 = 1 := by
  rw [Int.fmod_eq_emod_of_nonneg _ (by decide)] at h; omega
theorem even_of {n : Nat} (h : (n : Int).fmod 2 ≠ 1) : ¬ n % 2 = 1 := by
  rw [Int.fmod_eq_emod_of_nonneg _ (by decide)] at h; omega
theorem outA_1 (t k v : Str) (h : (v.length : Int).fmod 2 = 1) : t ++ outA (k, v) = t ++ Str.ofString "\n" ++ k ++ Str.ofString "=" ++ quo (ent3 (amp v)) ∧ nlA (k, v) = 1 := by
  unfold outA nlA
  dsimp only
  rw [if_pos (odd_of h), if_pos (odd_of h)]
  exact ⟨by simp only [Str.append_assoc]; rfl, rfl⟩
theorem outA_2 (t k v : Str) (h : (v.length : Int).fmod 2 ≠ 1) (hk : (k == Str.ofString "k") = true) : t ++ outA (k, v) = t ++ Str.ofString " " ++ k ++ Str.ofString "=" ++ quo (ent3 (amp v)) ∧ nlA (k, v) = 0 := by
  unfold outA nlA
  dsimp only
  rw [if_neg (even_of h), if_neg (even_of h), if_pos (beq_iff_eq.mp hk)]
  exact ⟨by simp only [Str.append_assoc]; rfl, rfl⟩
theorem outA_3 (t k v : Str) (h : (v.length : Int).fmod 2 ≠ 1) (hk : (k == Str.ofString "k") = false) : t ++ outA (k, v) = t ++ k ++ Str.ofString "=" ++ quo (ent3 (amp v)) ∧ nlA (k, v) = 0 := by
  unfold outA nlA
  dsimp only
  rw [if_neg (even_of h), if_neg (even_of h), if_neg (fun e => by rw [beq_iff_eq.mpr e] at hk; cases hk), Str.empty_append]
  exact ⟨by simp only [Str.append_assoc]; rfl, rfl⟩
section
variable {w : World} {dp un : Nat} {gd : Option (List Code)} {A₀ : Around} {base h₀ : Heap} {L : Addr} {m : Str → Option Value} {s : Shared} {p : Program} {loose : List Str} {mean : ExcName → Option Value} {mg mb : Str → Option Value} {env : Env} {outer : List Env} {Q : Flow → Shared → Prop} {E : Value → Shared → Prop} {news : List (Addr × Obj)}
theorem wp_pairs {ta ra pa : Addr} {t : Str} {tt tr : Tok} {row : Int} {nm inn ky vl : Option Value} {ps : List (Str × Str)} {pv : List Value} (B : Below A₀ base outer h₀) (F : Fr h₀ L s.heap (wrLoc ta ra t tt row tr nm (some (.ref pa)) inn ky vl)) (X : (Mine.KK w.params).In h₀)
  (N : News h₀ L s.heap news) (hpa : h₀.IsList pa pv.toArray) (hps : RdPs (fun a o => h₀.get? a = some o) ps pv) (hq : ∀ p ∈ ps, QOk p.2) (hlen : t.length + (outPs ps).length ≤ 900000) (hrow : 0 ≤ row ∧ row ≤ 900000)
  (T : Top p loose mean mg mb h₀) (hd : dp + 30 < 1000) (hE : PassesOwn (model PG w) (Around.mk none dp (some (wrEnv L :: outer)) gd un) (wrEnv L) E)
  (hQ : ∀ h' k' tt' tr' ky' vl', Fr h₀ L h' (wrLoc ta ra (t ++ outPs ps) tt' (row + nlPs ps) tr' nm (some (.ref pa)) inn ky' vl') → News h₀ L h' news → Q .next { s with heap := h', toks := k' }) :
  wpAny (model PG w) (Around.mk none dp (some (wrEnv L :: outer)) gd un) (exec wrFor2 (wrEnv L)) Q E s := by
  show wpAny _ _ (exec (Stmt.For _ _ _ _ _) _) _ _ _
  dsimp only [wrEnv]
  rw [show wrScope = Scope.mk _ _ _ _ _ from rfl]
  (try k_fold)
  refine For_turns F ?_ (by intro _; rfl) ?hE
  case hE => exact hE
  have F0 := fun (_ : Unit) => F
  have N0 := fun (_ : Unit) => N
  repeat ((fail_if_success (with_reducible show wpAny _ _ (pyIter _) _ _ _)); (first | (focus ((with_reducible show wpAny _ _ (execs (List.nil) _) _ _ _); (with_reducible refine wpAny_execs_nil ?_); (try dsimp only))) | (focus ((with_reducible show wpAny _ _ (PySem.call (Value.ref _) _ _) _ _ _); k_dflt (refine' qa_ct ?B ?F ?X ?N ?T ?hf ?hke ?hd ?hk0 ?hl0 ?hl1 ?hl2 ?hlen ?hl3 ?_; (case B | F | X | N | T => k_asm); (case hf | hke => exact rfl); (case hd => walk_at "depth is"); (case hk0 => (dsimp only; omega)); (case hl0 | hl1 | hl2 | hlen | hl3 => assumption); k_whole; intro h' k' tr' F' N'; (try dsimp only)))) | (focus ((with_reducible show wpAny _ _ (binaryOp Operator.Add (Value.str _ _) (Value.str _ _)) _ _ _); (refine' cat_le ?kxz ?_; (case kxz => ((simp only [Str.length_append, ll_nl, ll_sp, ll_eq, ll_lt, ll_gt, ll_sg, ll_ls]); omega))); intro t' k' hk'; (try dsimp only at hk'))) | walk_at "one step"))
  rename Fr _ _ _ _ => F2
  rename News _ _ _ _ => N2
  refine' list_for rfl F2 N2 hpa (fun i m₁ n₁ => n₁ = news ∧ ∃ tt tr ky vl, m₁ = wrLoc ta ra (t ++ outPs (ps.take i)) tt (row + nlPs (ps.take i)) tr nm (some (.ref pa)) inn ky vl) ⟨rfl, _, _, _, _, by simp only [List.take_zero, outPs, nlPs, Str.append_empty, Int.add_zero]; rfl⟩ ?step ?fin
  case step =>
    intro i v I oi m₁ news₁ h₁ tk₁ R9 hv hJ hoI hR F1 N1
    obtain ⟨rfl, tt1, tr1, ky1, vl1, rfl⟩ := hJ
    obtain ⟨q, a, t1, t2, hq1, rfl, hg⟩ := hps.get hv
    have hT : IsTup h₁ a #[.str q.1 t1, .str q.2 t2] := ⟨_, F1.keep _ _ hg, rfl, _, rfl⟩
    obtain ⟨qk, qx⟩ := q
    have hqo := hq _ (List.mem_of_getElem? hq1)
    obtain ⟨q1, q2, q3, q4, q5⟩ := hqo
    have e1 := outPs_take ps i _ hq1
    have e2 := nlPs_take ps i _ hq1
    have e3 := outPs_le ps i _ hq1
    dsimp only at *
    clear F2 N2 hv hg
    have hqv : (qv qx).length ≤ 900000 ∧ qk.length ≤ 900000 := by
      have := hlen
      simp only [outA, Str.length_append] at e3
      omega
    obtain ⟨hv1, hv2⟩ := hqv
    have hnl := nlA_le (qk, qx)
    have hnp := nlPs_le ps
    have hn2 : 0 ≤ nlPs (List.take i ps) ∧ nlPs (List.take i ps) ≤ 900000 := by
      have h1 := nlPs_le (List.take i ps)
      omega
    obtain ⟨hn3, hn4⟩ := hn2
    have hT0 : (t ++ outPs (List.take i ps)).length ≤ 900000 := by rw [Str.length_append]; omega
    have hqd : (quo (ent3 (amp qx))).length ≤ 900000 := hv1
    generalize hTe : t ++ outPs (List.take i ps) = tx0 at *
    generalize hRe : nlPs (List.take i ps) = rw0 at *
    have eT : t ++ outPs (List.take (i + 1) ps) = tx0 ++ outA (qk, qx) := by rw [e1, ← Str.append_assoc, hTe]
    have eR : row + nlPs (List.take (i + 1) ps) = row + rw0 + nlA (qk, qx) := by omega
    rw [eT, eR] at hR
    clear eT eR e1 e2 e3 hnl hnp hn3 hn4 hlen hrow
    repeat' ((fail_if_success (with_reducible show R9 _ _)); (first | (focus ((with_reducible show wpAny _ _ (execs (List.nil) _) _ _ _); (with_reducible refine wpAny_execs_nil ?_); (try dsimp only))) | (focus ((with_reducible show wpAny _ _ (PySem.call (Value.ref _) _ _) _ _ _); k_dflt (refine' qa_ct ?B ?F ?X ?N ?T ?hf ?hke ?hd ?hk0 ?hl0 ?hl1 ?hl2 ?hlen ?hl3 ?_; (case B | F | X | N | T => k_asm); (case hf | hke => exact rfl); (case hd => walk_at "depth is"); (case hk0 => (dsimp only; omega)); (case hl0 | hl1 | hl2 | hlen | hl3 => assumption); k_whole; intro h' k' tr' F' N'; (try dsimp only)))) | (focus ((with_reducible show wpAny _ _ (binaryOp Operator.Add (Value.str _ _) (Value.str _ _)) _ _ _); (refine' cat_le ?kxz ?_; (case kxz => ((simp only [Str.length_append, ll_nl, ll_sp, ll_eq, ll_lt, ll_gt, ll_sg, ll_ls]); omega))); intro t' k' hk'; (try dsimp only at hk'))) | walk_at "one step"))
    · have eZ := outA_1 tx0 qk qx (by assumption)
      rw [eZ.1, eZ.2] at hR
      exact hR _ _ _ _ _ (.inl rfl) (by assumption) (by assumption) hoI ⟨rfl, _, _, _, _, wrLoc_1 ..⟩
    · have eZ := outA_2 tx0 qk qx (by assumption) (by assumption)
      rw [eZ.1, eZ.2, Int.add_zero] at hR
      exact hR _ _ _ _ _ (.inl rfl) (by assumption) (by assumption) hoI ⟨rfl, _, _, _, _, wrLoc_2 ..⟩
    · have eZ := outA_3 tx0 qk qx (by assumption) (by assumption)
      rw [eZ.1, eZ.2, Int.add_zero] at hR
      exact hR _ _ _ _ _ (.inl rfl) (by assumption) (by assumption) hoI ⟨rfl, _, _, _, _, wrLoc_3 ..⟩
  case fin =>
    intro h2 tk2 m2 news2 F3 N3 hJ
    obtain ⟨rfl, tt1, tr1, ky1, vl1, rfl⟩ := hJ
    rw [hps.len, List.take_length] at F3
    exact hQ _ _ _ _ _ _ F3 N3
end
end Mine
end
-- part Wr
section
namespace Mine
theorem wrLoc_start (ta ra : Addr) (t : Str) (tt : Tok) (row : Int) (tr : Tok) : ∀ y, List.lookup y [(Str.ofString "tree", Value.ref ta), (Str.ofString "text", Value.str t tt), (Str.ofString "row", Value.int row tr), (Str.ofString "rows", Value.ref ra)].reverse = wrLoc ta ra t tt row tr none none none none none y := by
  intro y
  by_cases h1 : y = Str.ofString "text"
  · subst h1; rfl
  by_cases h2 : y = Str.ofString "row"
  · subst h2; rfl
  by_cases h3 : y = Str.ofString "tree"
  · subst h3; rfl
  by_cases h4 : y = Str.ofString "rows"
  · subst h4; rfl
  have e1 : (y == Str.ofString "text") = false := by simpa using h1
  have e2 : (y == Str.ofString "row") = false := by simpa using h2
  have e3 : (y == Str.ofString "tree") = false := by simpa using h3
  have e4 : (y == Str.ofString "rows") = false := by simpa using h4
  simp only [wrLoc, if_neg h1, if_neg h2, if_neg h3, if_neg h4, List.reverse_cons, List.reverse_nil, List.nil_append, List.cons_append, List.lookup, e1, e2, e3, e4, ite_self]
theorem wrLoc_4 (ta ra : Addr) (t t' : Str) (tt tt' : Tok) (row : Int) (tr : Tok) (nm pr inn ky vl nm' pr' inn' : Option Value) : ∀ y, (if y = Str.ofString "text" then some (Value.str t' tt') else if y = Str.ofString "inner" then inn' else if y = Str.ofString "pairs" then pr' else if y = Str.ofString "name" then nm' else wrLoc ta ra t tt row tr nm pr inn ky vl y) = wrLoc ta ra t' tt' row tr nm' pr' inn' ky vl y := by
  intro y
  by_cases h1 : y = Str.ofString "text"
  · simp only [wrLoc, if_pos h1]
  by_cases h2 : y = Str.ofString "row"
  · subst h2; rfl
  by_cases h3 : y = Str.ofString "value"
  · subst h3; rfl
  by_cases h4 : y = Str.ofString "key"
  · subst h4; rfl
  by_cases h5 : y = Str.ofString "inner"
  · subst h5; rfl
  by_cases h6 : y = Str.ofString "pairs"
  · subst h6; rfl
  by_cases h7 : y = Str.ofString "name"
  · subst h7; rfl
  simp only [wrLoc, if_neg h1, if_neg h2, if_neg h3, if_neg h4, if_neg h5, if_neg h6, if_neg h7]
theorem wrLoc_6 (ta ra : Addr) (t t'  : Str) (tt tt'  : Tok) (row  : Int) (tr : Tok) (nm pr inn ky vl : Option Value) : (fun y => if y = Str.ofString "text" then some (Value.str t' tt') else wrLoc ta ra t tt row tr nm pr inn ky vl y) = wrLoc ta ra t' tt' row tr nm pr inn ky vl := by
  funext y
  by_cases h1 : y = Str.ofString "text"
  · subst h1; rfl
  by_cases h2 : y = Str.ofString "row"
  · subst h2; rfl
  simp only [wrLoc, if_neg h1, if_neg h2]
theorem wrLoc_9 (ta ra : Addr) (t t' : Str) (tt tt' : Tok) (row row' : Int) (tr tr' : Tok) (nm pr inn ky vl : Option Value) : (fun y => if y = Str.ofString "row" then some (Value.int row' tr') else if y = Str.ofString "text" then some (Value.str t' tt') else wrLoc ta ra t tt row tr nm pr inn ky vl y) = wrLoc ta ra t' tt' row' tr' nm pr inn ky vl := by
  funext y
  by_cases h1 : y = Str.ofString "text"
  · subst h1; rfl
  by_cases h2 : y = Str.ofString "row"
  · subst h2; rfl
  simp only [wrLoc, if_neg h1, if_neg h2]
theorem wrLoc_8 (ta ra : Addr) (t t' u2 : Str) (tt tt' v2 : Tok) (row row'  : Int) (tr tr' : Tok) (nm pr inn ky vl : Option Value) : (fun y => if y = Str.ofString "text" then some (Value.str t' tt') else if y = Str.ofString "row" then some (Value.int row' tr') else if y = Str.ofString "text" then some (Value.str u2 v2) else wrLoc ta ra t tt row tr nm pr inn ky vl y) = wrLoc ta ra t' tt' row' tr' nm pr inn ky vl := by
  funext y
  by_cases h1 : y = Str.ofString "text"
  · subst h1; rfl
  by_cases h2 : y = Str.ofString "row"
  · subst h2; rfl
  simp only [wrLoc, if_neg h1, if_neg h2]
theorem ints_snoc {i : Int} {t : Tok} : ∀ {vs : List Value} {ns : List Int}, IntsAre vs ns → IntsAre (vs ++ [.int i t]) (ns ++ [i])
  | _, _, .nil => .cons _ _ .nil
  | _, _, .cons j u r => .cons j u (ints_snoc r)
theorem outN_cat (t nm : Str) (ps : List (Str × Str)) (kn : Bool) (ko : Str) : t ++ outN nm ps kn ko = (t ++ Str.ofString "<" ++ nm ++ outPs ps) ++ (if kn = true ∧ ps.length < 2 then Str.ofString "/>" else Str.ofString ">" ++ ko ++ Str.ofString "</" ++ nm ++ Str.ofString ">") ++ (if ps.length = 1 then Str.ofString "\n" else Str.empty) := by
  unfold outN
  simp only [Str.append_assoc]
noncomputable def WrC (w : World) (f : Fo) : Prop := ∀ {dp un : Nat} {gd : Option (List Code)} {A₀ : Around} {base h₀ : Heap} {L : Addr} {m : Str → Option Value} {s : Shared} {p : Program} {loose : List Str} {mean : ExcName → Option Value} {mg mb : Str → Option Value} {env : Env} {outer : List Env} {Q E : Value → Shared → Prop} {news : List (Addr × Obj)}
  {ta ra : Addr} {vs rv : List Value} {nt nr : Nat} {t : Str} {tt tr : Tok} {row : Int} {rs : List Int},
  Below A₀ base outer h₀ → Fr h₀ L s.heap m → (Mine.KK w.params).In h₀ → News h₀ L s.heap news → ((ra, listOf rv.toArray nr) ∈ news) →
  (h₀.get? ta = some (listOf vs.toArray nt) ∨ ((ta, listOf vs.toArray nt) ∈ news ∧ ta ≠ ra)) → RdFo (fun a o => h₀.get? a = some o ∨ ((a, o) ∈ news ∧ a ≠ ra)) f vs →
  IntsAre rv rs → Top p loose mean mg mb h₀ → env.frame = some L → env.scope.kind = .function → dp + 40 + f.size < 1000 → un + 100 + 4 * f.size < 9900 →
  f.All (fun n => PyData.strOk n = true) POk → f.All (fun _ => True) (fun p => QOk p.2) → f.Two → f.size ≤ 30 → t.length + (outF f).length ≤ 890000 → 0 ≤ row → row ≤ t.length + 1 → rv.length + f.size ≤ 900 →
  (∀ h' k' (T' : Addr) rv' nr' tt' tr', Fr h₀ L h' m → IsTup h' T' #[.str (t ++ outF f) tt', .int (row + nlF f) tr'] → IntsAre rv' (rs ++ rowsF f row) → (∀ news', Rw [(ra, listOf rv'.toArray nr')] news news' → News h₀ L h' news') → Q (.ref T') { s with heap := h', toks := k' }) →
  wpAny (model PG w) (Around.mk none dp (some (env :: outer)) gd un) (call (.ref 779) [.ref ta, .str t tt, .int row tr, .ref ra] []) Q E s
noncomputable def elseOf : Stmt → List Stmt
  | .If _ _ o _ => o
  | _ => []
noncomputable def tgtOf : Stmt → PySem.Expr
  | .For t _ _ _ _ => t
  | _ => .Constant .none 0 default
noncomputable def wrIf : Stmt := at_ (bodyOf wrFor) 3
noncomputable def wrElse : List Stmt := elseOf wrIf
noncomputable def wrLast : Stmt := at_ (bodyOf wrFor) 4
section
variable {w : World} {dp un : Nat} {gd : Option (List Code)} {A₀ : Around} {base h₀ : Heap} {L : Addr} {s : Shared} {p : Program} {loose : List Str} {mean : ExcName → Option Value} {mg mb : Str → Option Value} {outer : List Env} {Q : Flow → Shared → Prop} {E : Value → Shared → Prop}
  {ta ra pa kk I b : Addr} {oi : Obj} {nm tx : Str} {t1 tt tr : Tok} {rw : Int} {pr ky vl nm1 pr1 inn1 : Option Value} {ps : List (Str × Str)} {kd : Fo} {pv kv rv : List Value} {n n1 n3 nr : Nat} {rs : List Int} {NL : List (Addr × Obj)} {NLf : List Value → Nat → List (Addr × Obj)}
theorem wr_else (ih : ∀ k : Fo, k.size < n → WrC w k) (B : Below A₀ base outer h₀) (F : Fr h₀ L s.heap (wrLoc ta ra tx tt rw tr (some (.str nm t1)) pr (some (.ref kk)) ky vl)) (X : (Mine.KK w.params).In h₀) (N : News h₀ L s.heap NL) (hra : (ra, listOf rv.toArray nr) ∈ NL)
  (hrw : ∀ v k, Rw [(ra, listOf v.toArray k)] NL (NLf v k)) (hkk : h₀.get? kk = some (listOf kv.toArray n3)) (rk : RdFo (fun a o => h₀.get? a = some o) kd kv) (hrv : IntsAre rv rs) (T : Top p loose mean mg mb h₀) (hkn : kd.size < n) (hd : dp + 40 + kd.size < 1000) (hu : un + 100 + 4 * kd.size < 9900)
  (o3 : kd.All (fun n => PyData.strOk n = true) POk) (p3 : kd.All (fun _ => True) (fun p => QOk p.2)) (w2 : kd.Two) (hs : kd.size ≤ 30) (hlen : tx.length + (1 + (outF kd).length + 2 + nm.length + 1) ≤ 890000) (hr0 : 0 ≤ rw) (hr1 : rw ≤ tx.length) (hrl : rv.length + kd.size ≤ 900)
  (hQ : ∀ h' k' tt' tr' rv' nr', Fr h₀ L h' (wrLoc ta ra (tx ++ (Str.ofString ">" ++ outF kd ++ Str.ofString "</" ++ nm ++ Str.ofString ">")) tt' (rw + nlF kd) tr' (some (.str nm t1)) pr (some (.ref kk)) ky vl) → IntsAre rv' (rs ++ rowsF kd rw) →
    News h₀ L h' (NLf rv' nr') → Q .next { s with heap := h', toks := k' }) :
  wpAny (model PG w) (Around.mk none dp (some (wrEnv L :: outer)) gd un) (execs wrElse (wrEnv L)) Q E s := by
  show wpAny _ _ (execs (List.cons _ _) _) _ _ _
  dsimp only [wrEnv]
  rw [show wrScope = Scope.mk _ _ _ _ _ from rfl]
  repeat' ((fail_if_success (with_reducible show wpAny _ _ (call (.ref 779) _ _) _ _ _)); (first | (focus ((with_reducible show wpAny _ _ (compareOp CmpOp.Eq (Value.ref _) (Value.ref _)) _ _ _); k_dflt (refine' eq_nilG ?F ?N ?k1 ?k2 ?k3 ?k4 ?k5 ?k6 ?k7 ?_; (case F | N => k_asm); (case k1 => assumption); (case k2 => k_mem); (case k3 | k4 => assumption); (case k5 => omega); (case k6 => ((simp only [units_deeper, cLine_is]); (try dsimp only); omega)); (case k7 => assumption); k_whole))) | (focus ((with_reducible show wpAny _ _ (call (Value.builtin "len") [Value.ref _]) _ _ _); k_dflt (refine' len_g ?k1 ?k2 ?k3 ?_; (case k1 => k_asm); (case k2 => assumption); (case k3 => omega); k_whole))) | (focus ((with_reducible show wpAny _ _ (execs (List.nil) _) _ _ _); (with_reducible refine wpAny_execs_nil ?_); (try dsimp only))) | (focus ((with_reducible show wpAny _ _ (binaryOp Operator.Add (Value.str _ _) (Value.str _ _)) _ _ _); (refine' cat_le ?kxz ?_; (case kxz => ((simp only [Str.length_append, ll_nl, ll_sp, ll_eq, ll_lt, ll_gt, ll_sg, ll_ls]); omega))); intro t' k' hk'; (try dsimp only at hk'))) | walk_at "one step"))
  k_dflt (refine' (ih kd hkn) B ?F X ?N hra (.inl hkk) (rk.mono fun a o e => .inl e) hrv T rfl rfl hd hu o3 p3 w2 hs ?hlen hr0 ?hr1 hrl ?_)
  case F => assumption
  case N => assumption
  case hlen => (simp only [Str.length_append, ll_gt]; omega)
  case hr1 => (simp only [Str.length_append, ll_gt]; omega)
  intro h4 k4 T4 rv4 nr4 tt4 tr4 F4 hT4 hrv4 HN4
  have N4 := HN4 _ (hrw rv4 nr4)
  clear HN4
  (try dsimp only at hT4)
  repeat' ((fail_if_success (with_reducible show Q _ _)); (first | (focus ((with_reducible show wpAny _ _ (compareOp CmpOp.Eq (Value.ref _) (Value.ref _)) _ _ _); k_dflt (refine' eq_nilG ?F ?N ?k1 ?k2 ?k3 ?k4 ?k5 ?k6 ?k7 ?_; (case F | N => k_asm); (case k1 => assumption); (case k2 => k_mem); (case k3 | k4 => assumption); (case k5 => omega); (case k6 => ((simp only [units_deeper, cLine_is]); (try dsimp only); omega)); (case k7 => assumption); k_whole))) | (focus ((with_reducible show wpAny _ _ (call (Value.builtin "len") [Value.ref _]) _ _ _); k_dflt (refine' len_g ?k1 ?k2 ?k3 ?_; (case k1 => k_asm); (case k2 => assumption); (case k3 => omega); k_whole))) | (focus ((with_reducible show wpAny _ _ (execs (List.nil) _) _ _ _); (with_reducible refine wpAny_execs_nil ?_); (try dsimp only))) | (focus ((with_reducible show wpAny _ _ (binaryOp Operator.Add (Value.str _ _) (Value.str _ _)) _ _ _); (refine' cat_le ?kxz ?_; (case kxz => ((simp only [Str.length_append, ll_nl, ll_sp, ll_eq, ll_lt, ll_gt, ll_sg, ll_ls]); omega))); intro t' k' hk'; (try dsimp only at hk'))) | walk_at "one step"))
  simp only [← Str.append_assoc] at hQ
  exact hQ _ _ _ _ rv4 nr4 (Fr.as (by assumption) (fun y => congrFun (wrLoc_8 ..) y)) hrv4 (by assumption)
theorem wr_last (F : Fr h₀ L s.heap (wrLoc ta ra tx tt rw tr nm1 (some (.ref pa)) inn1 ky vl)) (X : (Mine.KK w.params).In h₀) (B : Below A₀ base outer h₀) (N : News h₀ L s.heap NL) (T : Top p loose mean mg mb h₀) (hpa : h₀.IsList pa pv.toArray) (hpl : pv.length ≤ 1000) (hpl2 : pv.length = ps.length) (hlen : tx.length ≤ 890000)
  (hQ : ∀ h' k' tt' tr', Fr h₀ L h' (wrLoc ta ra (tx ++ (if ps.length = 1 then Str.ofString "\n" else Str.empty)) tt' (rw + (if ps.length = 1 then 1 else 0)) tr' nm1 (some (.ref pa)) inn1 ky vl) → News h₀ L h' NL → Q .next { s with heap := h', toks := k' }) :
  wpAny (model PG w) (Around.mk none dp (some (wrEnv L :: outer)) gd un) (exec wrLast (wrEnv L)) Q E s := by
  show wpAny _ _ (exec (Stmt.If _ _ _ _) _) _ _ _
  dsimp only [wrEnv]
  rw [show wrScope = Scope.mk _ _ _ _ _ from rfl]
  repeat' ((fail_if_success (with_reducible show Q _ _)); (first | (focus ((with_reducible show wpAny _ _ (compareOp CmpOp.Eq (Value.ref _) (Value.ref _)) _ _ _); k_dflt (refine' eq_nilG ?F ?N ?k1 ?k2 ?k3 ?k4 ?k5 ?k6 ?k7 ?_; (case F | N => k_asm); (case k1 => assumption); (case k2 => k_mem); (case k3 | k4 => assumption); (case k5 => omega); (case k6 => ((simp only [units_deeper, cLine_is]); (try dsimp only); omega)); (case k7 => assumption); k_whole))) | (focus ((with_reducible show wpAny _ _ (call (Value.builtin "len") [Value.ref _]) _ _ _); k_dflt (refine' len_g ?k1 ?k2 ?k3 ?_; (case k1 => k_asm); (case k2 => assumption); (case k3 => omega); k_whole))) | (focus ((with_reducible show wpAny _ _ (execs (List.nil) _) _ _ _); (with_reducible refine wpAny_execs_nil ?_); (try dsimp only))) | (focus ((with_reducible show wpAny _ _ (binaryOp Operator.Add (Value.str _ _) (Value.str _ _)) _ _ _); (refine' cat_le ?kxz ?_; (case kxz => ((simp only [Str.length_append, ll_nl, ll_sp, ll_eq, ll_lt, ll_gt, ll_sg, ll_ls]); omega))); intro t' k' hk'; (try dsimp only at hk'))) | walk_at "one step"))
  · rw [if_pos (show ps.length = 1 by omega), if_pos (show ps.length = 1 by omega)] at hQ
    exact hQ _ _ _ _ (Fr.as (by assumption) (fun y => congrFun (wrLoc_9 ..) y)) (by assumption)
  · rw [if_neg (show ¬ ps.length = 1 by omega), if_neg (show ¬ ps.length = 1 by omega), Str.append_empty, Int.add_zero] at hQ
    exact hQ _ _ _ _ (by assumption) (by assumption)
theorem wr_mid (ih : ∀ k : Fo, k.size < n → WrC w k) (B : Below A₀ base outer h₀) (F : Fr h₀ L s.heap (wrLoc ta ra tx tt rw tr (some (.str nm t1)) (some (.ref pa)) (some (.ref kk)) ky vl)) (X : (Mine.KK w.params).In h₀) (N : News h₀ L s.heap [(I, oi), (ra, listOf rv.toArray nr)]) (hI : @Ne Nat ra I)
  (hpa : h₀.IsList pa pv.toArray) (hpl : pv.length ≤ 1000) (hpl2 : pv.length = ps.length)
  (hkk : h₀.get? kk = some (listOf kv.toArray n3)) (rk : RdFo (fun a o => h₀.get? a = some o) kd kv) (hrv : IntsAre rv rs) (T : Top p loose mean mg mb h₀) (hkn : kd.size < n) (hd : dp + 40 + kd.size < 1000) (hu : un + 100 + 4 * kd.size < 9900)
  (o3 : kd.All (fun n => PyData.strOk n = true) POk) (p3 : kd.All (fun _ => True) (fun p => QOk p.2)) (w2 : kd.Two) (hs : kd.size ≤ 30) (hr0 : 0 ≤ rw) (hr1 : rw ≤ tx.length) (hrl : rv.length + kd.size ≤ 900)
  (hlen : tx.length + (if kd.isNil = true ∧ ps.length < 2 then Str.ofString "/>" else Str.ofString ">" ++ outF kd ++ Str.ofString "</" ++ nm ++ Str.ofString ">").length ≤ 890000)
  (hQ : ∀ h' k' tt' tr' rv' nr', Fr h₀ L h' (wrLoc ta ra (tx ++ (if kd.isNil = true ∧ ps.length < 2 then Str.ofString "/>" else Str.ofString ">" ++ outF kd ++ Str.ofString "</" ++ nm ++ Str.ofString ">")) tt' (rw + nlF kd) tr' (some (.str nm t1)) (some (.ref pa)) (some (.ref kk)) ky vl) → IntsAre rv' (rs ++ rowsF kd rw) →
    News h₀ L h' [(I, oi), (ra, listOf rv'.toArray nr')] → Q .next { s with heap := h', toks := k' }) :
  wpAny (model PG w) (Around.mk none dp (some (wrEnv L :: outer)) gd un) (exec wrIf (wrEnv L)) Q E s := by
  show wpAny _ _ (exec (Stmt.If _ _ _ _) _) _ _ _
  dsimp only [wrEnv]
  rw [show wrScope = Scope.mk _ _ _ _ _ from rfl]
  cases hk : kd.isNil
  · rw [hk, if_neg (show ¬ (false = true ∧ ps.length < 2) from fun z => Bool.noConfusion z.1)] at hlen hQ
    simp only [Str.length_append, ll_ls, ll_gt] at hlen
    repeat' ((fail_if_success (with_reducible show wpAny _ _ (execs (List.cons (Stmt.Assign (List.cons (PySem.Expr.Tuple _ _ _) _) _ _) _) _) _ _ _)); (first | (focus ((with_reducible show wpAny _ _ (compareOp CmpOp.Eq (Value.ref _) (Value.ref _)) _ _ _); k_dflt (refine' eq_nilG ?F ?N ?k1 ?k2 ?k3 ?k4 ?k5 ?k6 ?k7 ?_; (case F | N => k_asm); (case k1 => assumption); (case k2 => k_mem); (case k3 | k4 => assumption); (case k5 => omega); (case k6 => ((simp only [units_deeper, cLine_is]); (try dsimp only); omega)); (case k7 => assumption); k_whole))) | (focus ((with_reducible show wpAny _ _ (call (Value.builtin "len") [Value.ref _]) _ _ _); k_dflt (refine' len_g ?k1 ?k2 ?k3 ?_; (case k1 => k_asm); (case k2 => assumption); (case k3 => omega); k_whole))) | (focus ((with_reducible show wpAny _ _ (execs (List.nil) _) _ _ _); (with_reducible refine wpAny_execs_nil ?_); (try dsimp only))) | (focus ((with_reducible show wpAny _ _ (binaryOp Operator.Add (Value.str _ _) (Value.str _ _)) _ _ _); (refine' cat_le ?kxz ?_; (case kxz => ((simp only [Str.length_append, ll_nl, ll_sp, ll_eq, ll_lt, ll_gt, ll_sg, ll_ls]); omega))); intro t' k' hk'; (try dsimp only at hk'))) | walk_at "one step"))
    rename News _ _ _ _ => N5
    refine' wr_else ih B ?F X N5 (.tail _ (.tail _ (.head _))) (fun _ _ => by k_upd) hkk rk hrv T hkn hd hu o3 p3 w2 hs (by omega) hr0 hr1 hrl fun h' k' tt' tr' rv' nr' F' hv' N' => ?_
    case F => assumption
    exact hQ _ _ _ _ _ _ F' hv' (news_sub N' fun p hp => List.mem_cons_of_mem _ hp)
  · rw [hk] at hlen hQ
    obtain ⟨z1, z2, z3⟩ := outF_nil hk
    repeat' ((fail_if_success (with_reducible show Q _ _)); (fail_if_success (with_reducible show wpAny _ _ (execs (List.cons (Stmt.Assign (List.cons (PySem.Expr.Tuple _ _ _) _) _ _) _) _) _ _ _)); (first | (focus ((with_reducible show wpAny _ _ (compareOp CmpOp.Eq (Value.ref _) (Value.ref _)) _ _ _); k_dflt (refine' eq_nilG ?F ?N ?k1 ?k2 ?k3 ?k4 ?k5 ?k6 ?k7 ?_; (case F | N => k_asm); (case k1 => assumption); (case k2 => k_mem); (case k3 | k4 => assumption); (case k5 => omega); (case k6 => ((simp only [units_deeper, cLine_is]); (try dsimp only); omega)); (case k7 => assumption); k_whole))) | (focus ((with_reducible show wpAny _ _ (call (Value.builtin "len") [Value.ref _]) _ _ _); k_dflt (refine' len_g ?k1 ?k2 ?k3 ?_; (case k1 => k_asm); (case k2 => assumption); (case k3 => omega); k_whole))) | (focus ((with_reducible show wpAny _ _ (execs (List.nil) _) _ _ _); (with_reducible refine wpAny_execs_nil ?_); (try dsimp only))) | (focus ((with_reducible show wpAny _ _ (binaryOp Operator.Add (Value.str _ _) (Value.str _ _)) _ _ _); (refine' cat_le ?kxz ?_; (case kxz => ((simp only [Str.length_append, ll_nl, ll_sp, ll_eq, ll_lt, ll_gt, ll_sg, ll_ls]); omega))); intro t' k' hk'; (try dsimp only at hk'))) | walk_at "one step"))
    · rw [if_pos (show true = true ∧ ps.length < 2 from ⟨rfl, by omega⟩), z2, z3, Int.add_zero, List.append_nil] at hQ
      exact hQ _ _ _ _ _ _ (Fr.as (by assumption) (fun y => congrFun (wrLoc_6 ..) y)) hrv (news_sub (by assumption) fun p hp => List.mem_cons_of_mem _ hp)
    · rw [if_neg (show ¬ (true = true ∧ ps.length < 2) from fun z => by omega)] at hlen hQ
      simp only [Str.length_append, ll_ls, ll_gt] at hlen
      rename News _ _ _ _ => N5
      refine' wr_else ih B ?F X N5 (.tail _ (.tail _ (.head _))) (fun _ _ => by k_upd) hkk rk hrv T hkn hd hu o3 p3 w2 hs (by omega) hr0 hr1 hrl fun h' k' tt' tr' rv' nr' F' hv' N' => ?_
      case F => assumption
      exact hQ _ _ _ _ _ _ F' hv' (news_sub N' fun p hp => List.mem_cons_of_mem _ hp)
theorem wr_turn (ih : ∀ k : Fo, k.size < n → WrC w k) (B : Below A₀ base outer h₀) (F : Fr h₀ L s.heap (wrLoc ta ra tx tt rw tr nm1 pr1 inn1 ky vl)) (X : (Mine.KK w.params).In h₀) (N : News h₀ L s.heap [(I, oi), (ra, listOf rv.toArray nr)]) (hI : @Ne Nat ra I)
  (hT : s.heap.IsList b #[.str nm t1, .ref pa, .ref kk]) (hpa : h₀.IsList pa pv.toArray) (hps : RdPs (fun a o => h₀.get? a = some o) ps pv) (hq : ∀ p ∈ ps, QOk p.2) (w1 : ps.length ≤ 2)
  (hkk : h₀.get? kk = some (listOf kv.toArray n3)) (rk : RdFo (fun a o => h₀.get? a = some o) kd kv) (hrv : IntsAre rv rs) (T : Top p loose mean mg mb h₀) (hkn : kd.size < n) (hd : dp + 40 + kd.size < 1000) (hu : un + 100 + 4 * kd.size < 9900)
  (o3 : kd.All (fun n => PyData.strOk n = true) POk) (p3 : kd.All (fun _ => True) (fun p => QOk p.2)) (w2 : kd.Two) (hs : kd.size ≤ 30) (hr0 : 0 ≤ rw) (hr1 : rw ≤ tx.length + 1) (hrl : rv.length + (kd.size + 1) ≤ 900)
  (hall : tx.length + (outN nm ps kd.isNil (outF kd)).length ≤ 890000) (hE : PassesOwn (model PG w) (Around.mk none dp (some (wrEnv L :: outer)) gd un) (wrEnv L) E)
  (hQ : ∀ h' k' tt' tr' nm' pr' inn' ky' vl' rv' nr', Fr h₀ L h' (wrLoc ta ra (tx ++ outN nm ps kd.isNil (outF kd)) tt' (rw + nlN ps (nlF kd)) tr' nm' pr' inn' ky' vl') → IntsAre rv' (rs ++ rw :: rowsF kd (rw + nlPs ps)) →
    News h₀ L h' [(I, oi), (ra, listOf rv'.toArray nr')] → Q .next { s with heap := h', toks := k' }) :
  wpAny (model PG w) (Around.mk none dp (some (wrEnv L :: outer)) gd un) (assign (tgtOf wrFor) (wrEnv L) (.ref b)) (fun _ s₃ => wpAny (model PG w) (Around.mk none dp (some (wrEnv L :: outer)) gd un) (execs (bodyOf wrFor) (wrEnv L)) Q E s₃) E s := by
  show wpAny _ _ (assign (PySem.Expr.Tuple _ _ _) _ _) (fun _ s₃ => wpAny _ _ (execs (List.cons _ _) _) _ _ s₃) _ _
  dsimp only [wrEnv]
  rw [show wrScope = Scope.mk _ _ _ _ _ from rfl]
  have hn2 := nlPs_le ps
  have hpl2 : pv.length = ps.length := hps.len
  have hpl : pv.length ≤ 1000 := by omega
  have hA1 : tx.length + (1 + (nm.length + (outPs ps).length)) ≤ 890000 := by
    have := ll_lt
    have h2 := hall
    simp only [outN, Str.length_append] at h2
    omega
  have hT0 : tx.length ≤ 890000 := by omega
  have hnml : nm.length + (outPs ps).length ≤ 900000 := by omega
  have hrl' : rv.length ≤ 900 := by omega
  repeat' ((fail_if_success (with_reducible show wpAny _ _ (exec (Stmt.For _ _ _ _ _) _) _ _ _)); (first | (focus ((with_reducible show wpAny _ _ (compareOp CmpOp.Eq (Value.ref _) (Value.ref _)) _ _ _); k_dflt (refine' eq_nilG ?F ?N ?k1 ?k2 ?k3 ?k4 ?k5 ?k6 ?k7 ?_; (case F | N => k_asm); (case k1 => assumption); (case k2 => k_mem); (case k3 | k4 => assumption); (case k5 => omega); (case k6 => ((simp only [units_deeper, cLine_is]); (try dsimp only); omega)); (case k7 => assumption); k_whole))) | (focus ((with_reducible show wpAny _ _ (call (Value.builtin "len") [Value.ref _]) _ _ _); k_dflt (refine' len_g ?k1 ?k2 ?k3 ?_; (case k1 => k_asm); (case k2 => assumption); (case k3 => omega); k_whole))) | (focus ((with_reducible show wpAny _ _ (execs (List.nil) _) _ _ _); (with_reducible refine wpAny_execs_nil ?_); (try dsimp only))) | (focus ((with_reducible show wpAny _ _ (binaryOp Operator.Add (Value.str _ _) (Value.str _ _)) _ _ _); (refine' cat_le ?kxz ?_; (case kxz => ((simp only [Str.length_append, ll_nl, ll_sp, ll_eq, ll_lt, ll_gt, ll_sg, ll_ls]); omega))); intro t' k' hk'; (try dsimp only at hk'))) | walk_at "one step"))
  refine' wp_pairs ?B ?F ?X ?N hpa hps hq ?len ?zrow ?T ?hd ?hE ?_
  case B => k_asm
  case F => exact Fr.as (by assumption) (fun y => wrLoc_4 ..)
  case X => k_asm
  case N => k_asm
  case T => k_asm
  case hE => exact hE
  case hd => omega
  case len => (simp only [Str.length_append, ll_lt]; omega)
  case zrow => omega
  intro h3 k3 tt3 tr3 ky3 vl3 F3 N3
  rw [outN_cat, show rw + nlN ps (nlF kd) = rw + nlPs ps + nlF kd + (if ps.length = 1 then 1 else 0) from by unfold nlN; omega] at hQ
  have hall2 : (tx ++ Str.ofString "<" ++ nm ++ outPs ps).length + (if kd.isNil = true ∧ ps.length < 2 then Str.ofString "/>" else Str.ofString ">" ++ outF kd ++ Str.ofString "</" ++ nm ++ Str.ofString ">").length + (if ps.length = 1 then Str.ofString "\n" else Str.empty).length ≤ 890000 := by
    have := outN_cat tx nm ps kd.isNil (outF kd)
    rw [← Str.length_append, ← Str.length_append, ← this, Str.length_append]
    exact hall
  have hR3 : 0 ≤ rw + nlPs ps ∧ rw + nlPs ps ≤ (tx ++ Str.ofString "<" ++ nm ++ outPs ps).length := by
    simp only [Str.length_append, ll_lt]
    omega
  rw [show rv.toArray.push (Value.int rw tr) = (rv ++ [Value.int rw tr]).toArray by simp] at N3
  have hrl2 : (rv ++ [Value.int rw tr]).length + kd.size ≤ 900 := by
    rw [List.length_append, List.length_singleton]
    omega
  have hln := nlF_le kd
  refine seq_next (seq_cons ?_)
  refine' wr_mid ih B F3 X N3 hI hpa hpl hpl2 hkk rk (ints_snoc hrv) T hkn hd hu o3 p3 w2 hs hR3.1 hR3.2 hrl2 (by omega) fun h' k' tt' tr' rv' nr' F4 hv4 N4 => ?_
  refine seq_next (seq_one ?_)
  refine' wr_last F4 X B N4 T hpa hpl hpl2 ?l1 fun h' k' tt' tr' F5 N5 => ?_
  case l1 => (rw [Str.length_append]; omega)
  rw [List.append_assoc] at hv4
  exact hQ _ _ _ _ _ _ _ _ _ _ _ F5 hv4 N5
end
theorem wr_step (w : World) (n : Nat) (ih : ∀ k : Fo, k.size < n → WrC w k) (f : Fo) (hfn : f.size ≤ n) : WrC w f := by
  intro dp un gd A₀ base h₀ L m s p loose mean mg mb env outer Q E news ta ra vs rv nt nr t tt tr row rs B F X N hra hta hrd hrv T hf hke hd hu hok hqk htw hsz hlen hrow0 hrow1 hrvl hQ
  refine wpAny_call ?_
  refine' call_smallK (small := [(ra, listOf rv.toArray nr)]) B F X N (List.forall_mem_cons.mpr ⟨hra, List.forall_mem_nil _⟩) T rfl hf hke ?k6 ?k7 ?k8 ?k9 ?kB ?_ ?c2 ?c3 ?c4 ?c5
  (case k6 => k_is)
  (case k7 => k_is)
  (case k8 => (show dp < 1000); omega)
  (case k9 => first | exact BindsTo.of_eq rfl | exact binds_K (by k_in) rfl (by k_is) rfl rfl rfl)
  (case kB => exact locs rfl)
  (case c2 => exact rfl)
  (case c3 => exact rfl)
  (case c4 => exact rfl)
  (case c5 => decide)
  intro g L' h₁ F' N' B' X' T' kg st
  have hG : ∀ a o, (h₀.get? a = some o ∨ ((a, o) ∈ news ∧ a ≠ ra)) → g.get? a = some o := fun a o h => by
    rcases h with h | ⟨h, h2⟩
    · exact st _ _ h
    · exact kg _ h (by simpa using h2)
  replace hta := hG _ _ hta
  replace hrd := hrd.mono hG
  have hlst : g.IsList ta vs.toArray := ⟨_, hta, rfl, _, rfl⟩
  have N0 := fun (_ : Unit) => N
  clear N hG
  (try k_fold)
  replace F' : Fr g L' h₁ (wrLoc ta ra t tt row tr none none none none none) := Fr.as F' (wrLoc_start ta ra t tt row tr)
  (first | (focus ((with_reducible show wpAny _ _ (compareOp CmpOp.Eq (Value.ref _) (Value.ref _)) _ _ _); k_dflt (refine' eq_nilG ?F ?N ?k1 ?k2 ?k3 ?k4 ?k5 ?k6 ?k7 ?_; (case F | N => k_asm); (case k1 => assumption); (case k2 => k_mem); (case k3 | k4 => assumption); (case k5 => omega); (case k6 => ((simp only [units_deeper, cLine_is]); (try dsimp only); omega)); (case k7 => assumption); k_whole))) | (focus ((with_reducible show wpAny _ _ (call (Value.builtin "len") [Value.ref _]) _ _ _); k_dflt (refine' len_g ?k1 ?k2 ?k3 ?_; (case k1 => k_asm); (case k2 => assumption); (case k3 => omega); k_whole))) | (focus ((with_reducible show wpAny _ _ (execs (List.nil) _) _ _ _); (with_reducible refine wpAny_execs_nil ?_); (try dsimp only))) | (focus ((with_reducible show wpAny _ _ (binaryOp Operator.Add (Value.str _ _) (Value.str _ _)) _ _ _); (refine' cat_le ?kxz ?_; (case kxz => ((simp only [Str.length_append, ll_nl, ll_sp, ll_eq, ll_lt, ll_gt, ll_sg, ll_ls]); omega))); intro t' k' hk'; (try dsimp only at hk'))) | walk_at "one step")
  refine For_turns F' ?_ (by intro _; rfl) ?hE
  case hE => passes_own
  repeat' ((fail_if_success (with_reducible show wpAny _ _ (pyIter _) _ _ _)); (first | (focus ((with_reducible show wpAny _ _ (compareOp CmpOp.Eq (Value.ref _) (Value.ref _)) _ _ _); k_dflt (refine' eq_nilG ?F ?N ?k1 ?k2 ?k3 ?k4 ?k5 ?k6 ?k7 ?_; (case F | N => k_asm); (case k1 => assumption); (case k2 => k_mem); (case k3 | k4 => assumption); (case k5 => omega); (case k6 => ((simp only [units_deeper, cLine_is]); (try dsimp only); omega)); (case k7 => assumption); k_whole))) | (focus ((with_reducible show wpAny _ _ (call (Value.builtin "len") [Value.ref _]) _ _ _); k_dflt (refine' len_g ?k1 ?k2 ?k3 ?_; (case k1 => k_asm); (case k2 => assumption); (case k3 => omega); k_whole))) | (focus ((with_reducible show wpAny _ _ (execs (List.nil) _) _ _ _); (with_reducible refine wpAny_execs_nil ?_); (try dsimp only))) | (focus ((with_reducible show wpAny _ _ (binaryOp Operator.Add (Value.str _ _) (Value.str _ _)) _ _ _); (refine' cat_le ?kxz ?_; (case kxz => ((simp only [Str.length_append, ll_nl, ll_sp, ll_eq, ll_lt, ll_gt, ll_sg, ll_ls]); omega))); intro t' k' hk'; (try dsimp only at hk'))) | walk_at "one step"))
  rename Fr g _ _ _ => F2
  rename News g _ _ _ => N2
  refine' list_for rfl F2 N2 hlst (fun i m₁ n₁ => ∃ tt tr nm pr inn ky vl rv' n', m₁ = wrLoc ta ra (t ++ outF (f.take i)) tt (row + nlF (f.take i)) tr nm pr inn ky vl ∧ IntsAre rv' (rs ++ rowsF (f.take i) row) ∧ n₁ = [(ra, listOf rv'.toArray n')]) ⟨tt, tr, none, none, none, none, none, rv, _, by cases f <;> simp only [Fo.take, outF, nlF, Str.append_empty, Int.add_zero], by cases f <;> (simp only [Fo.take, rowsF, List.append_nil]; exact hrv), rfl⟩ ?step ?fin
  case step =>
    intro i v I oi m₁ news₁ h₂ tk₁ R9 hv hJ hoI hR F1 N1
    obtain ⟨tt1, tr1, nm1, pr1, inn1, ky1, vl1, rv1, nr1, rfl, hrv1, rfl⟩ := hJ
    obtain ⟨⟨nm, ps, kd⟩, hit, b, t1, pa, kk, pv, kv, n1, n2, n3, rfl, g1, g2, rp, g3, rk⟩ := hrd.get hv
    have hT : h₂.IsList b #[.str nm t1, .ref pa, .ref kk] := ⟨_, F1.keep _ _ g1, rfl, _, rfl⟩
    have e1 := outF_take f i _ hit
    have e2 := nlF_take f i _ hit
    have e3 := outF_le f i _ hit
    have e4 := rowsF_take f i _ row hit
    have e5 := Fo.size_items f i _ hit
    obtain ⟨o1, o2, o3⟩ := hok.get hit
    obtain ⟨p1, p2, p3⟩ := hqk.get hit
    obtain ⟨w1, w2⟩ := htw.get hit
    dsimp only at e1 e2 e3 e4 e5 o3 p2 p3 w1 w2 rp rk hR
    have hrl : rv1.length + (kd.size + 1) ≤ 900 := by
      have z1 := hrv1.length
      have z2 := hrv.length
      rw [List.length_append, rowsF_len] at z1
      omega
    have hn1 := nlF_le (f.take i)
    have hI : @Ne Nat ra I := hoI _ (.head _)
    have hR0 : 0 ≤ row + nlF (f.take i) ∧ row + nlF (f.take i) ≤ (t ++ outF (f.take i)).length + 1 := by rw [Str.length_append]; omega
    have eT : t ++ outF (f.take (i + 1)) = t ++ outF (f.take i) ++ outN nm ps kd.isNil (outF kd) := by rw [e1, ← Str.append_assoc]
    have eR : row + nlF (f.take (i + 1)) = row + nlF (f.take i) + nlN ps (nlF kd) := by omega
    rw [eT, eR, e4, ← List.append_assoc] at hR
    refine' wr_turn (s := { s with heap := h₂, toks := tk₁ }) (n := n) ih B' F1 X' N1 hI hT (pv := pv.toList) ⟨_, g2, rfl, _, by rw [Array.toArray_toList]⟩ rp p2 w1 (kv := kv.toList) (n3 := n3) (by rw [Array.toArray_toList]; exact g3) rk hrv1 T' (by omega) ?hd ?hu o3 p3 w2 (by omega) hR0.1 hR0.2 hrl (by rw [Str.length_append]; omega) ?hE ?_
    case hd => ((try dsimp only [Around.deeper]); omega)
    case hu => ((try dsimp only [Around.deeper]); omega)
    case hE => passes_own
    intro h' k' tt' tr' nm' pr' inn' ky' vl' rv' nr' F3 hv3 N3
    exact hR _ _ _ _ _ (.inl rfl) F3 N3 (List.forall_mem_cons.mpr ⟨hI, List.forall_mem_nil _⟩) ⟨_, _, _, _, _, _, _, rv', nr', rfl, hv3, rfl⟩
  case fin =>
    intro h2 tk2 m2 news2 F3 N3 hJ
    obtain ⟨tt1, tr1, nm1, pr1, inn1, ky1, vl1, rv1, nr1, rfl, hrv1, rfl⟩ := hJ
    rw [hrd.len, Fo.take_all] at F3 hrv1
    clear F2 N2
    dsimp only
    repeat' ((fail_if_success (with_reducible show Q _ _)); (first | (focus ((with_reducible show wpAny _ _ (compareOp CmpOp.Eq (Value.ref _) (Value.ref _)) _ _ _); k_dflt (refine' eq_nilG ?F ?N ?k1 ?k2 ?k3 ?k4 ?k5 ?k6 ?k7 ?_; (case F | N => k_asm); (case k1 => assumption); (case k2 => k_mem); (case k3 | k4 => assumption); (case k5 => omega); (case k6 => ((simp only [units_deeper, cLine_is]); (try dsimp only); omega)); (case k7 => assumption); k_whole))) | (focus ((with_reducible show wpAny _ _ (call (Value.builtin "len") [Value.ref _]) _ _ _); k_dflt (refine' len_g ?k1 ?k2 ?k3 ?_; (case k1 => k_asm); (case k2 => assumption); (case k3 => omega); k_whole))) | (focus ((with_reducible show wpAny _ _ (execs (List.nil) _) _ _ _); (with_reducible refine wpAny_execs_nil ?_); (try dsimp only))) | (focus ((with_reducible show wpAny _ _ (binaryOp Operator.Add (Value.str _ _) (Value.str _ _)) _ _ _); (refine' cat_le ?kxz ?_; (case kxz => ((simp only [Str.length_append, ll_nl, ll_sp, ll_eq, ll_lt, ll_gt, ll_sg, ll_ls]); omega))); intro t' k' hk'; (try dsimp only at hk'))) | walk_at "one step"))
    refine' hQ _ _ _ rv1 nr1 _ _ ?F ?T hrv1 ?N
    case F => assumption
    case T => exact News.isTup (by assumption) (.head _)
    case N =>
      intro news' r
      refine' news_rw (us := [(ra, listOf rv1.toArray nr1)]) (N0 ()) kg ?F ?N (List.forall_mem_cons.mpr ⟨hra, List.forall_mem_nil _⟩) ?hu (List.forall_mem_cons.mpr ⟨.inl ⟨_, .head _, rfl⟩, List.forall_mem_nil _⟩) r
      case F => assumption
      case N => assumption
      case hu => exact List.forall_mem_cons.mpr ⟨by k_mem, List.forall_mem_nil _⟩
theorem wr_ct (w : World) : ∀ (n : Nat) (f : Fo), f.size < n → WrC w f
  | 0, f, h => absurd h (Nat.not_lt_zero _)
  | n + 1, f, h => wr_step w n (fun k hk => wr_ct w n k hk) f (Nat.le_of_lt_succ h)
end Mine
end
-- part Ts
section
namespace Mine
noncomputable abbrev TStk := List (Fo × Str × List (Str × Str))
noncomputable def elN (x : Int) : Str := [Str.ofString "a", Str.ofString "b-c", Str.ofString "_.9"].getD (((x.fdiv 3).fdiv 2).fmod 3).toNat Str.empty
noncomputable def elP (x : Int) : List (Str × Str) := [(Str.ofString "k", lawText (x.fdiv 3)), (Str.ofString "l~2", lawText (7 * x.fdiv 3 + 1))].take ((x.fdiv 3 + 1).fmod 3).toNat
noncomputable def tStep (st : TStk × Fo) (x : Int) : TStk × Fo :=
  if x.fmod 3 = 0 then ((st.2, elN x, elP x) :: st.1, .nil)
  else if x.fmod 3 = 2 then match st.1 with
    | [] => ([], st.2.app (.cons (elN x) (elP x) .nil .nil))
    | (f, nm, ps) :: r => (r, f.app (.cons nm ps (st.2.app (.cons (elN x) (elP x) .nil .nil)) .nil))
  else (st.1, st.2.app (.cons (elN x) (elP x) .nil .nil))
noncomputable def tClose : TStk → Fo → Fo
  | [], f => f
  | (g, nm, ps) :: r, f => tClose r (g.app (.cons nm ps f .nil))
noncomputable def treeOf (ns : List Int) : Fo := let st := ns.foldl tStep ([], .nil); tClose st.1 st.2
inductive SpN (k : Nat) (C : Addr → Obj → Prop) (f : Fo) (nm : Str) (ps : List (Str × Str)) (R : List Value → Addr → List (Addr × Obj) → Prop) (ys : List Value) (cu : Addr) (SP : List (Addr × Obj)) : Prop
  | mk (ys' : List Value) (pa : Addr) (xs : List Value) (n : Nat) (b : Addr) (t : Tok) (p : Addr) (pv : Array Value) (n1 n2 : Nat) (SP' : List (Addr × Obj)) (e1 : ys = ys' ++ [.ref pa]) (e2 : SP = (pa, listOf (xs ++ [Value.ref b]).toArray n) :: SP') (h1 : xs.length + 1 ≤ k) (h2 : RdFo C f xs)
      (h3 : C b (listOf #[.str nm t, .ref p, .ref cu] n1)) (h4 : C p (listOf pv n2)) (h5 : RdPs C ps pv.toList) (h6 : R ys' pa SP')
noncomputable def Spine (k : Nat) (C : Addr → Obj → Prop) (T0 : Addr) : TStk → List Value → Addr → List (Addr × Obj) → Prop
  | [] => fun ys cu SP => ys = [] ∧ cu = T0 ∧ SP = []
  | (f, nm, ps) :: stk => SpN k C f nm ps (Spine k C T0 stk)
theorem Spine.mono {k k' : Nat} {C C' : Addr → Obj → Prop} {T0 : Addr} (hk : k ≤ k') (hC : ∀ a o, C a o → C' a o) : ∀ {stk : TStk} {ys : List Value} {cu : Addr} {SP : List (Addr × Obj)}, Spine k C T0 stk ys cu SP → Spine k' C' T0 stk ys cu SP
  | [], _, _, _, h => h
  | (f, nm, ps) :: stk, _, _, _, ⟨ys', pa, xs, n, b, t, p, pv, n1, n2, SP', e1, e2, h1, h2, h3, h4, h5, h6⟩ => ⟨ys', pa, xs, n, b, t, p, pv, n1, n2, SP', e1, e2, Nat.le_trans h1 hk, h2.mono hC, hC _ _ h3, hC _ _ h4, h5.mono hC, h6.mono hk hC⟩
inductive TS (k : Nat) (T0 P : Addr) (stk : TStk) (cur : Fo) (news : List (Addr × Obj)) : Prop
  | mk (cu : Addr) (xs ys : List Value) (n1 n2 : Nat) (SP CL : List (Addr × Obj)) (e : news = (P, listOf (ys ++ [Value.ref cu]).toArray n1) :: (cu, listOf xs.toArray n2) :: (SP ++ CL)) (r : RdFo (fun a o => (a, o) ∈ CL) cur xs) (sp : Spine k (fun a o => (a, o) ∈ CL) T0 stk ys cu SP)
      (nd : (P :: cu :: SP.map (·.1)).Nodup) (cl : ∀ q ∈ CL, q.1 ∉ P :: cu :: SP.map (·.1)) (ly : ys.length ≤ k) (lx : xs.length ≤ k)
theorem spine_close {T0 : Addr} {k : Nat} : ∀ {stk : TStk} {ys : List Value} {cu : Addr} {SP CL : List (Addr × Obj)} {xs : List Value} {n : Nat} {cur : Fo}, Spine k (fun a o => (a, o) ∈ CL) T0 stk ys cu SP → RdFo (fun a o => (a, o) ∈ CL) cur xs →
    ∃ (vs : List Value) (n0 : Nat), (T0, listOf vs.toArray n0) ∈ (cu, listOf xs.toArray n) :: (SP ++ CL) ∧ RdFo (fun a o => (a, o) ∈ (cu, listOf xs.toArray n) :: (SP ++ CL)) (tClose stk cur) vs
  | [], ys, cu, SP, CL, xs, n, cur, ⟨_, e, _⟩, R => by
    subst e
    exact ⟨xs, n, .head _, R.mono fun a o h => .tail _ (List.mem_append_right _ h)⟩
  | (f, nm, ps) :: stk, ys, cu, SP, CL, xs, n, cur, ⟨ys', pa, xs', n', b, t, p, pv, n1, n2, SP', e1, e2, h1, h2, h3, h4, h5, h6⟩, R => by
    have hm : ∀ a o, (a, o) ∈ CL → (a, o) ∈ (cu, listOf xs.toArray n) :: CL := fun a o h => .tail _ h
    have R' : RdFo (fun a o => (a, o) ∈ (cu, listOf xs.toArray n) :: CL) (f.app (.cons nm ps cur .nil)) (xs' ++ [.ref b]) :=
      (h2.mono hm).app ⟨b, t, p, cu, pv, xs.toArray, n1, n2, n, [], rfl, hm _ _ h3, hm _ _ h4, h5.mono hm, .head _, R.mono hm, rfl⟩
    obtain ⟨vs, n0, g1, g2⟩ := spine_close (n := n') (h6.mono (Nat.le_refl _) hm) R'
    subst e2
    have sub : ∀ q ∈ (pa, listOf (xs' ++ [Value.ref b]).toArray n') :: (SP' ++ (cu, listOf xs.toArray n) :: CL), q ∈ (cu, listOf xs.toArray n) :: ((pa, listOf (xs' ++ [Value.ref b]).toArray n') :: SP' ++ CL) := by
      intro q hq
      simp only [List.mem_cons, List.mem_append, List.cons_append] at hq ⊢
      rcases hq with h | h | h | h
      · exact .inr (.inl h)
      · exact .inr (.inr (.inl h))
      · exact .inl h
      · exact .inr (.inr (.inr h))
    exact ⟨vs, n0, sub _ g1, g2.mono fun a o h => sub _ h⟩
theorem pick_0 (a b : Value) : slicePick #[a, b] none (some 0) none = #[] := rfl
theorem pick_1 (a b : Value) : slicePick #[a, b] none (some 1) none = #[a] := rfl
theorem pick_2 (a b : Value) : slicePick #[a, b] none (some 2) none = #[a, b] := rfl
theorem fmod3 (z : Int) : z.fmod 3 = 0 ∨ z.fmod 3 = 1 ∨ z.fmod 3 = 2 := by
  have h1 : 0 ≤ z.fmod 3 := Int.fmod_nonneg_of_pos z (by decide)
  have h2 : z.fmod 3 < 3 := Int.fmod_lt_of_pos z (by decide)
  omega
theorem elP_rd {C : Addr → Obj → Prop} {x : Int} {D1 D2 : Addr} {ta tb tc td : Tok} (h2 : C D2 { cls := .type "tuple", data := .seq #[.str (Str.ofString "l~2") ta, .str (lawText (7 * x.fdiv 3 + 1)) tb] }) (h1 : C D1 { cls := .type "tuple", data := .seq #[.str (Str.ofString "k") tc, .str (lawText (x.fdiv 3)) td] }) :
    RdPs C (elP x) (slicePick #[Value.ref D1, Value.ref D2] none (some ((x.fdiv 3 + 1).fmod 3)) none).toList := by
  unfold elP
  rcases fmod3 (x.fdiv 3 + 1) with h | h | h
  · rw [h, pick_0]; rfl
  · rw [h, pick_1]; exact ⟨D1, tc, td, [], rfl, h1, rfl⟩
  · rw [h, pick_2]; exact ⟨D1, tc, td, _, rfl, h1, D2, ta, tb, [], rfl, h2, rfl⟩
theorem tb_lt {d : Addr} {l : List (Addr × Obj)} (h : AllLt d l) : ∀ p ∈ l, @LT.lt Nat _ p.1 d := ktn_ltOf h
section
variable {h₀ h' : Heap} {L : Addr} {k : Nat} {T0 P cu I : Addr} {xs ys : List Value} {n1 n2 : Nat} {SP CL : List (Addr × Obj)} {stk : TStk} {cur : Fo} {x : Int} {b nl p l2 D1 D2 inn : Addr} {oi onl ol2 Po : Obj} {t1 ta tb tc td : Tok}
theorem ts_step (R : RdFo (fun a o => (a, o) ∈ CL) cur xs) (S : Spine k (fun a o => (a, o) ∈ CL) T0 stk ys cu SP) (nd : (P :: cu :: SP.map (·.1)).Nodup) (hc : ∀ q ∈ CL, q.1 ∉ P :: cu :: SP.map (·.1)) (hy : ys.length ≤ k) (hx : xs.length ≤ k)
  (hI : ∀ q ∈ SP ++ CL, q.1 ≠ I) (hPI : @Ne Nat P I) (hcI : @Ne Nat cu I)
  (N : News h₀ L h' ((b, listOf #[.str ([Str.ofString "a", Str.ofString "b-c", Str.ofString "_.9"].getD (((x.fdiv 3).fdiv 2).fmod 3).toNat Str.empty) t1, .ref p, .ref inn] 0) :: (nl, onl) ::
      (p, { cls := .type "list", data := .seq (slicePick #[Value.ref D1, Value.ref D2] none (some ((x.fdiv 3 + 1).fmod 3)) none) }) :: (l2, ol2) :: (D2, { cls := .type "tuple", data := .seq #[.str (Str.ofString "l~2") ta, .str (lawText (7 * x.fdiv 3 + 1)) tb] }) ::
      (D1, { cls := .type "tuple", data := .seq #[.str (Str.ofString "k") tc, .str (lawText (x.fdiv 3)) td] }) :: (inn, listOf #[] 0) :: (I, oi) :: (P, Po) :: (cu, listOf (xs.toArray.push (Value.ref b)) (n2 + 1)) :: (SP ++ CL)))
  (f0 : (@LT.lt Nat _ I inn) ∧ (@LT.lt Nat _ P inn) ∧ (@LT.lt Nat _ cu inn) ∧ AllLt inn (SP ++ CL)) (f1 : @LT.lt Nat _ inn D1) (f2 : @LT.lt Nat _ D1 D2) (f3 : @LT.lt Nat _ D2 p) (f4 : @LT.lt Nat _ p b)
  (hPo : (x.fmod 3 = 0 ∧ Po = listOf ((ys ++ [Value.ref cu]).toArray.push (Value.ref inn)) (n1 + 1)) ∨ (x.fmod 3 = 2 ∧ 1 < (ys.length : Int) + 1 ∧ Po = listOf ys.toArray (n1 + 1)) ∨ (x.fmod 3 ≠ 0 ∧ (x.fmod 3 = 2 → ¬ 1 < (ys.length : Int) + 1) ∧ Po = listOf (ys ++ [Value.ref cu]).toArray n1)) :
  ∃ news', News h₀ L h' ((I, oi) :: news') ∧ (∀ q ∈ news', @Ne Nat q.1 I) ∧ TS (k + 1) T0 P (tStep (stk, cur) x).1 (tStep (stk, cur) x).2 news' := by
  obtain ⟨g1, g2, g3, g4⟩ := f0
  have g5 := tb_lt g4
  rw [show xs.toArray.push (Value.ref b) = (xs ++ [Value.ref b]).toArray by simp] at N
  -- what is closed in any case
  generalize hE : [(b, listOf #[Value.str (elN x) t1, .ref p, .ref inn] 0), (p, listOf (slicePick #[Value.ref D1, Value.ref D2] none (some ((x.fdiv 3 + 1).fmod 3)) none) 0), (D2, { cls := .type "tuple", data := .seq #[.str (Str.ofString "l~2") ta, .str (lawText (7 * x.fdiv 3 + 1)) tb] }),
      (D1, { cls := .type "tuple", data := .seq #[.str (Str.ofString "k") tc, .str (lawText (x.fdiv 3)) td] })] = EC
  have hEm : ∀ q ∈ EC, @LT.lt Nat _ inn q.1 := by
    subst hE
    refine List.forall_mem_cons.mpr ⟨?_, List.forall_mem_cons.mpr ⟨?_, List.forall_mem_cons.mpr ⟨?_, List.forall_mem_cons.mpr ⟨f1, List.forall_mem_nil _⟩⟩⟩⟩ <;> ((show @LT.lt Nat _ _ _); (dsimp only); omega)
  have hEN : News h₀ L h' EC := by
    subst hE
    refine List.forall_mem_cons.mpr ⟨N _ (.head _), List.forall_mem_cons.mpr ⟨N _ (.tail _ (.tail _ (.head _))), List.forall_mem_cons.mpr ⟨N _ (.tail _ (.tail _ (.tail _ (.tail _ (.head _))))), List.forall_mem_cons.mpr ⟨N _ (.tail _ (.tail _ (.tail _ (.tail _ (.tail _ (.head _)))))), List.forall_mem_nil _⟩⟩⟩⟩
  have hEb : (b, listOf #[Value.str (elN x) t1, .ref p, .ref inn] 0) ∈ EC := by subst hE; exact .head _
  have hEp : (p, listOf (slicePick #[Value.ref D1, Value.ref D2] none (some ((x.fdiv 3 + 1).fmod 3)) none) 0) ∈ EC := by subst hE; exact .tail _ (.head _)
  have hEr : RdPs (fun a o => (a, o) ∈ EC) (elP x) (slicePick #[Value.ref D1, Value.ref D2] none (some ((x.fdiv 3 + 1).fmod 3)) none).toList := by
    subst hE
    exact elP_rd (.tail _ (.tail _ (.head _))) (.tail _ (.tail _ (.tail _ (.head _))))
  have NI := N _ (.tail _ (.tail _ (.tail _ (.tail _ (.tail _ (.tail _ (.tail _ (.head _))))))))
  have NP := N _ (.tail _ (.tail _ (.tail _ (.tail _ (.tail _ (.tail _ (.tail _ (.tail _ (.head _)))))))))
  have Ninn := N _ (.tail _ (.tail _ (.tail _ (.tail _ (.tail _ (.tail _ (.head _)))))))
  have Ncu := N _ (.tail _ (.tail _ (.tail _ (.tail _ (.tail _ (.tail _ (.tail _ (.tail _ (.tail _ (.head _))))))))))
  have NT : News h₀ L h' (SP ++ CL) := fun q hq => N q (.tail _ (.tail _ (.tail _ (.tail _ (.tail _ (.tail _ (.tail _ (.tail _ (.tail _ (.tail _ hq))))))))))
  clear N hE
  have ndI : ∀ q ∈ SP, @LT.lt Nat _ q.1 inn := fun q hq => g5 q (List.mem_append_left _ hq)
  have ndC : ∀ q ∈ CL, @LT.lt Nat _ q.1 inn := fun q hq => g5 q (List.mem_append_right _ hq)
  have old : ∀ a ∈ P :: cu :: SP.map (·.1), @LT.lt Nat _ a inn := by
    refine List.forall_mem_cons.mpr ⟨g2, List.forall_mem_cons.mpr ⟨g3, fun a ha => ?_⟩⟩
    obtain ⟨q, hq, rfl⟩ := List.mem_map.mp ha
    exact ndI q hq
  have inno : inn ∉ P :: cu :: SP.map (·.1) := fun h => Nat.lt_irrefl _ (old _ h)
  have ECo : ∀ q ∈ EC, q.1 ∉ P :: cu :: SP.map (·.1) := fun q hq h => absurd (Nat.lt_trans (hEm q hq) (old _ h)) (Nat.lt_irrefl _)
  have ECI : ∀ q ∈ EC, @Ne Nat q.1 I := fun q hq => Nat.ne_of_gt (Nat.lt_trans g1 (hEm q hq))
  have hEC : ∀ a o, (a, o) ∈ EC → (a, o) ∈ EC ++ CL := fun a o h => List.mem_append_left _ h
  have hCC : ∀ a o, (a, o) ∈ CL → (a, o) ∈ EC ++ CL := fun a o h => List.mem_append_right _ h
  rcases hPo with ⟨hm, rfl⟩ | ⟨hm, hl, rfl⟩ | ⟨hm, hl, rfl⟩
  · -- into it
    have e : tStep (stk, cur) x = ((cur, elN x, elP x) :: stk, .nil) := by unfold tStep; rw [if_pos hm]
    rw [e]
    rw [show (ys ++ [Value.ref cu]).toArray.push (Value.ref inn) = ((ys ++ [Value.ref cu]) ++ [Value.ref inn]).toArray by simp] at NP
    refine ⟨(P, listOf ((ys ++ [Value.ref cu]) ++ [Value.ref inn]).toArray (n1 + 1)) :: (inn, listOf #[] 0) :: (((cu, listOf (xs ++ [Value.ref b]).toArray (n2 + 1)) :: SP) ++ (EC ++ CL)), ?_, ?_, inn, [], ys ++ [Value.ref cu], _, _, (cu, listOf (xs ++ [Value.ref b]).toArray (n2 + 1)) :: SP, EC ++ CL, rfl, rfl, ?_, ?_, ?_, ?_, ?_⟩
    · intro q hq
      simp only [List.mem_cons, List.mem_append, List.cons_append] at hq
      rcases hq with rfl | rfl | rfl | rfl | hq | hq | hq
      · exact NI
      · exact NP
      · exact Ninn
      · exact Ncu
      · exact NT q (List.mem_append_left _ hq)
      · exact hEN q hq
      · exact NT q (List.mem_append_right _ hq)
    · intro q hq
      simp only [List.mem_cons, List.mem_append, List.cons_append] at hq
      rcases hq with rfl | rfl | rfl | hq | hq | hq
      · exact hPI
      · exact Nat.ne_of_gt g1
      · exact hcI
      · exact hI q (List.mem_append_left _ hq)
      · exact ECI q hq
      · exact hI q (List.mem_append_right _ hq)
    · exact ⟨ys, cu, xs, n2 + 1, b, t1, p, _, 0, 0, SP, rfl, rfl, by omega, R.mono hCC, hEC _ _ hEb, hEC _ _ hEp, hEr.mono hEC, S.mono (by omega) hCC⟩
    · have z : inn ∉ cu :: SP.map (·.1) := fun h => inno (.tail _ h)
      have z2 : P ∉ inn :: cu :: SP.map (·.1) := fun h => by
        rcases List.mem_cons.mp h with h | h
        · exact inno (h ▸ .head _)
        · exact (List.nodup_cons.mp nd).1 h
      exact List.nodup_cons.mpr ⟨z2, List.nodup_cons.mpr ⟨z, (List.nodup_cons.mp nd).2⟩⟩
    · intro q hq h
      have h' : q.1 = inn ∨ q.1 ∈ P :: cu :: SP.map (·.1) := by
        simp only [List.map_cons, List.mem_cons] at h ⊢
        rcases h with h | h | h | h
        · exact .inr (.inl h)
        · exact .inl h
        · exact .inr (.inr (.inl h))
        · exact .inr (.inr (.inr h))
      rcases List.mem_append.mp hq with hq | hq
      · rcases h' with h' | h'
        · have := hEm q hq; rw [h'] at this; exact Nat.lt_irrefl _ this
        · exact ECo q hq h'
      · rcases h' with h' | h'
        · have := ndC q hq; rw [h'] at this; exact Nat.lt_irrefl _ this
        · exact hc q hq h'
    · rw [List.length_append, List.length_singleton]; omega
    · exact Nat.zero_le _
  · -- out of it
    cases stk with
    | nil =>
      obtain ⟨e, _, _⟩ := S
      subst e
      exact absurd hl (by decide)
    | cons fr stk =>
    obtain ⟨f, nm, ps⟩ := fr
    obtain ⟨ys', pa, xs', n', b', t', p', pv, m1, m2, SP', e1, e2, h1, h2, h3, h4, h5, h6⟩ := S
    subst e1 e2
    have e : tStep ((f, nm, ps) :: stk, cur) x = (stk, f.app (.cons nm ps (cur.app (.cons (elN x) (elP x) .nil .nil)) .nil)) := by unfold tStep; rw [if_neg (by omega), if_pos hm]
    rw [e]
    have hm' : ∀ a o, (a, o) ∈ EC ++ CL → (a, o) ∈ (cu, listOf (xs ++ [Value.ref b]).toArray (n2 + 1)) :: (inn, listOf #[] 0) :: (EC ++ CL) := fun a o h => .tail _ (.tail _ h)
    have hmC : ∀ a o, (a, o) ∈ CL → (a, o) ∈ (cu, listOf (xs ++ [Value.ref b]).toArray (n2 + 1)) :: (inn, listOf #[] 0) :: (EC ++ CL) := fun a o h => hm' _ _ (hCC _ _ h)
    have hmE : ∀ a o, (a, o) ∈ EC → (a, o) ∈ (cu, listOf (xs ++ [Value.ref b]).toArray (n2 + 1)) :: (inn, listOf #[] 0) :: (EC ++ CL) := fun a o h => hm' _ _ (hEC _ _ h)
    refine ⟨(P, listOf (ys' ++ [Value.ref pa]).toArray (n1 + 1)) :: (pa, listOf (xs' ++ [Value.ref b']).toArray n') :: (SP' ++ ((cu, listOf (xs ++ [Value.ref b]).toArray (n2 + 1)) :: (inn, listOf #[] 0) :: (EC ++ CL))), ?_, ?_, pa, xs' ++ [Value.ref b'], ys', _, _, SP', _, rfl, ?_, h6.mono (by omega) hmC, ?_, ?_, ?_, ?_⟩
    · intro q hq
      simp only [List.mem_cons, List.mem_append] at hq
      rcases hq with rfl | rfl | rfl | hq | rfl | rfl | hq | hq
      · exact NI
      · exact NP
      · exact NT _ (List.mem_append_left _ (.head _))
      · exact NT q (List.mem_append_left _ (.tail _ hq))
      · exact Ncu
      · exact Ninn
      · exact hEN q hq
      · exact NT q (List.mem_append_right _ hq)
    · intro q hq
      simp only [List.mem_cons, List.mem_append] at hq
      rcases hq with rfl | rfl | hq | rfl | rfl | hq | hq
      · exact hPI
      · exact hI _ (List.mem_append_left _ (.head _))
      · exact hI q (List.mem_append_left _ (.tail _ hq))
      · exact hcI
      · exact Nat.ne_of_gt g1
      · exact ECI q hq
      · exact hI q (List.mem_append_right _ hq)
    · exact (h2.mono hmC).app ⟨b', t', p', cu, pv, (xs ++ [Value.ref b]).toArray, m1, m2, n2 + 1, [], rfl, hmC _ _ h3, hmC _ _ h4, h5.mono hmC, .head _,
        (R.mono hmC).app ⟨b, t1, p, inn, _, #[], 0, 0, 0, [], rfl, hmE _ _ hEb, hmE _ _ hEp, hEr.mono hmE, .tail _ (.head _), rfl, rfl⟩, rfl⟩
    · have q1 := (List.nodup_cons.mp nd).2
      have q2 := (List.nodup_cons.mp q1).2
      refine List.nodup_cons.mpr ⟨fun h => (List.nodup_cons.mp nd).1 (.tail _ h), q2⟩
    · intro q hq h
      have h' : q.1 ∈ P :: cu :: ((pa, listOf (xs' ++ [Value.ref b']).toArray n') :: SP').map (·.1) := by
        rcases List.mem_cons.mp h with h | h
        · exact h ▸ .head _
        · exact .tail _ (.tail _ h)
      rcases List.mem_cons.mp hq with rfl | hq
      · have q1 := (List.nodup_cons.mp (List.nodup_cons.mp nd).2).1
        rcases List.mem_cons.mp h with h | h
        · exact (List.nodup_cons.mp nd).1 (h ▸ .head _)
        · exact q1 h
      rcases List.mem_cons.mp hq with rfl | hq
      · exact inno h'
      rcases List.mem_append.mp hq with hq | hq
      · exact ECo q hq h'
      · exact hc q hq h'
    · rw [List.length_append] at hy; omega
    · rw [List.length_append, List.length_singleton]; omega
  · -- beside it
    have e : tStep (stk, cur) x = (stk, cur.app (.cons (elN x) (elP x) .nil .nil)) := by
      unfold tStep
      rw [if_neg hm]
      by_cases h2 : x.fmod 3 = 2
      · rw [if_pos h2]
        cases stk with
        | nil => rfl
        | cons fr stk =>
          obtain ⟨f, nm, ps⟩ := fr
          obtain ⟨ys', pa, xs', n', b', t', p', pv, m1, m2, SP', e1, e2, h1, _⟩ := S
          subst e1
          exact absurd (hl h2) (by rw [List.length_append, List.length_singleton]; omega)
      · rw [if_neg h2]
    rw [e]
    have hm' : ∀ a o, (a, o) ∈ EC ++ CL → (a, o) ∈ (inn, listOf #[] 0) :: (EC ++ CL) := fun a o h => .tail _ h
    have hmC : ∀ a o, (a, o) ∈ CL → (a, o) ∈ (inn, listOf #[] 0) :: (EC ++ CL) := fun a o h => hm' _ _ (hCC _ _ h)
    have hmE : ∀ a o, (a, o) ∈ EC → (a, o) ∈ (inn, listOf #[] 0) :: (EC ++ CL) := fun a o h => hm' _ _ (hEC _ _ h)
    refine ⟨(P, listOf (ys ++ [Value.ref cu]).toArray n1) :: (cu, listOf (xs ++ [Value.ref b]).toArray (n2 + 1)) :: (SP ++ ((inn, listOf #[] 0) :: (EC ++ CL))), ?_, ?_, cu, xs ++ [Value.ref b], ys, _, _, SP, _, rfl, ?_, S.mono (by omega) hmC, nd, ?_, by omega, ?_⟩
    · intro q hq
      simp only [List.mem_cons, List.mem_append] at hq
      rcases hq with rfl | rfl | rfl | hq | rfl | hq | hq
      · exact NI
      · exact NP
      · exact Ncu
      · exact NT q (List.mem_append_left _ hq)
      · exact Ninn
      · exact hEN q hq
      · exact NT q (List.mem_append_right _ hq)
    · intro q hq
      simp only [List.mem_cons, List.mem_append] at hq
      rcases hq with rfl | rfl | hq | rfl | hq | hq
      · exact hPI
      · exact hcI
      · exact hI q (List.mem_append_left _ hq)
      · exact Nat.ne_of_gt g1
      · exact ECI q hq
      · exact hI q (List.mem_append_right _ hq)
    · exact (R.mono hmC).app ⟨b, t1, p, inn, _, #[], 0, 0, 0, [], rfl, hmE _ _ hEb, hmE _ _ hEp, hEr.mono hmE, .head _, rfl, rfl⟩
    · intro q hq h
      rcases List.mem_cons.mp hq with rfl | hq
      · exact inno h
      rcases List.mem_append.mp hq with hq | hq
      · exact ECo q hq h
      · exact hc q hq h
    · rw [List.length_append, List.length_singleton]; omega
end
end Mine
end
-- part Tr
section
namespace Mine
theorem len_sn {prog : Program} {w : World} {A : Around} {E : Value → Shared → Prop} {s : Shared} {l : Addr} {ys : List Value} {v : Value} {Q : Value → Shared → Prop} (hl : s.heap.IsList l (ys ++ [v]).toArray) (hz : ys.length ≤ 1000) (h : Q (.int ((ys.length : Int) + 1) (s.toks + 1)) { s with toks := s.toks + 1 + 1 }) :
    wpAny (model prog w) A (call (.builtin "len") [.ref l]) Q E s :=
  kun_lenL hl (by simp) (by omega) h
theorem kl_last_snoc : ∀ (ys : List Value) (v : Value), kl_last (ys ++ [v]).toArray.toList = some (ys, v) := by
  intro ys v
  show kl_last (ys ++ [v]) = some (ys, v)
  induction ys with
  | nil => rfl
  | cons y ys ih => rw [List.cons_append, kl_last, ih]
theorem item_last {prog : Program} {w : World} {A : Around} {E : Value → Shared → Prop} {s : Shared} {value slice : PySem.Expr} {l : Addr} {ys : List Value} {u : Tok} {v : Value} {Q : Value → Shared → Prop} (hl : s.heap.IsList l (ys ++ [v]).toArray) (h : Q v s)
    (hs : subscripted slice false (.ref l) (.int (-1) u) = operate [.ref l, .int (-1) u] (getItem (.ref l) (.int (-1) u))) :
    wpAny (model prog w) A (subscriptTail value slice (.ref l) (.int (-1) u)) Q E s :=
  tail_any hl.typeIs slot_list_getitem.lookup (wpAny_getItem_list_neg hl (by decide) (by simp; omega) (by decide) (by
    have e : (-1 + ((ys ++ [v]).toArray.size : Int)).toNat = ys.length := by simp; omega
    rw [e]; simp) h) hs
local macro_rules | `(tactic| mul_fits) => `(tactic| (with_reducible assumption))
local macro_rules | `(tactic| k_all) => `(tactic| (with_reducible assumption))
noncomputable abbrev tlLoc (T0 P ax : Addr) (xv thv inv prv : Option Value) : Str → Option Value := fun y =>
  if y = Str.ofString "pairs" then prv else if y = Str.ofString "inner" then inv else if y = Str.ofString "third" then thv else if y = Str.ofString "x" then xv else if y = Str.ofString "path" then some (.ref P) else if y = Str.ofString "tree" then some (.ref T0) else if y = Str.ofString "numbers" then some (.ref ax) else none
theorem tlLoc_step (T0 P ax : Addr) (xv thv inv prv thv' inv' prv' : Option Value) : ∀ y, (if y = Str.ofString "pairs" then prv' else if y = Str.ofString "inner" then inv' else if y = Str.ofString "third" then thv' else tlLoc T0 P ax xv thv inv prv y) = tlLoc T0 P ax xv thv' inv' prv' y := by
  intro y
  by_cases h1 : y = Str.ofString "pairs"
  · simp only [if_pos h1]
  by_cases h2 : y = Str.ofString "inner"
  · simp only [if_neg h1, if_pos h2]
  by_cases h3 : y = Str.ofString "third"
  · simp only [if_neg h1, if_neg h2, if_pos h3]
  simp only [if_neg h1, if_neg h2, if_neg h3]
theorem tlLoc_x (T0 P ax : Addr) (xv xv' thv inv prv : Option Value) : ∀ y, (if y = Str.ofString "x" then xv' else tlLoc T0 P ax xv thv inv prv y) = tlLoc T0 P ax xv' thv inv prv y := by
  intro y
  by_cases h1 : y = Str.ofString "x"
  · subst h1; rfl
  · simp only [tlLoc, if_neg h1]
theorem tlLoc_start (T0 P ax : Addr) : ∀ y, (if y = Str.ofString "path" then some (Value.ref P) else if y = Str.ofString "tree" then some (Value.ref T0) else List.lookup y [(Str.ofString "numbers", Value.ref ax)].reverse) = tlLoc T0 P ax none none none none y := by
  intro y
  by_cases h1 : y = Str.ofString "path"
  · subst h1; rfl
  by_cases h2 : y = Str.ofString "tree"
  · subst h2; rfl
  by_cases h3 : y = Str.ofString "numbers"
  · subst h3; rfl
  have h4 : (y == Str.ofString "numbers") = false := by simpa using h3
  simp only [tlLoc, if_neg h1, if_neg h2, if_neg h3, List.reverse_cons, List.reverse_nil, List.nil_append, List.lookup, h4]
  split <;> (try rfl); split <;> (try rfl); split <;> (try rfl); split <;> rfl
noncomputable def tlFor : Stmt := at_ (bodyOf (defAt 27)) 2
noncomputable def tlScope : Scope := scopeOf (defAt 27)
noncomputable abbrev tlEnv (L : Addr) : Env := envOf (Str.ofString "_law_tree") tlScope L 772 (.ref 771)
section
variable {w : World} {dp un : Nat} {gd : Option (List Code)} {A₀ : Around} {base h₀ : Heap} {L : Addr} {m : Str → Option Value} {s : Shared} {p : Program} {loose : List Str} {mean : ExcName → Option Value} {mg mb : Str → Option Value} {env : Env} {outer : List Env} {Q : Flow → Shared → Prop} {E : Value → Shared → Prop} {TL : List (Addr × Obj)}
theorem tr_turn {T0 P cu I ax : Addr} {oi : Obj} {xs ys : List Value} {n1 n2 : Nat} {x : Int} {t : Tok} {thv inv prv : Option Value} (B : Below A₀ base outer h₀) (F : Fr h₀ L s.heap (tlLoc T0 P ax (some (.int x t)) thv inv prv)) (X : (Mine.KK w.params).In h₀)
  (N : News h₀ L s.heap ((I, oi) :: (P, listOf (ys ++ [Value.ref cu]).toArray n1) :: (cu, listOf xs.toArray n2) :: TL))
  (hT0 : ∀ p ∈ TL, p.1 ≠ I) (hT1 : ∀ p ∈ TL, p.1 ≠ P) (hT2 : ∀ p ∈ TL, p.1 ≠ cu) (hn : @Ne Nat P cu) (hn1 : @Ne Nat P I) (hn2 : @Ne Nat cu I) (hl : ys.length ≤ 1000) (hl2 : xs.length ≤ 1000)
  (T : Top p loose mean mg mb h₀) (hd : dp + 30 < 1000) (hmul : IntMulOk 7 (x.fdiv 3))
  (hQ : ∀ h' k' (b nl p l2 D1 D2 inn : Addr) (onl ol2 Po : Obj) (t1 ta tb tc td : Tok) (thv' inv' prv' : Option Value), Fr h₀ L h' (tlLoc T0 P ax (some (.int x t)) thv' inv' prv') →
    News h₀ L h' ((b, listOf #[.str ([Str.ofString "a", Str.ofString "b-c", Str.ofString "_.9"].getD (((x.fdiv 3).fdiv 2).fmod 3).toNat Str.empty) t1, .ref p, .ref inn] 0) :: (nl, onl) ::
      (p, { cls := .type "list", data := .seq (slicePick #[Value.ref D1, Value.ref D2] none (some ((x.fdiv 3 + 1).fmod 3)) none) }) :: (l2, ol2) :: (D2, { cls := .type "tuple", data := .seq #[.str (Str.ofString "l~2") ta, .str (lawText (7 * x.fdiv 3 + 1)) tb] }) ::
      (D1, { cls := .type "tuple", data := .seq #[.str (Str.ofString "k") tc, .str (lawText (x.fdiv 3)) td] }) :: (inn, listOf #[] 0) :: (I, oi) :: (P, Po) :: (cu, listOf (xs.toArray.push (Value.ref b)) (n2 + 1)) :: TL) →
    ((@LT.lt Nat _ I inn) ∧ (@LT.lt Nat _ P inn) ∧ (@LT.lt Nat _ cu inn) ∧ AllLt inn TL) → @LT.lt Nat _ inn D1 → @LT.lt Nat _ D1 D2 → @LT.lt Nat _ D2 p → @LT.lt Nat _ p b →
    ((x.fmod 3 = 0 ∧ Po = listOf ((ys ++ [Value.ref cu]).toArray.push (Value.ref inn)) (n1 + 1)) ∨ (x.fmod 3 = 2 ∧ 1 < (ys.length : Int) + 1 ∧ Po = listOf ys.toArray (n1 + 1)) ∨ (x.fmod 3 ≠ 0 ∧ (x.fmod 3 = 2 → ¬ 1 < (ys.length : Int) + 1) ∧ Po = listOf (ys ++ [Value.ref cu]).toArray n1)) →
    Q .next { s with heap := h', toks := k' }) :
  wpAny (model PG w) (Around.mk none dp (some (tlEnv L :: outer)) gd un) (execs (bodyOf tlFor) (tlEnv L)) Q E s := by
  show wpAny _ _ (execs (List.cons _ _) _) _ _ _
  dsimp only [tlEnv]
  rw [show tlScope = Scope.mk _ _ _ _ _ from rfl]
  (try k_fold)
  repeat ((fail_if_success (with_reducible show wpAny _ _ (eval (Expr.Slice _ _ _ _) _) _ _ _)); (first | (focus ((with_reducible show wpAny _ _ (PySem.call (Value.builtin "list.pop") _ _) _ _ _); k_dflt (refine' kl_pop ?F ?N ?e ?U ?z ?_; (case F | N => k_asm); (case U => k_upd); (case e => exact kl_last_snoc _ _); (case z => ((simp only [List.length_append, List.length_cons, List.length_nil, sizeLine_eq]); omega))); (intro h' F' N'))) | (focus ((with_reducible show wpAny _ _ (call (Value.builtin "len") [Value.ref _]) _ _ _); k_dflt (refine' len_sn ?k1 ?k3 ?_; (case k1 => exact News.isList (by k_asm) (by k_mem)); (case k3 => omega); k_whole))) | (focus ((with_reducible show wpAny _ _ (subscriptTail _ _ (Value.ref _) (Value.int (Int.fmod _ 3) _)) _ _ _); k_dflt (refine' KTb.item_list ?k1 ?k2 ?k3 ?k4 ?k5 ?_ ?k6; (case k1 => exact News.isList (by k_asm) (by k_mem)); (case k2 => exact .cons _ _ (.cons _ _ (.cons _ _ .nil))); (case k3 => exact Int.fmod_nonneg_of_pos _ (by decide)); (case k4 => exact Int.fmod_lt_of_pos _ (by decide)); (case k5 => exact Int.lt_of_lt_of_le (Int.fmod_lt_of_pos _ (by decide)) (by decide)); (case k6 => with_unfolding_all rfl); k_whole; intro t' hlt'))) | (focus ((with_reducible show wpAny _ _ (subscriptTail _ _ (Value.ref _) (Value.int (-1) _)) _ _ _); k_dflt (refine' item_last ?k1 ?_ ?k6; (case k1 => exact News.isList (by k_asm) (by k_mem)); (case k6 => with_unfolding_all rfl); k_whole))) | (focus ((with_reducible show wpAny _ _ (PySem.call (Value.ref _) _ _) _ _ _); k_dflt (refine' lt_ct ?B ?F ?X ?N ?T ?hf ?hke ?hd ?_; (case B | F | X | N | T => k_asm); (case hf | hke => exact rfl); (case hd => walk_at "depth is"); k_whole; intro h' k' tr' F' N'; (try dsimp only)))) | (focus ((with_reducible show wpAny _ _ (newTuple ..) _ _ _); k_dflt (refine' kup_newTuple ?F ?N ?_ ?z; (case F | N => k_asm); (case z => kmk_size)); intro D' h' F' N' l1; (try k_lt l1); (try k_sweep))) | walk_at "one step"))
  rename News _ _ _ _ => N8
  have h8 := allLt_of fun q hq => Heap.lt_size (N8 q hq).1
  simp only [AllLt] at h8
  repeat ((fail_if_success (with_reducible show wpAny _ _ (storeName _ (Str.ofString "pairs") _) _ _ _)); (first | (focus ((with_reducible show wpAny _ _ (PySem.call (Value.builtin "list.pop") _ _) _ _ _); k_dflt (refine' kl_pop ?F ?N ?e ?U ?z ?_; (case F | N => k_asm); (case U => k_upd); (case e => exact kl_last_snoc _ _); (case z => ((simp only [List.length_append, List.length_cons, List.length_nil, sizeLine_eq]); omega))); (intro h' F' N'))) | (focus ((with_reducible show wpAny _ _ (call (Value.builtin "len") [Value.ref _]) _ _ _); k_dflt (refine' len_sn ?k1 ?k3 ?_; (case k1 => exact News.isList (by k_asm) (by k_mem)); (case k3 => omega); k_whole))) | (focus ((with_reducible show wpAny _ _ (subscriptTail _ _ (Value.ref _) (Value.int (Int.fmod _ 3) _)) _ _ _); k_dflt (refine' KTb.item_list ?k1 ?k2 ?k3 ?k4 ?k5 ?_ ?k6; (case k1 => exact News.isList (by k_asm) (by k_mem)); (case k2 => exact .cons _ _ (.cons _ _ (.cons _ _ .nil))); (case k3 => exact Int.fmod_nonneg_of_pos _ (by decide)); (case k4 => exact Int.fmod_lt_of_pos _ (by decide)); (case k5 => exact Int.lt_of_lt_of_le (Int.fmod_lt_of_pos _ (by decide)) (by decide)); (case k6 => with_unfolding_all rfl); k_whole; intro t' hlt'))) | (focus ((with_reducible show wpAny _ _ (subscriptTail _ _ (Value.ref _) (Value.int (-1) _)) _ _ _); k_dflt (refine' item_last ?k1 ?_ ?k6; (case k1 => exact News.isList (by k_asm) (by k_mem)); (case k6 => with_unfolding_all rfl); k_whole))) | (focus ((with_reducible show wpAny _ _ (PySem.call (Value.ref _) _ _) _ _ _); k_dflt (refine' lt_ct ?B ?F ?X ?N ?T ?hf ?hke ?hd ?_; (case B | F | X | N | T => k_asm); (case hf | hke => exact rfl); (case hd => walk_at "depth is"); k_whole; intro h' k' tr' F' N'; (try dsimp only)))) | (focus ((with_reducible show wpAny _ _ (newTuple ..) _ _ _); k_dflt (refine' kup_newTuple ?F ?N ?_ ?z; (case F | N => k_asm); (case z => kmk_size)); intro D' h' F' N' l1; (try k_lt l1); (try k_sweep))) | walk_at "one step"))
  rename News _ _ _ _ => N9
  rename Fr _ _ _ _ => F9
  dsimp only at N9 F9 h8 ⊢
  repeat' ((fail_if_success (with_reducible show Q _ _)); (first | (with_reducible refine' iteF ?iF ?_; (case iF => exact rfl)) | (first | (focus ((with_reducible show wpAny _ _ (PySem.call (Value.builtin "list.pop") _ _) _ _ _); k_dflt (refine' kl_pop ?F ?N ?e ?U ?z ?_; (case F | N => k_asm); (case U => k_upd); (case e => exact kl_last_snoc _ _); (case z => ((simp only [List.length_append, List.length_cons, List.length_nil, sizeLine_eq]); omega))); (intro h' F' N'))) | (focus ((with_reducible show wpAny _ _ (call (Value.builtin "len") [Value.ref _]) _ _ _); k_dflt (refine' len_sn ?k1 ?k3 ?_; (case k1 => exact News.isList (by k_asm) (by k_mem)); (case k3 => omega); k_whole))) | (focus ((with_reducible show wpAny _ _ (subscriptTail _ _ (Value.ref _) (Value.int (Int.fmod _ 3) _)) _ _ _); k_dflt (refine' KTb.item_list ?k1 ?k2 ?k3 ?k4 ?k5 ?_ ?k6; (case k1 => exact News.isList (by k_asm) (by k_mem)); (case k2 => exact .cons _ _ (.cons _ _ (.cons _ _ .nil))); (case k3 => exact Int.fmod_nonneg_of_pos _ (by decide)); (case k4 => exact Int.fmod_lt_of_pos _ (by decide)); (case k5 => exact Int.lt_of_lt_of_le (Int.fmod_lt_of_pos _ (by decide)) (by decide)); (case k6 => with_unfolding_all rfl); k_whole; intro t' hlt'))) | (focus ((with_reducible show wpAny _ _ (subscriptTail _ _ (Value.ref _) (Value.int (-1) _)) _ _ _); k_dflt (refine' item_last ?k1 ?_ ?k6; (case k1 => exact News.isList (by k_asm) (by k_mem)); (case k6 => with_unfolding_all rfl); k_whole))) | (focus ((with_reducible show wpAny _ _ (PySem.call (Value.ref _) _ _) _ _ _); k_dflt (refine' lt_ct ?B ?F ?X ?N ?T ?hf ?hke ?hd ?_; (case B | F | X | N | T => k_asm); (case hf | hke => exact rfl); (case hd => walk_at "depth is"); k_whole; intro h' k' tr' F' N'; (try dsimp only)))) | (focus ((with_reducible show wpAny _ _ (newTuple ..) _ _ _); k_dflt (refine' kup_newTuple ?F ?N ?_ ?z; (case F | N => k_asm); (case z => kmk_size)); intro D' h' F' N' l1; (try k_lt l1); (try k_sweep))) | walk_at "one step")))
  all_goals exact hQ _ _ _ _ _ _ _ _ _ _ _ _ _ _ _ _ _ _ _ _ (Fr.as (by assumption) (tlLoc_step _ _ _ _ _ _ _ _ _ _)) (by assumption) (by assumption) (by omega) (by omega) (by omega) (by omega) (by first | exact .inl ⟨by assumption, rfl⟩ | exact .inr (.inl ⟨by assumption, by assumption, rfl⟩) | exact .inr (.inr ⟨by assumption, fun _ => by assumption, rfl⟩) | exact .inr (.inr ⟨by assumption, fun z => absurd z (by assumption), rfl⟩))
end
end Mine
end
-- part Trc
section
namespace Mine
section
variable {w : World} {dp un : Nat} {gd : Option (List Code)} {A₀ : Around} {base h₀ : Heap} {L : Addr} {m : Str → Option Value} {s : Shared} {p : Program} {loose : List Str} {mean : ExcName → Option Value} {mg mb : Str → Option Value} {env : Env} {outer : List Env} {Q : Flow → Shared → Prop} {E : Value → Shared → Prop} {news : List (Addr × Obj)}
theorem ints_get : ∀ {vs : List Value} {ns : List Int} {i : Nat} {v : Value}, IntsAre vs ns → vs[i]? = some v → ∃ x t, v = .int x t ∧ ns[i]? = some x
  | _, _, 0, v, .cons x t _, h => ⟨x, t, (Option.some.inj h).symm, rfl⟩
  | _, _, i + 1, v, .cons x t r, h => ints_get (i := i) r h
theorem tree_loop {T0 P ax : Addr} {nv : List Value} {ns : List Int} {n1 n2 : Nat} (B : Below A₀ base outer h₀) (F : Fr h₀ L s.heap (tlLoc T0 P ax none none none none)) (X : (Mine.KK w.params).In h₀)
  (N : News h₀ L s.heap [(P, listOf #[Value.ref T0] n1), (T0, listOf #[] n2)]) (hPT : @Ne Nat P T0) (hlst : h₀.IsList ax nv.toArray) (hns : IntsAre nv ns) (hnl : nv.length ≤ 100) (hb : ∀ x ∈ ns, IntMulOk 7 (x.fdiv 3))
  (T : Top p loose mean mg mb h₀) (hd : dp + 32 < 1000) (hE : PassesOwn (model PG w) (Around.mk none dp (some (tlEnv L :: outer)) gd un) (tlEnv L) E)
  (hQ : ∀ h' k' xv thv inv prv news', Fr h₀ L h' (tlLoc T0 P ax xv thv inv prv) → News h₀ L h' news' → TS nv.length T0 P (ns.foldl tStep ([], .nil)).1 (ns.foldl tStep ([], .nil)).2 news' → Q .next { s with heap := h', toks := k' }) :
  wpAny (model PG w) (Around.mk none dp (some (tlEnv L :: outer)) gd un) (exec tlFor (tlEnv L)) Q E s := by
  show wpAny _ _ (exec (Stmt.For _ _ _ _ _) _) _ _ _
  dsimp only [tlEnv]
  rw [show tlScope = Scope.mk _ _ _ _ _ from rfl]
  (try k_fold)
  refine For_turns F ?_ (by intro _; rfl) ?hE
  case hE => exact hE
  have F0 := fun (_ : Unit) => F
  have N0 := fun (_ : Unit) => N
  repeat' ((fail_if_success (with_reducible show wpAny _ _ (pyIter _) _ _ _)); (first | walk_at "one step"))
  rename Fr _ _ _ _ => F2
  rename News _ _ _ _ => N2
  refine' list_for rfl F2 N2 hlst (fun i m₁ n₁ => TS i T0 P ((ns.take i).foldl tStep ([], .nil)).1 ((ns.take i).foldl tStep ([], .nil)).2 n₁ ∧ ∃ xv thv inv prv, m₁ = tlLoc T0 P ax xv thv inv prv) ⟨?start, _, _, _, _, rfl⟩ ?step ?fin
  case start =>
    refine ⟨T0, [], [], _, _, [], [], rfl, rfl, ⟨rfl, rfl, rfl⟩, ?_, List.forall_mem_nil _, Nat.le_refl _, Nat.le_refl _⟩
    exact List.nodup_cons.mpr ⟨fun h => hPT (List.mem_singleton.mp h), List.nodup_cons.mpr ⟨List.not_mem_nil, List.nodup_nil⟩⟩
  case step =>
    intro i v I oi m₁ news₁ h₂ tk₁ R9 hv hJ hoI hR F1 N1
    obtain ⟨⟨cu, xs, ys, m1, m2, SP, CL, rfl, R, S, nd, hc, hy, hx⟩, xv, thv, inv, prv, rfl⟩ := hJ
    obtain ⟨x, tx9, rfl, hx1⟩ := ints_get hns hv
    have hi : i < 100 := by
      rcases Nat.lt_or_ge i nv.length with h | h
      · omega
      · rw [List.getElem?_eq_none h] at hv; cases hv
    have y1 := hb x (List.mem_of_getElem? hx1)
    clear F2 N2
    repeat' ((fail_if_success (with_reducible show wpAny _ _ (execs _ _) _ _ _)); (first | walk_at "one step"))
    rename Fr h₀ _ _ _ => F3
    rename News h₀ _ _ _ => N3
    have hPI : @Ne Nat P I := hoI _ (.head _)
    have hcI : @Ne Nat cu I := hoI _ (.tail _ (.head _))
    have hTI : ∀ q ∈ SP ++ CL, q.1 ≠ I := fun q hq => hoI _ (.tail _ (.tail _ hq))
    have hPc : @Ne Nat P cu := fun e => (List.nodup_cons.mp nd).1 (e ▸ .head _)
    have hTP : ∀ q ∈ SP ++ CL, q.1 ≠ P := fun q hq e => by
      rcases List.mem_append.mp hq with hq | hq
      · exact (List.nodup_cons.mp nd).1 (.tail _ (e ▸ List.mem_map_of_mem (f := (·.1)) hq))
      · exact hc q hq (e ▸ .head _)
    have hTc : ∀ q ∈ SP ++ CL, q.1 ≠ cu := fun q hq e => by
      rcases List.mem_append.mp hq with hq | hq
      · exact (List.nodup_cons.mp (List.nodup_cons.mp nd).2).1 (e ▸ List.mem_map_of_mem (f := (·.1)) hq)
      · exact hc q hq (.tail _ (e ▸ .head _))
    have hF : (ns.take (i + 1)).foldl tStep ([], .nil) = tStep ((ns.take i).foldl tStep ([], .nil)) x := by
      rw [List.take_add_one, hx1, List.foldl_append]; rfl
    rw [hF] at hR
    refine tr_turn (s := { s with heap := _, toks := _ }) B (Fr.as F3 (fun y => tlLoc_x ..)) X N3 hTI hTP hTc hPc hPI hcI (by omega) (by omega) T (by omega) y1 ?_
    intro h' k' b nl p l2 D1 D2 inn onl ol2 Po t1 ta tb tc td thv' inv' prv' F4 N4 g0 g1 g2 g3 g4 hPo
    obtain ⟨news', N5, hI5, hTS⟩ := ts_step R S nd hc hy hx hTI hPI hcI N4 g0 g1 g2 g3 g4 hPo
    exact hR _ _ _ _ _ (.inl rfl) F4 N5 hI5 ⟨hTS, _, _, _, _, rfl⟩
  case fin =>
    intro h2 tk2 m2 news2 F3 N3 hJ
    obtain ⟨hTS, xv, thv, inv, prv, rfl⟩ := hJ
    have e : ns.take nv.length = ns := by rw [hns.length, List.take_length]
    rw [e] at hTS
    exact hQ _ _ _ _ _ _ _ F3 N3 hTS
end
section
variable {w : World} {dp un : Nat} {gd : Option (List Code)} {A₀ : Around} {base h₀ : Heap} {L : Addr} {m : Str → Option Value} {s : Shared} {p : Program} {loose : List Str} {mean : ExcName → Option Value} {mg mb : Str → Option Value} {env : Env} {outer : List Env} {Q E : Value → Shared → Prop} {news : List (Addr × Obj)}
theorem tree_ct {ax : Addr} {nv : List Value} {na : Nat} {ns : List Int} (B : Below A₀ base outer h₀) (F : Fr h₀ L s.heap m) (X : (Mine.KK w.params).In h₀)
  (N : News h₀ L s.heap news) (hax : (ax, listOf nv.toArray na) ∈ news) (hns : IntsAre nv ns) (hnl : nv.length ≤ 100) (hb : ∀ x ∈ ns, IntMulOk 7 (x.fdiv 3))
  (T : Top p loose mean mg mb h₀) (hf : env.frame = some L) (hke : env.scope.kind = .function) (hd : dp + 40 < 1000)
  (hQ : ∀ h' k' T0 vs n0 CL, Fr h₀ L h' m → News h₀ L h' (CL ++ news) → (T0, listOf vs.toArray n0) ∈ CL → RdFo (fun a o => (a, o) ∈ CL) (treeOf ns) vs → Q (.ref T0) { s with heap := h', toks := k' }) :
  wpAny (model PG w) (Around.mk none dp (some (env :: outer)) gd un) (call (.ref 772) [.ref ax] []) Q E s := by
  refine wpAny_call ?_
  refine' call_smallK (small := []) B F X N (fun _ h => nomatch h) T rfl hf hke ?k6 ?k7 ?k8 ?k9 ?kB ?_ ?c2 ?c3 ?c4 ?c5
  (case k6 => k_is)
  (case k7 => k_is)
  (case k8 => (show dp < 1000); omega)
  (case k9 => first | exact BindsTo.of_eq rfl | exact binds_K (by k_in) rfl (by k_is) rfl rfl rfl)
  (case kB => exact locs rfl)
  (case c2 => exact rfl)
  (case c3 => exact rfl)
  (case c4 => exact rfl)
  (case c5 => decide)
  intro g L' h₁ F' N' B' X' T' kg st
  (try k_fold)
  have hag := kg _ hax (by simp)
  have hlst : g.IsList ax nv.toArray := ⟨_, hag, rfl, _, rfl⟩
  have N0 := fun (_ : Unit) => N
  clear N
  (try k_fold)
  replace F' : Fr g L' h₁ (fun y => List.lookup y [(Str.ofString "numbers", Value.ref ax)].reverse) := F'
  (first | walk_at "one step")
  repeat' ((fail_if_success (with_reducible show wpAny _ _ (exec (Stmt.For _ _ _ _ _) _) _ _ _)); (first | walk_at "one step"))
  rename Fr g _ _ _ => F2
  rename News g _ _ _ => N2
  replace F2 := Fr.as F2 (tlLoc_start _ _ ax)
  refine tree_loop (s := { s with heap := _, toks := _ }) B' F2 X' N2 ?_ hlst hns hnl hb T' (by (try dsimp only [Around.deeper]); omega) (by passes_own) ?_
  · omega
  intro h2 k2 xv thv inv prv news2 F3 N3 hTS
  dsimp only
  clear F2 N2
  obtain ⟨cu, xs, ys, m1, m2, SP, CL, rfl, R, S, nd, hc, hy, hx⟩ := hTS
  obtain ⟨vs, n0, hm, hr⟩ := spine_close (n := m2) S R
  k_steps
  refine' hQ _ _ _ vs n0 _ ?F ?N hm hr
  case F => assumption
  case N =>
    intro q hq
    rcases List.mem_append.mp hq with hq | hq
    · (rename News _ _ _ _ => N9; exact N9 q (.tail _ hq))
    · (rename Fr g _ _ _ => F9; exact ⟨F9.keep _ _ (kg q hq (by simp)), (N0 () q hq).2⟩)
end
end Mine
end
-- part Rp
section
open PySem PySem.Builtin PySem.Builtin.Str PySem.StrLaws
namespace Mine
noncomputable def repF (p z : List Nat) : Nat → List Nat → List Nat
  | 0, l => l
  | _ + 1, [] => []
  | n + 1, c :: l => if p.isPrefixOf (c :: l) = true then z ++ repF p z n ((c :: l).drop p.length) else c :: repF p z n l
theorem repF_cons (p z : List Nat) (n c : Nat) (l : List Nat) : repF p z (n + 1) (c :: l) = if p.isPrefixOf (c :: l) = true then z ++ repF p z n ((c :: l).drop p.length) else c :: repF p z n l := rfl
theorem pre_at (x : Str) (p : List Nat) (k : Nat) (hk : k + p.length ≤ x.length) : (p.isPrefixOf (x.cps.toList.drop k) = true) ↔ At x ⟨p.toArray⟩ x.length k := by
  have e : subAt x ⟨p.toArray⟩ k = ((x.cps.toList.drop k).take p.length == p) := by
    rw [subAt_eq]
    rfl
  constructor
  · intro h
    refine ⟨hk, ?_⟩
    rw [e, beq_iff_eq]
    obtain ⟨t, ht⟩ := List.isPrefixOf_iff_prefix.mp h
    rw [← ht]
    simp
  · intro h
    have := h.2
    rw [e, beq_iff_eq] at this
    rw [List.isPrefixOf_iff_prefix]
    exact ⟨(x.cps.toList.drop k).drop p.length, by
      have h2 := List.take_append_drop p.length (x.cps.toList.drop k)
      rw [this] at h2
      exact h2⟩
theorem pre_no (x : Str) (p : List Nat) (k : Nat) (hp : 1 ≤ p.length) (hk : ¬ k + p.length ≤ x.length) : p.isPrefixOf (x.cps.toList.drop k) = false := by
  rw [Bool.eq_false_iff]
  intro h
  have := (List.isPrefixOf_iff_prefix.mp h).length_le
  rw [List.length_drop] at this
  have e : x.length = x.cps.toList.length := by rw [Array.length_toList]; rfl
  omega
theorem rep_none (x : Str) (p z : List Nat) (hp : 1 ≤ p.length) : ∀ (n a : Nat), x.length ≤ a + n → (∀ k, a ≤ k → ¬ At x ⟨p.toArray⟩ x.length k) → repF p z n (x.cps.toList.drop a) = x.cps.toList.drop a
  | 0, a, _, _ => rfl
  | n + 1, a, hn, h => by
    rcases Nat.lt_or_ge a x.cps.toList.length with hl | hl
    · have hpre : p.isPrefixOf (x.cps.toList.drop a) = false := by
        by_cases hk : a + p.length ≤ x.length
        · rw [Bool.eq_false_iff]; exact fun q => h a (Nat.le_refl _) ((pre_at x p a hk).mp q)
        · exact pre_no x p a hp hk
      rw [List.drop_eq_getElem_cons hl] at hpre ⊢
      rw [repF_cons, hpre, if_neg Bool.false_ne_true, rep_none x p z hp n (a + 1) (by omega) fun k hk => h k (by omega)]
    · rw [List.drop_eq_nil_of_le hl]; rfl
theorem rep_to (x : Str) (p z : List Nat) (hp : 1 ≤ p.length) (c : Nat) (hc : At x ⟨p.toArray⟩ x.length c) : ∀ (n a : Nat), a ≤ c → x.length ≤ a + n → (∀ k, a ≤ k → k < c → ¬ At x ⟨p.toArray⟩ x.length k) →
    ∃ m, x.length ≤ (c + p.length) + m ∧ repF p z n (x.cps.toList.drop a) = (x.cps.toList.drop a).take (c - a) ++ (z ++ repF p z m (x.cps.toList.drop (c + p.length)))
  | 0, a, ha, hn, _ => by
    have h1 : c + p.length ≤ x.length := hc.1
    omega
  | n + 1, a, ha, hn, h => by
    have h1 : c + p.length ≤ x.length := hc.1
    have hl : a < x.cps.toList.length := by
      have e : x.length = x.cps.toList.length := by rw [Array.length_toList]; rfl
      omega
    by_cases hac : a = c
    · subst hac
      refine ⟨n, by omega, ?_⟩
      have hpre := (pre_at x p a h1).mpr hc
      rw [Nat.sub_self, List.take_zero, List.nil_append]
      rw [List.drop_eq_getElem_cons hl] at hpre ⊢
      rw [repF_cons, hpre, if_pos rfl, ← List.drop_eq_getElem_cons hl, List.drop_drop]
    · have hpre : p.isPrefixOf (x.cps.toList.drop a) = false := by
        by_cases hk : a + p.length ≤ x.length
        · rw [Bool.eq_false_iff]; exact fun q => h a (Nat.le_refl _) (by omega) ((pre_at x p a hk).mp q)
        · exact pre_no x p a hp hk
      obtain ⟨m, hm, e⟩ := rep_to x p z hp c hc n (a + 1) (by omega) (by omega) fun k hk hk2 => h k (by omega) hk2
      refine ⟨m, hm, ?_⟩
      rw [List.drop_eq_getElem_cons hl] at hpre ⊢
      rw [repF_cons, hpre, if_neg Bool.false_ne_true, e, show c - a = (c - (a + 1)) + 1 by omega, List.take_succ_cons, List.cons_append]
noncomputable def joinL (z : List Nat) : List Str → List Nat
  | [] => []
  | [p] => p.cps.toList
  | p :: q :: r => p.cps.toList ++ z ++ joinL z (q :: r)
theorem join_L (z : List Nat) : ∀ ps : List Str, (Str.join ⟨z.toArray⟩ ps).cps.toList = joinL z ps
  | [] => rfl
  | [p] => rfl
  | p :: q :: r => by
    show (p ++ ⟨z.toArray⟩ ++ Str.join ⟨z.toArray⟩ (q :: r)).cps.toList = _
    simp only [Str.cps_append, Array.toList_append, joinL, join_L z (q :: r)]
theorem parts_L (x : Str) (p z : List Nat) (hp : 1 ≤ p.length) : ∀ (cuts : List Nat) (a f n : Nat), ChainG x ⟨p.toArray⟩ x.length a cuts f → (∀ k, f ≤ k → ¬ At x ⟨p.toArray⟩ x.length k) → x.length ≤ a + n → joinL z (partsFrom x p.length a cuts) = repF p z n (x.cps.toList.drop a)
  | [], a, f, n, h, hf, hn => by
    have e : f = a := h
    subst e
    rw [rep_none x p z hp n f hn hf]
    show (strSub x f x.length).cps.toList = _
    rw [strSub_toList]
    rw [List.take_of_length_le]
    rw [List.length_drop, Array.length_toList]
    exact Nat.le_refl _
  | c :: r, a, f, n, h, hf, hn => by
    obtain ⟨ha, hA, hno, hr⟩ := h
    obtain ⟨m, hm, e⟩ := rep_to x p z hp c hA n a ha hn hno
    rw [e]
    have ih := parts_L x p z hp r (c + p.length) f m hr hf hm
    rw [← ih]
    obtain ⟨q, rr, hq⟩ := partsFrom_ne x p.length (c + p.length) r
    show joinL z (strSub x a c :: partsFrom x p.length (c + p.length) r) = _
    rw [hq]
    show (strSub x a c).cps.toList ++ z ++ joinL z (q :: rr) = _
    rw [strSub_toList, List.append_assoc]
theorem replace_L (x : Str) (p z : List Nat) (hp : 1 ≤ p.length) : (Txt.replace x ⟨p.toArray⟩ ⟨z.toArray⟩).cps.toList = repF p z x.length x.cps.toList := by
  obtain ⟨f, hc, hf⟩ := occ_tight x ⟨p.toArray⟩ hp
  have key := parts_L x p z hp (occurrences x ⟨p.toArray⟩ 0 x.length (x.length + 1)) 0 f x.length hc hf (by omega)
  rw [List.drop_zero] at key
  have h10 : ((⟨p.toArray⟩ : Str).length == 0) = false := by
    rw [beq_eq_false_iff_ne]
    show p.toArray.size ≠ 0
    simp; intro h; rw [h] at hp; exact absurd hp (by decide)
  unfold Txt.replace
  rw [h10, Bool.false_and, Bool.or_false]
  cases he : (occurrences x ⟨p.toArray⟩ 0 x.length (x.length + 1)).isEmpty
  · rw [if_neg Bool.false_ne_true, glued_eq_join, partsBetween_eq, join_L]
    exact key
  · rw [if_pos rfl, ← key]
    have ho : occurrences x ⟨p.toArray⟩ 0 x.length (x.length + 1) = [] := List.isEmpty_iff.mp he
    rw [ho]
    show _ = (strSub x 0 x.length).cps.toList
    rw [strSub_toList, List.drop_zero, List.take_of_length_le]
    rw [Array.length_toList]
    exact Nat.le_refl _
theorem repF_more (p z : List Nat) (hp : 1 ≤ p.length) : ∀ (n m : Nat) (l : List Nat), l.length ≤ n → l.length ≤ m → repF p z n l = repF p z m l
  | 0, 0, l, _, _ => rfl
  | 0, m + 1, l, h, _ => by
    have : l = [] := List.length_eq_zero_iff.mp (by omega)
    subst this; rfl
  | n + 1, 0, l, _, h => by
    have : l = [] := List.length_eq_zero_iff.mp (by omega)
    subst this; rfl
  | n + 1, m + 1, [], _, _ => rfl
  | n + 1, m + 1, c :: l, h1, h2 => by
    rw [List.length_cons] at h1 h2
    rw [repF_cons, repF_cons, repF_more p z hp n m l (by omega) (by omega), repF_more p z hp n m ((c :: l).drop p.length) (by rw [List.length_drop, List.length_cons]; omega) (by rw [List.length_drop, List.length_cons]; omega)]
noncomputable def rep (p z l : List Nat) : List Nat := repF p z l.length l
theorem rep_nil (p z : List Nat) : rep p z [] = [] := rfl
theorem rep_cons (p z : List Nat) (hp : 1 ≤ p.length) (c : Nat) (l : List Nat) : rep p z (c :: l) = if p.isPrefixOf (c :: l) = true then z ++ rep p z ((c :: l).drop p.length) else c :: rep p z l := by
  unfold rep
  rw [List.length_cons]
  rw [repF_cons, repF_more p z hp l.length ((c :: l).drop p.length).length ((c :: l).drop p.length) (by rw [List.length_drop, List.length_cons]; omega) (Nat.le_refl _)]
theorem replace_tx (l p z : List Nat) (hp : 1 ≤ p.length) : Txt.replace ⟨l.toArray⟩ ⟨p.toArray⟩ ⟨z.toArray⟩ = ⟨(rep p z l).toArray⟩ := by
  have := replace_L ⟨l.toArray⟩ p z hp
  apply Str.ext'
  apply Array.toList_inj.mp
  rw [this]
  rfl
end Mine
end
-- part Rl
section
namespace Mine
set_option genInjectivity false in
structure Sg where
  back : Option (List Nat)
  pb : Option Nat
  rest : List Nat
  ln : Int
  fin : Bool
noncomputable abbrev Sn (σ : Sg) (t : List Nat) (σ' : Sg) : Prop := sgn σ.back σ.pb σ.rest σ.ln σ.fin = some ⟨t, σ'.back, σ'.pb, σ'.rest, σ'.ln, σ'.fin⟩
noncomputable def stops : List (List Nat) := [[60], [62], [47], [61], []]
noncomputable abbrev ups (t : Tok) : List (Str × Tok × Str × Tok) := [(Str.ofString "&quot;", t, Str.ofString "\"", t + 1), (Str.ofString "&#10;", t + 2, Str.ofString "\n", t + 3), (Str.ofString "&#9;", t + 4, Str.ofString "\t", t + 5), (Str.ofString "&#13;", t + 6, Str.ofString "\r", t + 7)]
noncomputable def unq (x : Str) : Str := Txt.replace (Txt.replace (Txt.replace (Txt.replace (Txt.replace (deamp x) (Str.ofString "&quot;") (Str.ofString "\"")) (Str.ofString "&#10;") (Str.ofString "\n")) (Str.ofString "&#9;") (Str.ofString "\t")) (Str.ofString "&#13;") (Str.ofString "\r")) (Str.ofString "&amp;") (Str.ofString "&")
noncomputable def mkOf (v : Str) : Str := if isin v (Str.ofString "\"") = true ∧ isin v (Str.ofString "'") = false then Str.ofString "'" else Str.ofString "\""
structure TokOk (tok : List Nat) (v : Str) : Prop where
  clean : ∀ c ∈ tok, c ∉ [60, 62, 10, 9, 13]
  val : unq (Txt.slice (tx tok) (some 1) (some (-1))) = v
  first : Txt.slice (tx tok) none (some 1) = mkOf v
  last : Txt.slice (tx tok) (some (-1)) none = mkOf v
  size : tok.length ≤ 100000
  l0 : (Txt.slice (tx tok) (some 1) (some (-1))).length ≤ 1048576
  l1 : (Txt.replace (Txt.slice (tx tok) (some 1) (some (-1))) (Str.ofString "&lt;") (Str.ofString "<")).length ≤ 1048576
  l2 : ∀ t i, (rpl (deamp (Txt.slice (tx tok) (some 1) (some (-1)))) ((ups t).take i)).length ≤ 1048576
inductive At : Sg → List Nat → List (Str × Str) → Sg → List Nat → Prop
  | nil {σ : Sg} {k : List Nat} : k ∈ stops → At σ k [] σ k
  | cons {σ σ1 σ2 σ3 σ4 : Sg} {k tok k3 k4 : List Nat} {v : Str} {ps : List (Str × Str)} : k ∉ stops → Sn σ [61] σ1 → Sn σ1 tok σ2 → TokOk tok v → Sn σ2 k3 σ3 → At σ3 k3 ps σ4 k4 → At σ k ((tx k, v) :: ps) σ4 k4
inductive Rdr : Sg → List Int → Fo → Sg → Prop
  | fin {σ σ1 : Sg} {t : List Nat} : Sn σ t σ1 → t ≠ [60] → Rdr σ [] .nil σ1
  | close {σ σ1 σ2 : Sg} : Sn σ [60] σ1 → Sn σ1 [47] σ2 → Rdr σ [] .nil σ2
  | one {σ σ1 σ2 σ3 σ4 σ5 σ6 : Sg} {nm k k4 : List Nat} {ps : List (Str × Str)} {rs : List Int} {r : Fo} : Sn σ [60] σ1 → Sn σ1 nm σ2 → nm ≠ [47] → Sn σ2 k σ3 → At σ3 k ps σ4 k4 → k4 ≠ [62] → Sn σ4 [62] σ5 → Rdr σ5 rs r σ6 →
      Rdr σ (σ1.ln :: rs) (.cons (tx nm) ps .nil r) σ6
  | two {σ σ1 σ2 σ3 σ4 σ5 σ6 σ7 σ8 : Sg} {nm k : List Nat} {ps : List (Str × Str)} {rk rs : List Int} {kd r : Fo} : Sn σ [60] σ1 → Sn σ1 nm σ2 → nm ≠ [47] → Sn σ2 k σ3 → At σ3 k ps σ4 [62] → Rdr σ4 rk kd σ5 → Sn σ5 nm σ6 → Sn σ6 [62] σ7 → Rdr σ7 rs r σ8 →
      Rdr σ (σ1.ln :: (rk ++ rs)) (.cons (tx nm) ps kd r) σ8
theorem tx_inj {a b : List Nat} (h : tx a = tx b) : a = b := by
  have := congrArg (fun s : Str => s.cps.toList) h
  simpa using this
theorem tx_beq (a b : List Nat) : (tx a == tx b) = decide (a = b) := by
  by_cases h : a = b
  · subst h; simp
  · rw [decide_eq_false h, beq_eq_false_iff_ne]
    exact fun e => h (tx_inj e)
theorem s_lt : Str.ofString "<" = tx [60] := by decide +kernel
theorem s_gt : Str.ofString ">" = tx [62] := by decide +kernel
theorem s_sl : Str.ofString "/" = tx [47] := by decide +kernel
theorem s_eq : Str.ofString "=" = tx [61] := by decide +kernel
end Mine
end
-- part Cn
section
open PySem PySem.W PySem.Spec PySem.Calls PyProof.Rows LCg LCt
namespace Mine
section
variable {prog : Program} {w : World} {A : Around} {E : Value → Shared → Prop} {s : Shared} {h₀ : Heap} {L : Addr} {m : Str → Option Value} {env : Env}
theorem comp_rest_none {ct elt : Expr} {x : Str} {scope : Scope} {cl : List (Str × Addr)} {S : List (Addr × Obj) → Prop} {Fin : List Value → List (Addr × Obj) → Prop} {news : List (Addr × Obj)} {X : Str}
    (turn : ∀ c t I oI C oC D m₂ h tk (E' : Value → Shared → Prop), c ∈ X.cps.toList → NsObj oC m₂ → m₂ x = some (.str ⟨#[c]⟩ t) → Fr h₀ L h m → News h₀ L h ((I, oI) :: (C, oC) :: (D, lst []) :: news) → Off3 I C D news → ((@Ne Nat I C) ∧ (@Ne Nat I D) ∧ (@Ne Nat C D)) →
      wpAny (model prog w) A (isTrue ct (compEnvC scope cl C env) (eval ct (compEnvC scope cl C env))) (fun ok s' => ok = false ∧ CompEnd h₀ L m { s with heap := h, toks := tk } I oI C oC D (lst []) S (fun _ news' => news' = news) Value.none s') E' { s with heap := h, toks := tk })
    (fin : Fin [] news) : CompRestT prog w A h₀ L m env ct elt x scope cl s S (SignAt X) Fin X.cps.size 0 [] news := by
  have key : ∀ (j i : Nat), i + j = X.cps.size → CompRestT prog w A h₀ L m env ct elt x scope cl s S (SignAt X) Fin j i [] news := by
    intro j
    induction j with
    | zero => intro i hi; exact CompRestT.zero fin
    | succ j ih =>
      intro i hi
      refine CompRestT.succ ?_
      intro v I oI C oC D m₂ h tk E' hv hC hx F N off ne
      obtain ⟨c, u, hc, rfl⟩ := hv
      have hc' : X.cps.toList[i]? = some c := by rw [Array.getElem?_toList]; exact hc
      refine wpAny_mono (turn c u I oI C oC D m₂ h tk E' (List.mem_of_getElem? hc') hC hx F N off ne) (fun ok s₂ hq => ?_) fun _ _ e => e
      obtain ⟨rfl, h', tk', nw, e, F', N', off', hS, hn⟩ := hq
      rw [if_neg Bool.false_ne_true]
      rw [hn] at N' off' hS
      exact ⟨h', tk', news, e, F', N', off', hS, ih (i + 1) (by omega)⟩
  exact key _ 0 (by omega)
end
end Mine
end
-- part Du
section
namespace Mine
theorem notmods {w : World} {h₀ h' : Heap} {L : Addr} {news : List (Addr × Obj)} {D : Addr} {o : Obj} (X : (Mine.KK w.params).In h₀) (N : News h₀ L h' news) (hm : (D, o) ∈ news) : (D == sysModules) = false := by
  have h1 := (N _ hm).2.2
  rw [beq_eq_false_iff_ne]
  intro e
  have := X 1 _ rfl
  rw [show D = 1 from e] at h1
  rw [h1] at this
  cases this
theorem disp_ups {prog : Program} {w : World} {A : Around} {E : Value → Shared → Prop} {s : Shared} {h₀ : Heap} {L : Addr} {m : Str → Option Value} {news : List (Addr × Obj)} {env : Env} {Q : Value → Shared → Prop} {i1 i2 i3 i4 j1 j2 j3 j4 : Nat} {p1 p2 p3 p4 r1 r2 r3 r4 pos : Pos} (F : Fr h₀ L s.heap m) (N : News h₀ L s.heap news) (hk : 1 ≤ s.toks)
    (hQ : ∀ D h' k (t : Nat), 1 ≤ t → 1 ≤ k → Fr h₀ L h' m → News h₀ L h' ((D, dictOf ((ups t).map fun p => enS w p.1 p.2.1 (.str p.2.2.1 p.2.2.2)) 4) :: news) → (∀ p ∈ news, @LT.lt Nat _ p.1 D) → Q (.ref D) { s with heap := h', toks := k }) :
    wpAny (model prog w) A (eval (.Dict [some (.Constant (.str (Str.ofString "&quot;")) i1 p1), some (.Constant (.str (Str.ofString "&#10;")) i2 p2), some (.Constant (.str (Str.ofString "&#9;")) i3 p3), some (.Constant (.str (Str.ofString "&#13;")) i4 p4)]
      [.Constant (.str (Str.ofString "\"")) j1 r1, .Constant (.str (Str.ofString "\n")) j2 r2, .Constant (.str (Str.ofString "\t")) j3 r3, .Constant (.str (Str.ofString "\r")) j4 r4] pos) env) Q E s := by
  have hn : ([(Str.ofString "&quot;", Str.ofString "\""), (Str.ofString "&#10;", Str.ofString "\n"), (Str.ofString "&#9;", Str.ofString "\t"), (Str.ofString "&#13;", Str.ofString "\r")].map (·.1)).Nodup := by decide +kernel
  have e : ∀ t : Nat, (pairsAt t [(Str.ofString "&quot;", Str.ofString "\""), (Str.ofString "&#10;", Str.ofString "\n"), (Str.ofString "&#9;", Str.ofString "\t"), (Str.ofString "&#13;", Str.ofString "\r")]).map (enP w) = (ups t).map fun p => enS w p.1 p.2.1 (.str p.2.2.1 p.2.2.2) := by
    intro t
    simp only [pairsAt, List.map_cons, List.map_nil, enP]
  generalize Str.ofString "&quot;" = x1 at *
  generalize Str.ofString "&#10;" = x2 at *
  generalize Str.ofString "&#9;" = x3 at *
  generalize Str.ofString "&#13;" = x4 at *
  generalize Str.ofString "\"" = y1 at *
  generalize Str.ofString "\n" = y2 at *
  generalize Str.ofString "\t" = y3 at *
  generalize Str.ofString "\r" = y4 at *
  with_reducible refine wpAny_toks 1 hk ?_
  with_reducible refine disp_consts (q := [(x1, y1), (x2, y2), (x3, y3), (x4, y4)]) ?g1 ?g2 ?g3 ?g4 ?hc hn ?g5 ?_
  case g1 => exact rfl
  case g2 => exact rfl
  case g3 => intro z; cases z
  case g4 => simp only [List.length_cons, List.length_nil]; omega
  case g5 => simp only [List.length_cons, List.length_nil]; omega
  case hc => exact .cons (.const _ _ _) (.stood (.const _ _ _) _) (.cons (.const _ _ _) (.stood (.const _ _ _) _) (.cons (.const _ _ _) (.stood (.const _ _ _) _) (.cons (.const _ _ _) (.stood (.const _ _ _) _) .nil)))
  intro h6 k6 hd6 hk6 hz6 hk7
  rw [e] at hd6
  refine hQ _ h6 k6 s.toks hk hk7 (F.keeps hk6) (List.forall_mem_cons.mpr ⟨⟨hd6, ?_, ?_⟩, fun p hp => ⟨hk6 _ _ (N p hp).1, (N p hp).2⟩⟩) fun p hp => Heap.lt_size (N p hp).1
  · exact Nat.ne_of_gt F.ns.lt
  · exact ktu_new F (Nat.le_refl _)
theorem ux1 : (Str.ofString "&quot;" == Str.ofString "\"") = false ∧ (Str.ofString "\"").length ≤ 14 := by decide +kernel
theorem ux2 : (Str.ofString "&#10;" == Str.ofString "\n") = false ∧ (Str.ofString "\n").length ≤ 14 := by decide +kernel
theorem ux3 : (Str.ofString "&#9;" == Str.ofString "\t") = false ∧ (Str.ofString "\t").length ≤ 14 := by decide +kernel
theorem ux4 : (Str.ofString "&#13;" == Str.ofString "\r") = false ∧ (Str.ofString "\r").length ≤ 14 := by decide +kernel
theorem four_ok {x y : Str} {t u : Nat} (h1 : 1 ≤ t) (h2 : u = t + 1) (h : (x == y) = false ∧ y.length ≤ 14) : (x, t, y, u).2.1 ≠ 0 ∧ (x, t, y, u).2.2.2 ≠ 0 ∧ (x, t, y, u).2.1 ≠ (x, t, y, u).2.2.2 ∧ ((x, t, y, u).1 == (x, t, y, u).2.2.1) = false ∧ (x, t, y, u).2.2.1.length ≤ 14 :=
  ⟨(by omega : t ≠ 0), (by omega : u ≠ 0), (by omega : t ≠ u), h.1, h.2⟩
theorem ups_ok {t : Nat} (h : 1 ≤ t) : ∀ p ∈ ups t, p.2.1 ≠ 0 ∧ p.2.2.2 ≠ 0 ∧ p.2.1 ≠ p.2.2.2 ∧ (p.1 == p.2.2.1) = false ∧ p.2.2.1.length ≤ 14 :=
  List.forall_mem_cons.mpr ⟨four_ok h rfl ux1, List.forall_mem_cons.mpr ⟨four_ok (by omega) rfl ux2, List.forall_mem_cons.mpr ⟨four_ok (by omega) rfl ux3, List.forall_mem_cons.mpr ⟨four_ok (by omega) rfl ux4, List.forall_mem_nil _⟩⟩⟩⟩
theorem slice_ss_tk {prog : Program} {w : World} {A : Around} {E : Value → Shared → Prop} {s : Shared} {value slice : Expr} {x : Str} {t : Tok} {h₀ : Heap} {L : Addr} {m : Str → Option Value} {news : List (Addr × Obj)} {Q : Value → Shared → Prop} {i j : Int} {ui uj : Tok} (hsz : x.length ≤ 1048576) (hF : Fr h₀ L s.heap m) (hN : News h₀ L s.heap news) (hk : 1 ≤ s.toks)
    (h : ∀ h' t' k, 1 ≤ k → Fr h₀ L h' m → News h₀ L h' news → Q (.str (Txt.slice x (some i) (some j)) t') { s with heap := h', toks := k })
    (hs : subscripted slice false (.str x t) (.ref s.heap.objs.size) = operate [.ref s.heap.objs.size, .str x t] (getItem (.str x t) (.ref s.heap.objs.size)) := by with_unfolding_all rfl)
    (ht : ∀ r, letTemporaryGo value (.str x t) r = pure () := by intro _; with_unfolding_all rfl) :
    wpAny (model prog w) A (subscriptTail value slice (.str x t) (.ref s.heap.objs.size)) Q E { s with heap := s.heap.push { cls := .type "slice", data := .fields #[.int i ui, .int j uj, .none] } } :=
  wpAny_toks 1 hk (slice_strN_ss hF hN (fun h' t' k a b c => h h' t' k c a b) hs ht (Nat.le_trans hsz (by rw [sizeLine_eq]; decide)))
theorem ne_nil2 {prog : Program} {w : World} {A : Around} {E : Value → Shared → Prop} {s : Shared} {h₀ : Heap} {L : Addr} {news : List (Addr × Obj)} {a b : Addr} {Q : Value → Shared → Prop} (N : News h₀ L s.heap news) (ha : (a, LCg.lst []) ∈ news) (hb : (b, listOf #[] 0) ∈ news) (hu : A.units + 64 < cLine) (h : Q (.bool false) s) :
    wpAny (model prog w) A (compareOp .NotEq (.ref a) (.ref b)) Q E s :=
  ke_ne_ints (xs := []) (ys := []) (News.isList N ha) (News.isList N hb) .nil .nil hu h
end Mine
end
-- part Ab
section
namespace Mine
local macro_rules | `(tactic| k_all) => `(tactic| (with_reducible assumption))
noncomputable def LA.Nq (a : LA) (d : Addr) : Prop := @Ne Nat d a.x ∧ @Ne Nat d a.d ∧ @Ne Nat d a.b ∧ @Ne Nat d a.e ∧ @Ne Nat d a.q1 ∧ @Ne Nat d a.q3 ∧ @Ne Nat d a.q2
noncomputable abbrev LA.led7c (a : LA) (w : World) (st ln tok : Value) (pos : Int) (u6 : Tok) (k1 k3 : Int) (back pbk : List Value) (TL : List (Addr × Obj)) : List (Addr × Obj) :=
  (a.x, instObj 756 a.d) :: (a.d, lexD w a.tt a.b a.q1 a.q2 a.q3 st ln tok) :: (a.b, instObj 621 a.e) :: (a.e, sioD w a.u1 a.u2 a.u3 (.str "\n" a.u4) (.str a.page a.u5) (.int pos u6)) :: (a.q1, dqObj k1 back) :: (a.q3, dqObj k3 pbk) :: (a.q2, dqObj 0 []) :: TL
theorem Rw.tl4 {a : LA} {w : World} {st ln tok : Value} {pos : Int} {u6 : Tok} {k1 k3 : Int} {back pbk : List Value} {TL : List (Addr × Obj)} (h : ∀ p ∈ TL, a.Nq p.1) : Rw (a.us4 w st ln tok pos u6 k1 k3 back pbk) TL TL :=
  Rw.same fun p hp => by
    obtain ⟨h1, h2, h3, h4, h5, h6, h7⟩ := h p hp
    exact List.forall_mem_cons.mpr ⟨Ne.symm h2, List.forall_mem_cons.mpr ⟨Ne.symm h4, List.forall_mem_cons.mpr ⟨Ne.symm h5, List.forall_mem_cons.mpr ⟨Ne.symm h6, List.forall_mem_nil _⟩⟩⟩⟩
local macro_rules | `(tactic| k_upd) => `(tactic| first | (refine' Rw.tl4 ?tl4; (case tl4 => with_reducible assumption)) | fail "no tail")
noncomputable def lrWhile : Stmt := at_ (bodyOf (defAt 30)) 1
noncomputable def lrBody : List Stmt := bodyOf lrWhile
noncomputable def lrWhile2 : Stmt := at_ lrBody 7
noncomputable def atBody : List Stmt := bodyOf lrWhile2
noncomputable def lrScope : Scope := scopeOf (defAt 30)
noncomputable abbrev lrEnv (L : Addr) : Env := envOf (Str.ofString "_law_read") lrScope L 791 (.ref 790)
noncomputable abbrev lrLoc (x rw tr : Addr) (nm pr inn ky : Option Value) (f : Str → Option Value) : Str → Option Value := fun y =>
  if y = Str.ofString "lexer" then some (.ref x) else if y = Str.ofString "rows" then some (.ref rw) else if y = Str.ofString "tree" then some (.ref tr) else if y = Str.ofString "name" then nm else if y = Str.ofString "pairs" then pr else if y = Str.ofString "inner" then inn else if y = Str.ofString "key" then ky else f y
theorem lrLoc_at (x rw tr : Addr) (nm pr inn ky ky' mk vl tk : Option Value) (f : Str → Option Value) : ∀ y, (if y = Str.ofString "key" then ky' else if y = Str.ofString "mark" then mk else if y = Str.ofString "value" then vl else if y = Str.ofString "token" then tk else lrLoc x rw tr nm pr inn ky f y) =
    lrLoc x rw tr nm pr inn ky' (fun y => if y = Str.ofString "mark" then mk else if y = Str.ofString "value" then vl else if y = Str.ofString "token" then tk else f y) y := by
  intro y
  by_cases h1 : y = Str.ofString "lexer"
  · subst h1; rfl
  by_cases h2 : y = Str.ofString "rows"
  · subst h2; rfl
  by_cases h3 : y = Str.ofString "tree"
  · subst h3; rfl
  by_cases h4 : y = Str.ofString "name"
  · subst h4; rfl
  by_cases h5 : y = Str.ofString "pairs"
  · subst h5; rfl
  by_cases h6 : y = Str.ofString "inner"
  · subst h6; rfl
  by_cases h7 : y = Str.ofString "key"
  · simp only [lrLoc, if_neg h1, if_neg h2, if_neg h3, if_neg h4, if_neg h5, if_neg h6, if_pos h7]
  simp only [lrLoc, if_neg h1, if_neg h2, if_neg h3, if_neg h4, if_neg h5, if_neg h6, if_neg h7]
section
variable {w : World} {dp un : Nat} {gd : Option (List Code)} {A₀ : Around} {base h₀ : Heap} {L : Addr} {m : Str → Option Value} {s : Shared} {p : Program} {loose : List Str} {mean : ExcName → Option Value} {mg mb : Str → Option Value} {env : Env} {outer : List Env} {Q : Flow → Shared → Prop} {E : Value → Shared → Prop} {TL : List (Addr × Obj)}
theorem mark_step {f : Str → Option Value} {v : Str} {tv : Tok} {news : List (Addr × Obj)} (B : Below A₀ base outer h₀) (F : Fr h₀ L s.heap (fun y => if y = Str.ofString "value" then some (.str v tv) else f y)) (X : (Mine.KK w.params).In h₀)
  (N : News h₀ L s.heap news) (T : Top p loose mean mg mb h₀)
  (hQ : ∀ h' k' t', Fr h₀ L h' (fun y => if y = Str.ofString "mark" then some (.str (mkOf v) t') else if y = Str.ofString "value" then some (.str v tv) else f y) → News h₀ L h' news → Q .next { s with heap := h', toks := k' }) :
  wpAny (model PG w) (Around.mk none dp (some (lrEnv L :: outer)) gd un) (exec (at_ atBody 4) (lrEnv L)) Q E s := by
  show wpAny _ _ (exec (Stmt.Assign _ _ _) _) _ _ _
  dsimp only [lrEnv]
  rw [show lrScope = Scope.mk _ _ _ _ _ from rfl]
  (try k_fold)
  cases b1 : isin v (Str.ofString "\"") with
  | false =>
    have e : mkOf v = Str.ofString "\"" := by unfold mkOf; rw [if_neg (fun z => by rw [b1] at z; exact Bool.noConfusion z.1)]
    rw [e] at hQ
    repeat' ((fail_if_success (with_reducible show Q _ _)); (first | (focus ((with_reducible show wpAny _ _ (subscriptTail _ (Expr.Slice (some _) (some _) none _) _ _) _ _ _); (with_reducible rename Fr _ _ _ _ => F'); (with_reducible rename News _ _ _ _ => N'); (with_reducible refine' slice_ss_tk (s := ⟨_, _, _, _, _⟩) ?ss1 F' N' ?ss2 ?_); (case ss1 => with_reducible assumption); (case ss2 => (dsimp only; omega)); (intro h' t' k' hk' F' N'))) | (focus ((with_reducible show wpAny _ _ (compareOp CmpOp.NotEq (Value.ref _) (Value.ref _)) _ _ _); k_dflt (refine' ne_nil2 ?N ?k1 ?k2 ?k3 ?_; (case N => k_asm); (case k1 | k2 => k_mem); (case k3 => ((simp only [units_deeper, cLine_is]); (try dsimp only); omega)); k_whole))) | (focus ((with_reducible show wpAny _ _ (PySem.call (Value.ref 786) _ _) _ _ _); k_dflt (refine' sgn_ct ?nd ?B ?F ?X ?N ?hs ?T ?hf ?hke ?hd ?hsz ?I ?hb ?hl ?_; (case nd => assumption); (case B | F | X | N | T => k_asm); (case hs => walk_at "all mem"); (case hf | hke => exact rfl); (case hd => walk_at "depth is"); (case hsz => assumption); (case I | hb | hl => with_reducible assumption); k_whole; intro h' k' ts' tl' tk' tc' u6' tr' tb' pos' k1' k3' I' hb' F' HN'; (have N' := HN' _ (by k_upd)); clear HN'; (try dsimp only at I' hb' N'); (try dsimp only)))) | walk_at "one step"))
    all_goals (refine' hQ _ _ _ ?F ?N; (case F => assumption); (case N => assumption))
  | true =>
    cases b2 : isin v (Str.ofString "'") with
    | true =>
      have e : mkOf v = Str.ofString "\"" := by unfold mkOf; rw [if_neg (fun z => by rw [b2] at z; exact Bool.noConfusion z.2)]
      rw [e] at hQ
      repeat' ((fail_if_success (with_reducible show Q _ _)); (first | (focus ((with_reducible show wpAny _ _ (subscriptTail _ (Expr.Slice (some _) (some _) none _) _ _) _ _ _); (with_reducible rename Fr _ _ _ _ => F'); (with_reducible rename News _ _ _ _ => N'); (with_reducible refine' slice_ss_tk (s := ⟨_, _, _, _, _⟩) ?ss1 F' N' ?ss2 ?_); (case ss1 => with_reducible assumption); (case ss2 => (dsimp only; omega)); (intro h' t' k' hk' F' N'))) | (focus ((with_reducible show wpAny _ _ (compareOp CmpOp.NotEq (Value.ref _) (Value.ref _)) _ _ _); k_dflt (refine' ne_nil2 ?N ?k1 ?k2 ?k3 ?_; (case N => k_asm); (case k1 | k2 => k_mem); (case k3 => ((simp only [units_deeper, cLine_is]); (try dsimp only); omega)); k_whole))) | (focus ((with_reducible show wpAny _ _ (PySem.call (Value.ref 786) _ _) _ _ _); k_dflt (refine' sgn_ct ?nd ?B ?F ?X ?N ?hs ?T ?hf ?hke ?hd ?hsz ?I ?hb ?hl ?_; (case nd => assumption); (case B | F | X | N | T => k_asm); (case hs => walk_at "all mem"); (case hf | hke => exact rfl); (case hd => walk_at "depth is"); (case hsz => assumption); (case I | hb | hl => with_reducible assumption); k_whole; intro h' k' ts' tl' tk' tc' u6' tr' tb' pos' k1' k3' I' hb' F' HN'; (have N' := HN' _ (by k_upd)); clear HN'; (try dsimp only at I' hb' N'); (try dsimp only)))) | walk_at "one step"))
      all_goals (refine' hQ _ _ _ ?F ?N; (case F => assumption); (case N => assumption))
    | false =>
      have e : mkOf v = Str.ofString "'" := by unfold mkOf; rw [if_pos ⟨b1, b2⟩]
      rw [e] at hQ
      repeat' ((fail_if_success (with_reducible show Q _ _)); (first | (focus ((with_reducible show wpAny _ _ (subscriptTail _ (Expr.Slice (some _) (some _) none _) _ _) _ _ _); (with_reducible rename Fr _ _ _ _ => F'); (with_reducible rename News _ _ _ _ => N'); (with_reducible refine' slice_ss_tk (s := ⟨_, _, _, _, _⟩) ?ss1 F' N' ?ss2 ?_); (case ss1 => with_reducible assumption); (case ss2 => (dsimp only; omega)); (intro h' t' k' hk' F' N'))) | (focus ((with_reducible show wpAny _ _ (compareOp CmpOp.NotEq (Value.ref _) (Value.ref _)) _ _ _); k_dflt (refine' ne_nil2 ?N ?k1 ?k2 ?k3 ?_; (case N => k_asm); (case k1 | k2 => k_mem); (case k3 => ((simp only [units_deeper, cLine_is]); (try dsimp only); omega)); k_whole))) | (focus ((with_reducible show wpAny _ _ (PySem.call (Value.ref 786) _ _) _ _ _); k_dflt (refine' sgn_ct ?nd ?B ?F ?X ?N ?hs ?T ?hf ?hke ?hd ?hsz ?I ?hb ?hl ?_; (case nd => assumption); (case B | F | X | N | T => k_asm); (case hs => walk_at "all mem"); (case hf | hke => exact rfl); (case hd => walk_at "depth is"); (case hsz => assumption); (case I | hb | hl => with_reducible assumption); k_whole; intro h' k' ts' tl' tk' tc' u6' tr' tb' pos' k1' k3' I' hb' F' HN'; (have N' := HN' _ (by k_upd)); clear HN'; (try dsimp only at I' hb' N'); (try dsimp only)))) | walk_at "one step"))
      all_goals (refine' hQ _ _ _ ?F ?N; (case F => assumption); (case N => assumption))
theorem at_turn {a : LA} {rw tr pr : Addr} {nm inn : Option Value} {f : Str → Option Value} {k tok k3' : List Nat} {tkk : Tok} {pv : List Value} {n1 : Nat} {ts tl tk tc u6 tb : Tok} {pos : Nat} {k1 k3 : Int} {σ σ1 σ2 σ3 : Sg} {v : Str}
  (nd : a.Nd) (B : Below A₀ base outer h₀) (F : Fr h₀ L s.heap (lrLoc a.x rw tr nm (some (.ref pr)) inn (some (.str (tx k) tkk)) f)) (X : (Mine.KK w.params).In h₀)
  (N : News h₀ L s.heap (a.led7c w (mdV ts (finMd σ.fin)) (.int σ.ln tl) (.str "" tk) pos u6 k1 k3 (bkv tb σ.back) (pbv tc σ.pb) ((pr, listOf pv.toArray n1) :: TL)))
  (T : Top p loose mean mg mb h₀) (hd : dp + 30 < 1000) (hu : un + 100 < 9900) (hsz : a.page.length ≤ 1048576) (I : Inp a.page σ.pb pos (σ.pb.toList ++ σ.rest)) (hb : ∀ t, σ.back = some t → t.length ≤ 2000000)
  (hpr : a.Nq pr) (hTL : ∀ p ∈ TL, a.Nq p.1) (hTp : ∀ p ∈ TL, p.1 ≠ pr) (hpl : pv.length ≤ 100)
  (s1 : Sn σ [61] σ1) (s2 : Sn σ1 tok σ2) (ok : TokOk tok v) (s3 : Sn σ2 k3' σ3)
  (hQ : ∀ h' k' (D : Addr) (t1 t2 tkk ts tl tk tc u6 tb : Tok) (pos : Nat) (k1 k3 : Int) f', Fr h₀ L h' (lrLoc a.x rw tr nm (some (.ref pr)) inn (some (.str (tx k3') tkk)) f') →
    News h₀ L h' (a.led7c w (mdV ts (finMd σ3.fin)) (.int σ3.ln tl) (.str "" tk) pos u6 k1 k3 (bkv tb σ3.back) (pbv tc σ3.pb) ((pr, listOf (pv ++ [Value.ref D]).toArray (n1 + 1)) :: (D, { cls := .type "tuple", data := .seq #[.str (tx k) t1, .str v t2] }) :: TL)) →
    Inp a.page σ3.pb pos (σ3.pb.toList ++ σ3.rest) → (∀ t, σ3.back = some t → t.length ≤ 2000000) → (a.Nq D ∧ @Ne Nat D pr ∧ AllLt D TL) → Q .next { s with heap := h', toks := k' }) :
  wpAny (model PG w) (Around.mk none dp (some (lrEnv L :: outer)) gd un) (execs atBody (lrEnv L)) Q E s := by
  have nd0 := nd
  obtain ⟨m1, m2, m3, m4, m5, m6, m7, m8, m9, m10, m11, m12, m13, m14, m15, m16, m17, m18⟩ := nd0
  have hpr0 := hpr
  obtain ⟨r1, r2, r3, r4, r5, r6, r7⟩ := hpr0
  dsimp only [LA.led7c] at N
  show wpAny _ _ (execs (List.cons _ _) _) _ _ _
  dsimp only [lrEnv]
  rw [show lrScope = Scope.mk _ _ _ _ _ from rfl]
  (try k_fold)
  have htl : (tx tok).length ≤ 1048576 := Nat.le_trans (show (tx tok).length ≤ 100000 from ok.size) (by decide)
  have hq1 : (tx [61] != Str.ofString "=") = false := by rw [s_eq]; simp
  repeat' ((fail_if_success (with_reducible show wpAny _ _ (eval (Expr.ListComp _ _ _ _) _) _ _ _)); (first | (focus ((with_reducible show wpAny _ _ (subscriptTail _ (Expr.Slice (some _) (some _) none _) _ _) _ _ _); (with_reducible rename Fr _ _ _ _ => F'); (with_reducible rename News _ _ _ _ => N'); (with_reducible refine' slice_ss_tk (s := ⟨_, _, _, _, _⟩) ?ss1 F' N' ?ss2 ?_); (case ss1 => with_reducible assumption); (case ss2 => (dsimp only; omega)); (intro h' t' k' hk' F' N'))) | (focus ((with_reducible show wpAny _ _ (compareOp CmpOp.NotEq (Value.ref _) (Value.ref _)) _ _ _); k_dflt (refine' ne_nil2 ?N ?k1 ?k2 ?k3 ?_; (case N => k_asm); (case k1 | k2 => k_mem); (case k3 => ((simp only [units_deeper, cLine_is]); (try dsimp only); omega)); k_whole))) | (focus ((with_reducible show wpAny _ _ (PySem.call (Value.ref 786) _ _) _ _ _); k_dflt (refine' sgn_ct ?nd ?B ?F ?X ?N ?hs ?T ?hf ?hke ?hd ?hsz ?I ?hb ?hl ?_; (case nd => assumption); (case B | F | X | N | T => k_asm); (case hs => walk_at "all mem"); (case hf | hke => exact rfl); (case hd => walk_at "depth is"); (case hsz => assumption); (case I | hb | hl => with_reducible assumption); k_whole; intro h' k' ts' tl' tk' tc' u6' tr' tb' pos' k1' k3' I' hb' F' HN'; (have N' := HN' _ (by k_upd)); clear HN'; (try dsimp only at I' hb' N'); (try dsimp only)))) | walk_at "one step"))
  refine' ListComp_ST ?f0 ?c1 ?c2 ?c3 ?c4 ?c5 ?c6 ?_
  case f0 => k_asm
  case c1 => with_unfolding_all rfl
  case c2 => decide
  case c3 => rfl
  case c4 => decide
  case c5 => rfl
  case c6 => rfl
  repeat' ((fail_if_success (with_reducible show Exists _)); (first | (focus ((with_reducible show wpAny _ _ (subscriptTail _ (Expr.Slice (some _) (some _) none _) _ _) _ _ _); (with_reducible rename Fr _ _ _ _ => F'); (with_reducible rename News _ _ _ _ => N'); (with_reducible refine' slice_ss_tk (s := ⟨_, _, _, _, _⟩) ?ss1 F' N' ?ss2 ?_); (case ss1 => with_reducible assumption); (case ss2 => (dsimp only; omega)); (intro h' t' k' hk' F' N'))) | (focus ((with_reducible show wpAny _ _ (compareOp CmpOp.NotEq (Value.ref _) (Value.ref _)) _ _ _); k_dflt (refine' ne_nil2 ?N ?k1 ?k2 ?k3 ?_; (case N => k_asm); (case k1 | k2 => k_mem); (case k3 => ((simp only [units_deeper, cLine_is]); (try dsimp only); omega)); k_whole))) | (focus ((with_reducible show wpAny _ _ (PySem.call (Value.ref 786) _ _) _ _ _); k_dflt (refine' sgn_ct ?nd ?B ?F ?X ?N ?hs ?T ?hf ?hke ?hd ?hsz ?I ?hb ?hl ?_; (case nd => assumption); (case B | F | X | N | T => k_asm); (case hs => walk_at "all mem"); (case hf | hke => exact rfl); (case hd => walk_at "depth is"); (case hsz => assumption); (case I | hb | hl => with_reducible assumption); k_whole; intro h' k' ts' tl' tk' tc' u6' tr' tb' pos' k1' k3' I' hb' F' HN'; (have N' := HN' _ (by k_upd)); clear HN'; (try dsimp only at I' hb' N'); (try dsimp only)))) | walk_at "one step"))
  refine' ⟨_, _, _, rfl, ?sz, ?zF, ?zN, ?zR⟩
  case zF => assumption
  case zN => assumption
  case sz => exact Nat.le_trans (show (tx tok).cps.size ≤ 100000 from ok.size) (by rw [sizeLine_eq]; decide)
  intro gg
  refine' comp_rest_none ?turn ?fin
  case turn =>
    intro c t' I oI C oC D m₂ h tk5 E' hc hC hx F5 N5 off' ne'
    obtain ⟨ne1, ne2, ne3⟩ := ne'
    have hcl : isin (Str.ofString "<>\n\t\r") (tx [c]) = false := by
      rw [isin_one, show (Str.ofString "<>\n\t\r").cps.toList = [60, 62, 10, 9, 13] by decide +kernel]
      exact decide_eq_false (ok.clean c hc)
    repeat' ((fail_if_success (with_reducible show And _ _)); (first | (focus ((with_reducible show wpAny _ _ (subscriptTail _ (Expr.Slice (some _) (some _) none _) _ _) _ _ _); (with_reducible rename Fr _ _ _ _ => F'); (with_reducible rename News _ _ _ _ => N'); (with_reducible refine' slice_ss_tk (s := ⟨_, _, _, _, _⟩) ?ss1 F' N' ?ss2 ?_); (case ss1 => with_reducible assumption); (case ss2 => (dsimp only; omega)); (intro h' t' k' hk' F' N'))) | (focus ((with_reducible show wpAny _ _ (compareOp CmpOp.NotEq (Value.ref _) (Value.ref _)) _ _ _); k_dflt (refine' ne_nil2 ?N ?k1 ?k2 ?k3 ?_; (case N => k_asm); (case k1 | k2 => k_mem); (case k3 => ((simp only [units_deeper, cLine_is]); (try dsimp only); omega)); k_whole))) | (focus ((with_reducible show wpAny _ _ (PySem.call (Value.ref 786) _ _) _ _ _); k_dflt (refine' sgn_ct ?nd ?B ?F ?X ?N ?hs ?T ?hf ?hke ?hd ?hsz ?I ?hb ?hl ?_; (case nd => assumption); (case B | F | X | N | T => k_asm); (case hs => walk_at "all mem"); (case hf | hke => exact rfl); (case hd => walk_at "depth is"); (case hsz => assumption); (case I | hb | hl => with_reducible assumption); k_whole; intro h' k' ts' tl' tk' tc' u6' tr' tb' pos' k1' k3' I' hb' F' HN'; (have N' := HN' _ (by k_upd)); clear HN'; (try dsimp only at I' hb' N'); (try dsimp only)))) | walk_at "one step"))
    exact ⟨hcl, _, _, _, rfl, F5, N5, off', trivial, rfl⟩
  case fin =>
    intro D h tk5 F5 N5 off1
    (try dsimp only)
    repeat' ((fail_if_success (with_reducible show wpAny _ _ (eval (Expr.Dict _ _ _) _) _ _ _)); (first | (focus ((with_reducible show wpAny _ _ (subscriptTail _ (Expr.Slice (some _) (some _) none _) _ _) _ _ _); (with_reducible rename Fr _ _ _ _ => F'); (with_reducible rename News _ _ _ _ => N'); (with_reducible refine' slice_ss_tk (s := ⟨_, _, _, _, _⟩) ?ss1 F' N' ?ss2 ?_); (case ss1 => with_reducible assumption); (case ss2 => (dsimp only; omega)); (intro h' t' k' hk' F' N'))) | (focus ((with_reducible show wpAny _ _ (compareOp CmpOp.NotEq (Value.ref _) (Value.ref _)) _ _ _); k_dflt (refine' ne_nil2 ?N ?k1 ?k2 ?k3 ?_; (case N => k_asm); (case k1 | k2 => k_mem); (case k3 => ((simp only [units_deeper, cLine_is]); (try dsimp only); omega)); k_whole))) | (focus ((with_reducible show wpAny _ _ (PySem.call (Value.ref 786) _ _) _ _ _); k_dflt (refine' sgn_ct ?nd ?B ?F ?X ?N ?hs ?T ?hf ?hke ?hd ?hsz ?I ?hb ?hl ?_; (case nd => assumption); (case B | F | X | N | T => k_asm); (case hs => walk_at "all mem"); (case hf | hke => exact rfl); (case hd => walk_at "depth is"); (case hsz => assumption); (case I | hb | hl => with_reducible assumption); k_whole; intro h' k' ts' tl' tk' tc' u6' tr' tb' pos' k1' k3' I' hb' F' HN'; (have N' := HN' _ (by k_upd)); clear HN'; (try dsimp only at I' hb' N'); (try dsimp only)))) | walk_at "one step"))
    rename News h₀ _ _ _ => N5b
    replace N5b := news_sub N5b fun p hp => List.Mem.tail _ (List.Mem.tail _ hp)
    clear off1
    with_reducible refine' disp_ups ?dF ?dN ?dk ?_
    case dF => k_asm
    case dN => k_asm
    case dk => (dsimp only; omega)
    intro D4 h' k' t4 ht4 hk4 F' N' l1
    (try k_lt l1)
    (try dsimp only)
    have hok4 := ups_ok ht4
    have hn4 : ((ups t4).map (·.1)).Nodup := show ([Str.ofString "&quot;", Str.ofString "&#10;", Str.ofString "&#9;", Str.ofString "&#13;"] : List Str).Nodup by decide +kernel
    repeat' ((fail_if_success (with_reducible show wpAny _ _ (call (.ref 64) _ _) _ _ _)); (first | (focus ((with_reducible show wpAny _ _ (subscriptTail _ (Expr.Slice (some _) (some _) none _) _ _) _ _ _); (with_reducible rename Fr _ _ _ _ => F'); (with_reducible rename News _ _ _ _ => N'); (with_reducible refine' slice_ss_tk (s := ⟨_, _, _, _, _⟩) ?ss1 F' N' ?ss2 ?_); (case ss1 => with_reducible assumption); (case ss2 => (dsimp only; omega)); (intro h' t' k' hk' F' N'))) | (focus ((with_reducible show wpAny _ _ (compareOp CmpOp.NotEq (Value.ref _) (Value.ref _)) _ _ _); k_dflt (refine' ne_nil2 ?N ?k1 ?k2 ?k3 ?_; (case N => k_asm); (case k1 | k2 => k_mem); (case k3 => ((simp only [units_deeper, cLine_is]); (try dsimp only); omega)); k_whole))) | (focus ((with_reducible show wpAny _ _ (PySem.call (Value.ref 786) _ _) _ _ _); k_dflt (refine' sgn_ct ?nd ?B ?F ?X ?N ?hs ?T ?hf ?hke ?hd ?hsz ?I ?hb ?hl ?_; (case nd => assumption); (case B | F | X | N | T => k_asm); (case hs => walk_at "all mem"); (case hf | hke => exact rfl); (case hd => walk_at "depth is"); (case hsz => assumption); (case I | hb | hl => with_reducible assumption); k_whole; intro h' k' ts' tl' tk' tc' u6' tr' tb' pos' k1' k3' I' hb' F' HN'; (have N' := HN' _ (by k_upd)); clear HN'; (try dsimp only at I' hb' N'); (try dsimp only)))) | walk_at "one step"))
    have hl9 : ∀ i, (rpl (deamp (Txt.slice (tx tok) (some 1) (some (-1)))) ((ups t4).take i)).length ≤ 1048576 := ok.l2 t4
    have hv9 : Txt.replace (rpl (deamp (Txt.slice (tx tok) (some 1) (some (-1)))) (ups t4)) (Str.ofString "&amp;") (Str.ofString "&") = v := ok.val
    k_dflt (refine' une_ct ?B ?F ?X ?N ?hs ?T ?hf ?hke ?hd hn4 ?hlo rfl (by show 4 ≤ 100; decide) ?hk0 hok4 ok.l0 ok.l1 hl9 (hl9 4) ?_)
    case B => k_asm
    case F => k_asm
    case X => k_asm
    case N => k_asm
    case T => k_asm
    case hs => exact List.forall_mem_cons.mpr ⟨by k_mem, List.forall_mem_nil _⟩
    case hf => exact rfl
    case hke => exact rfl
    case hd => ((try dsimp only [Around.deeper]); omega)
    case hlo => exact notmods X N' (.head _)
    case hk0 => (dsimp only; omega)
    clear F' N'
    intro h7 k7 tr7 F' N'
    rw [hv9]
    (try dsimp only)
    clear hok4 hn4 hl9 hv9
    have hf1 : (Txt.slice (tx tok) none (some 1) != mkOf v) = false := by rw [ok.first]; simp
    have hf2 : (Txt.slice (tx tok) (some (-1)) none != mkOf v) = false := by rw [ok.last]; simp
    repeat' ((fail_if_success (with_reducible show wpAny _ _ (exec (Stmt.Assign [Expr.Name (Str.ofString "mark") _] _ _) _) _ _ _)); (first | (focus ((with_reducible show wpAny _ _ (subscriptTail _ (Expr.Slice (some _) (some _) none _) _ _) _ _ _); (with_reducible rename Fr _ _ _ _ => F'); (with_reducible rename News _ _ _ _ => N'); (with_reducible refine' slice_ss_tk (s := ⟨_, _, _, _, _⟩) ?ss1 F' N' ?ss2 ?_); (case ss1 => with_reducible assumption); (case ss2 => (dsimp only; omega)); (intro h' t' k' hk' F' N'))) | (focus ((with_reducible show wpAny _ _ (compareOp CmpOp.NotEq (Value.ref _) (Value.ref _)) _ _ _); k_dflt (refine' ne_nil2 ?N ?k1 ?k2 ?k3 ?_; (case N => k_asm); (case k1 | k2 => k_mem); (case k3 => ((simp only [units_deeper, cLine_is]); (try dsimp only); omega)); k_whole))) | (focus ((with_reducible show wpAny _ _ (PySem.call (Value.ref 786) _ _) _ _ _); k_dflt (refine' sgn_ct ?nd ?B ?F ?X ?N ?hs ?T ?hf ?hke ?hd ?hsz ?I ?hb ?hl ?_; (case nd => assumption); (case B | F | X | N | T => k_asm); (case hs => walk_at "all mem"); (case hf | hke => exact rfl); (case hd => walk_at "depth is"); (case hsz => assumption); (case I | hb | hl => with_reducible assumption); k_whole; intro h' k' ts' tl' tk' tc' u6' tr' tb' pos' k1' k3' I' hb' F' HN'; (have N' := HN' _ (by k_upd)); clear HN'; (try dsimp only at I' hb' N'); (try dsimp only)))) | walk_at "one step"))
    rename News h₀ _ _ _ => N8
    rename Fr h₀ _ _ _ => F8
    show wpAny _ (Around.mk none _ (some (lrEnv _ :: _)) _ _) (exec (at_ atBody 4) (lrEnv L)) _ _ _
    with_reducible refine mark_step (s := { s with heap := _, toks := _ }) B F8 X N8 T ?_
    intro h8 k8 t8 F' N'
    clear F8 N8
    (try dsimp only)
    repeat' ((fail_if_success (with_reducible show wpAny _ _ (call (Value.builtin "list.append") _ _) _ _ _)); (first | (focus ((with_reducible show wpAny _ _ (subscriptTail _ (Expr.Slice (some _) (some _) none _) _ _) _ _ _); (with_reducible rename Fr _ _ _ _ => F'); (with_reducible rename News _ _ _ _ => N'); (with_reducible refine' slice_ss_tk (s := ⟨_, _, _, _, _⟩) ?ss1 F' N' ?ss2 ?_); (case ss1 => with_reducible assumption); (case ss2 => (dsimp only; omega)); (intro h' t' k' hk' F' N'))) | (focus ((with_reducible show wpAny _ _ (compareOp CmpOp.NotEq (Value.ref _) (Value.ref _)) _ _ _); k_dflt (refine' ne_nil2 ?N ?k1 ?k2 ?k3 ?_; (case N => k_asm); (case k1 | k2 => k_mem); (case k3 => ((simp only [units_deeper, cLine_is]); (try dsimp only); omega)); k_whole))) | (focus ((with_reducible show wpAny _ _ (PySem.call (Value.ref 786) _ _) _ _ _); k_dflt (refine' sgn_ct ?nd ?B ?F ?X ?N ?hs ?T ?hf ?hke ?hd ?hsz ?I ?hb ?hl ?_; (case nd => assumption); (case B | F | X | N | T => k_asm); (case hs => walk_at "all mem"); (case hf | hke => exact rfl); (case hd => walk_at "depth is"); (case hsz => assumption); (case I | hb | hl => with_reducible assumption); k_whole; intro h' k' ts' tl' tk' tc' u6' tr' tb' pos' k1' k3' I' hb' F' HN'; (have N' := HN' _ (by k_upd)); clear HN'; (try dsimp only at I' hb' N'); (try dsimp only)))) | walk_at "one step"))
    with_reducible refine' append_K ?k1 ?k2 ?k3 ?_ ?z
    case k1 => k_asm
    case k2 => k_asm
    case k3 => k_upd
    case z => exact Nat.le_trans (show pv.toArray.size ≤ 100 from hpl) (by rw [sizeLine_eq]; decide)
    intro h9 F' N'
    (try dsimp only)
    repeat' ((fail_if_success (with_reducible show Q _ _)); (first | (focus ((with_reducible show wpAny _ _ (subscriptTail _ (Expr.Slice (some _) (some _) none _) _ _) _ _ _); (with_reducible rename Fr _ _ _ _ => F'); (with_reducible rename News _ _ _ _ => N'); (with_reducible refine' slice_ss_tk (s := ⟨_, _, _, _, _⟩) ?ss1 F' N' ?ss2 ?_); (case ss1 => with_reducible assumption); (case ss2 => (dsimp only; omega)); (intro h' t' k' hk' F' N'))) | (focus ((with_reducible show wpAny _ _ (compareOp CmpOp.NotEq (Value.ref _) (Value.ref _)) _ _ _); k_dflt (refine' ne_nil2 ?N ?k1 ?k2 ?k3 ?_; (case N => k_asm); (case k1 | k2 => k_mem); (case k3 => ((simp only [units_deeper, cLine_is]); (try dsimp only); omega)); k_whole))) | (focus ((with_reducible show wpAny _ _ (PySem.call (Value.ref 786) _ _) _ _ _); k_dflt (refine' sgn_ct ?nd ?B ?F ?X ?N ?hs ?T ?hf ?hke ?hd ?hsz ?I ?hb ?hl ?_; (case nd => assumption); (case B | F | X | N | T => k_asm); (case hs => walk_at "all mem"); (case hf | hke => exact rfl); (case hd => walk_at "depth is"); (case hsz => assumption); (case I | hb | hl => with_reducible assumption); k_whole; intro h' k' ts' tl' tk' tc' u6' tr' tb' pos' k1' k3' I' hb' F' HN'; (have N' := HN' _ (by k_upd)); clear HN'; (try dsimp only at I' hb' N'); (try dsimp only)))) | walk_at "one step"))
    rename News h₀ _ _ _ => N8
    rename Fr h₀ _ _ _ => F8
    rw [List.push_toArray] at N8
    refine' hQ _ _ _ _ _ _ _ _ _ _ _ _ _ _ _ _ (Fr.as F8 (fun y => lrLoc_at ..)) ?N (by with_reducible assumption) (by with_reducible assumption) ?fr
    case N =>
      refine news_sub N8 ?_
      exact List.forall_mem_cons.mpr ⟨by k_mem, List.forall_mem_cons.mpr ⟨by k_mem, List.forall_mem_cons.mpr ⟨by k_mem, List.forall_mem_cons.mpr ⟨by k_mem, List.forall_mem_cons.mpr ⟨by k_mem, List.forall_mem_cons.mpr ⟨by k_mem, List.forall_mem_cons.mpr ⟨by k_mem, List.forall_mem_cons.mpr ⟨by k_mem, List.forall_mem_cons.mpr ⟨by k_mem,
        fun p hp => .tail _ (.tail _ (.tail _ (.tail _ (.tail _ (.tail _ (.tail _ (.tail _ (.tail _ (.tail _ hp)))))))))⟩⟩⟩⟩⟩⟩⟩⟩⟩
    case fr =>
      refine ⟨⟨?_, ?_, ?_, ?_, ?_, ?_, ?_⟩, ?_, ?_⟩
      all_goals first | ((show @Ne Nat _ _); omega) | (rename (@LT.lt Nat _ _ _ ∧ _) => l9; exact l9.2.2.2.2.2.2.2.2.2)
end
end Mine
end
-- part Al
section
namespace Mine
noncomputable def atTest : PySem.Expr := testOf lrWhile2
theorem stops_any (k : List Nat) : ([Str.ofString "<", Str.ofString ">", Str.ofString "/", Str.ofString "=", Str.ofString ""].any fun x => x == tx k) = decide (k ∈ stops) := by
  rw [s_lt, s_gt, s_sl, s_eq, em1]
  show (tx [60] == tx k || (tx [62] == tx k || (tx [47] == tx k || (tx [61] == tx k || (tx [] == tx k || false))))) = _
  simp only [tx_beq, stops, List.mem_cons, List.not_mem_nil, or_false, Bool.or_false]
  by_cases h1 : k = [60]
  · subst h1; decide
  by_cases h2 : k = [62]
  · subst h2; decide
  by_cases h3 : k = [47]
  · subst h3; decide
  by_cases h4 : k = [61]
  · subst h4; decide
  by_cases h5 : k = []
  · subst h5; decide
  rw [decide_eq_false (Ne.symm h1), decide_eq_false (Ne.symm h2), decide_eq_false (Ne.symm h3), decide_eq_false (Ne.symm h4), decide_eq_false (Ne.symm h5), decide_eq_false (by simp [h1, h2, h3, h4, h5])]
  rfl
section
variable {w : World} {dp un : Nat} {gd : Option (List Code)} {A₀ : Around} {base h₀ : Heap} {L : Addr} {m : Str → Option Value} {s : Shared} {p : Program} {loose : List Str} {mean : ExcName → Option Value} {mg mb : Str → Option Value} {env : Env} {outer : List Env} {E : Value → Shared → Prop} {TL news : List (Addr × Obj)}
theorem at_test {Q : Bool → Shared → Prop} {x rw tr : Addr} {nm pr inn : Option Value} {f : Str → Option Value} {k : List Nat} {tkk : Tok} {b : Bool} (B : Below A₀ base outer h₀) (F : Fr h₀ L s.heap (lrLoc x rw tr nm pr inn (some (.str (tx k) tkk)) f)) (X : (Mine.KK w.params).In h₀)
  (N : News h₀ L s.heap news) (T : Top p loose mean mg mb h₀) (hb : b = decide (k ∉ stops))
  (hQ : ∀ h' k', Fr h₀ L h' (lrLoc x rw tr nm pr inn (some (.str (tx k) tkk)) f) → News h₀ L h' news → Q b { s with heap := h', toks := k' }) :
  wpAny (model PG w) (Around.mk none dp (some (lrEnv L :: outer)) gd un) (isTrue atTest (lrEnv L) (eval atTest (lrEnv L))) Q E s := by
  show wpAny _ _ (isTrue (PySem.Expr.Compare _ _ _ _) _ _) _ _ _
  dsimp only [lrEnv]
  rw [show lrScope = Scope.mk _ _ _ _ _ from rfl]
  (try k_fold)
  have hin := stops_any k
  repeat' ((fail_if_success (with_reducible show Q _ _)); (first | walk_at "one step"))
  have e : (!([Str.ofString "<", Str.ofString ">", Str.ofString "/", Str.ofString "=", Str.ofString ""].any fun x => x == tx k)) = b := by
    rw [hin, hb]; simp
  rw [e]
  refine' hQ _ _ ?F ?N
  case F => assumption
  case N => exact news_sub (by assumption) fun p hp => .tail _ hp
theorem RdPs.mem {C C' : List (Addr × Obj)} (h : ∀ p ∈ C, p ∈ C') {ps : List (Str × Str)} {vs : List Value} (r : RdPs (fun a o => (a, o) ∈ C) ps vs) : RdPs (fun a o => (a, o) ∈ C') ps vs := r.mono fun a o z => h _ z
theorem at_loop {a : LA} {rw tr pr : Addr} {nm inn : Option Value} {σ σ4 : Sg} {k k4 : List Nat} {ps : List (Str × Str)} {Q : Flow → Shared → Prop} (hA : At σ k ps σ4 k4)
  (nd : a.Nd) (B : Below A₀ base outer h₀) (X : (Mine.KK w.params).In h₀) (T : Top p loose mean mg mb h₀) (hd : dp + 30 < 1000) (hu : un + 100 < 9900) (hsz : a.page.length ≤ 1048576)
  (hpr : a.Nq pr) (hE : PassesOwn (model PG w) (Around.mk none dp (some (lrEnv L :: outer)) gd un) (lrEnv L) E) :
  ∀ {s : Shared} {TL : List (Addr × Obj)} {f : Str → Option Value} {tkk ts tl tk tc u6 tb : Tok} {pos : Nat} {k1 k3 : Int} {pv : List Value} {n1 : Nat},
    Fr h₀ L s.heap (lrLoc a.x rw tr nm (some (.ref pr)) inn (some (.str (tx k) tkk)) f) →
    News h₀ L s.heap (a.led7c w (mdV ts (finMd σ.fin)) (.int σ.ln tl) (.str "" tk) pos u6 k1 k3 (bkv tb σ.back) (pbv tc σ.pb) ((pr, listOf pv.toArray n1) :: TL)) →
    Inp a.page σ.pb pos (σ.pb.toList ++ σ.rest) → (∀ t, σ.back = some t → t.length ≤ 2000000) →
    (∀ p ∈ TL, a.Nq p.1) → (∀ p ∈ TL, p.1 ≠ pr) → pv.length + ps.length ≤ 100 →
    (∀ h' k' (PV : List Value) (n1 : Nat) (PT : List (Addr × Obj)) (tkk ts tl tk tc u6 tb : Tok) (pos : Nat) (k1 k3 : Int) f', Fr h₀ L h' (lrLoc a.x rw tr nm (some (.ref pr)) inn (some (.str (tx k4) tkk)) f') →
      News h₀ L h' (a.led7c w (mdV ts (finMd σ4.fin)) (.int σ4.ln tl) (.str "" tk) pos u6 k1 k3 (bkv tb σ4.back) (pbv tc σ4.pb) ((pr, listOf (pv ++ PV).toArray n1) :: (PT ++ TL))) →
      Inp a.page σ4.pb pos (σ4.pb.toList ++ σ4.rest) → (∀ t, σ4.back = some t → t.length ≤ 2000000) → RdPs (fun a o => (a, o) ∈ PT) ps PV → (∀ p ∈ PT, a.Nq p.1 ∧ @Ne Nat p.1 pr ∧ AllLt p.1 TL) → Q .next { s with heap := h', toks := k' }) →
    WhlRest PG w (Around.mk none dp (some (lrEnv L :: outer)) gd un) E (lrEnv L) atTest atBody [] Q 0 s := by
  induction hA with
  | nil hk =>
    intro s TL f tkk ts tl tk tc u6 tb pos k1 k3 pv n1 F N I hb hTL hTp hpl hQ
    refine whl_turn (k := 0) hE (at_test B F X N T (by rw [decide_eq_false (fun z => z hk)]) fun h' k' F' N' => WhlIf.no rfl (wpAny_execs_nil ?_))
    exact hQ h' k' [] n1 [] tkk ts tl tk tc u6 tb pos k1 k3 f F' (by rw [List.append_nil]; exact N') I hb rfl (fun _ h => nomatch h)
  | @cons σa σb σc σd σe ka toka kb kc va psa hk s1 s2 ok s3 _ ih =>
    intro s TL f tkk ts tl tk tc u6 tb pos k1 k3 pv n1 F N I hb hTL hTp hpl hQ
    rw [List.length_cons] at hpl
    refine whl_turn (k := 0) hE (at_test B F X N T (by rw [decide_eq_true hk]) fun h' k' F' N' => WhlIf.yes rfl ?_)
    refine at_turn nd B F' X N' T hd hu hsz I hb hpr hTL hTp (by omega) s1 s2 ok s3 fun h'' k'' D t1 t2 tkk ts tl tk tc u6 tb pos k1 k3 f' F'' N'' I'' hb'' hD => ?_
    refine ih F'' N'' I'' hb'' (List.forall_mem_cons.mpr ⟨hD.1, hTL⟩) (List.forall_mem_cons.mpr ⟨hD.2.1, hTp⟩) (by rw [List.length_append, List.length_singleton]; omega) ?_
    intro h3 k3' PV n3 PT tkk ts tl tk tc u6 tb pos k1 k3 f3 F3 N3 I3 hb3 hR hP
    refine hQ h3 k3' (.ref D :: PV) n3 (PT ++ [(D, { cls := .type "tuple", data := .seq #[.str (tx ka) t1, .str va t2] })]) tkk ts tl tk tc u6 tb pos k1 k3 f3 F3 ?_ I3 hb3 ?_ ?_
    · rw [List.append_assoc] at N3
      rw [List.append_assoc]
      exact N3
    · exact ⟨D, t1, t2, PV, rfl, List.mem_append_right _ (.head _), hR.mem fun p hp => List.mem_append_left _ hp⟩
    · intro q hq
      rcases List.mem_append.mp hq with hq | hq
      · exact ⟨(hP q hq).1, (hP q hq).2.1, (hP q hq).2.2.2⟩
      · obtain rfl := List.mem_singleton.mp hq
        exact hD
end
end Mine
end
-- part Rb
section
namespace Mine
local macro_rules | `(tactic| k_all) => `(tactic| (with_reducible assumption))
local macro_rules | `(tactic| k_upd) => `(tactic| first | (refine' Rw.tl4 ?tl4; (case tl4 => with_reducible assumption)) | fail "no tail")
noncomputable def lrTail : List Stmt := lrBody.drop 8
noncomputable def lrTest : PySem.Expr := testOf lrWhile
theorem lrLoc_hd (x rw tr : Addr) (nm pr inn ky nm' pr' inn' ky' ro : Option Value) (f : Str → Option Value) : ∀ y, (if y = Str.ofString "key" then ky' else if y = Str.ofString "inner" then inn' else if y = Str.ofString "pairs" then pr' else if y = Str.ofString "name" then nm' else if y = Str.ofString "row" then ro else lrLoc x rw tr nm pr inn ky f y) =
    lrLoc x rw tr nm' pr' inn' ky' (fun y => if y = Str.ofString "row" then ro else f y) y := by
  intro y
  by_cases h1 : y = Str.ofString "lexer"
  · subst h1; rfl
  by_cases h2 : y = Str.ofString "rows"
  · subst h2; rfl
  by_cases h3 : y = Str.ofString "tree"
  · subst h3; rfl
  by_cases h4 : y = Str.ofString "name"
  · subst h4; rfl
  by_cases h5 : y = Str.ofString "pairs"
  · subst h5; rfl
  by_cases h6 : y = Str.ofString "inner"
  · subst h6; rfl
  by_cases h7 : y = Str.ofString "key"
  · subst h7; rfl
  simp only [lrLoc, if_neg h1, if_neg h2, if_neg h3, if_neg h4, if_neg h5, if_neg h6, if_neg h7]
section
variable {w : World} {dp un : Nat} {gd : Option (List Code)} {A₀ : Around} {base h₀ : Heap} {L : Addr} {m : Str → Option Value} {s : Shared} {p : Program} {loose : List Str} {mean : ExcName → Option Value} {mg mb : Str → Option Value} {env : Env} {outer : List Env} {E : Value → Shared → Prop} {TL news : List (Addr × Obj)}
theorem rd_test {a : LA} {Q : Bool → Shared → Prop} {rw tr : Addr} {nm pr inn ky : Option Value} {f : Str → Option Value} {ts tl tk tc u6 tb : Tok} {pos : Nat} {k1 k3 : Int} {σ σ1 : Sg} {t : List Nat} (nd : a.Nd) (B : Below A₀ base outer h₀) (F : Fr h₀ L s.heap (lrLoc a.x rw tr nm pr inn ky f)) (X : (Mine.KK w.params).In h₀)
  (N : News h₀ L s.heap (a.led7c w (mdV ts (finMd σ.fin)) (.int σ.ln tl) (.str "" tk) pos u6 k1 k3 (bkv tb σ.back) (pbv tc σ.pb) TL))
  (T : Top p loose mean mg mb h₀) (hd : dp + 30 < 1000) (hsz : a.page.length ≤ 1048576) (I : Inp a.page σ.pb pos (σ.pb.toList ++ σ.rest)) (hb : ∀ t, σ.back = some t → t.length ≤ 2000000) (hTL : ∀ p ∈ TL, a.Nq p.1) (s1 : Sn σ t σ1)
  (hQ : ∀ h' k' (ts tl tk tc u6 tb : Tok) (pos : Nat) (k1 k3 : Int), Fr h₀ L h' (lrLoc a.x rw tr nm pr inn ky f) → News h₀ L h' (a.led7c w (mdV ts (finMd σ1.fin)) (.int σ1.ln tl) (.str "" tk) pos u6 k1 k3 (bkv tb σ1.back) (pbv tc σ1.pb) TL) →
    Inp a.page σ1.pb pos (σ1.pb.toList ++ σ1.rest) → (∀ t, σ1.back = some t → t.length ≤ 2000000) → Q (decide (t = [60])) { s with heap := h', toks := k' }) :
  wpAny (model PG w) (Around.mk none dp (some (lrEnv L :: outer)) gd un) (isTrue lrTest (lrEnv L) (eval lrTest (lrEnv L))) Q E s := by
  have nd0 := nd
  obtain ⟨m1, m2, m3, m4, m5, m6, m7, m8, m9, m10, m11, m12, m13, m14, m15, m16, m17, m18⟩ := nd0
  dsimp only [LA.led7c] at N
  show wpAny _ _ (isTrue (PySem.Expr.Compare _ _ _ _) _ _) _ _ _
  dsimp only [lrEnv]
  rw [show lrScope = Scope.mk _ _ _ _ _ from rfl]
  (try k_fold)
  repeat' ((fail_if_success (with_reducible show Q _ _)); (first | (focus ((with_reducible show wpAny _ _ (call (Value.builtin _) [Value.ref _, _]) _ _ _); (with_reducible refine' append_K ?k1 ?k2 ?k3 ?_ ?z); (case k1 | k2 => k_asm); (case k3 => k_upd); (case z => ((simp only [List.size_toArray, sizeLine_eq]); omega)); intro h' F' N'; (try k_sweep))) | (focus ((with_reducible show wpAny _ _ (subscriptTail _ (Expr.Slice (some _) (some _) none _) _ _) _ _ _); (with_reducible rename Fr _ _ _ _ => F'); (with_reducible rename News _ _ _ _ => N'); (with_reducible refine' slice_ss_tk (s := ⟨_, _, _, _, _⟩) ?ss1 F' N' ?ss2 ?_); (case ss1 => with_reducible assumption); (case ss2 => (dsimp only; omega)); (intro h' t' k' hk' F' N'))) | (focus ((with_reducible show wpAny _ _ (compareOp CmpOp.NotEq (Value.ref _) (Value.ref _)) _ _ _); k_dflt (refine' ne_nil2 ?N ?k1 ?k2 ?k3 ?_; (case N => k_asm); (case k1 | k2 => k_mem); (case k3 => ((simp only [units_deeper, cLine_is]); (try dsimp only); omega)); k_whole))) | (focus ((with_reducible show wpAny _ _ (PySem.call (Value.ref 786) _ _) _ _ _); k_dflt (refine' sgn_ct ?nd ?B ?F ?X ?N ?hs ?T ?hf ?hke ?hd ?hsz ?I ?hb ?hl ?_; (case nd => assumption); (case B | F | X | N | T => k_asm); (case hs => walk_at "all mem"); (case hf | hke => exact rfl); (case hd => walk_at "depth is"); (case hsz => assumption); (case I | hb | hl => with_reducible assumption); k_whole; intro h' k' ts' tl' tk' tc' u6' tr' tb' pos' k1' k3' I' hb' F' HN'; (have N' := HN' _ (by k_upd)); clear HN'; (try dsimp only at I' hb' N'); (try dsimp only)))) | walk_at "one step"))
  have e : (tx t == Str.ofString "<") = decide (t = [60]) := by rw [s_lt, tx_beq]
  rw [e]
  exact hQ _ _ _ _ _ _ _ _ _ _ _ (by assumption) (by assumption) (by with_reducible assumption) (by with_reducible assumption)
theorem rd_while {a : LA} {Q : Flow → Shared → Prop} {rw tr pr inn : Addr} {nm0 pr0 inn0 ky0 ro nmv : Option Value} {f : Str → Option Value} {ts tl tk tc u6 tb tkk : Tok} {pos : Nat} {k1 k3 : Int} {RW TR : Obj} {CL : List (Addr × Obj)} {σ3 σ4 : Sg} {k k4 : List Nat} {ps : List (Str × Str)}
  (nd : a.Nd) (B : Below A₀ base outer h₀) (F : Fr h₀ L s.heap (fun y => if y = Str.ofString "key" then some (.str (tx k) tkk) else if y = Str.ofString "inner" then some (.ref inn) else if y = Str.ofString "pairs" then some (.ref pr) else if y = Str.ofString "name" then nmv else if y = Str.ofString "row" then ro else lrLoc a.x rw tr nm0 pr0 inn0 ky0 f y)) (X : (Mine.KK w.params).In h₀)
  (N : News h₀ L s.heap ((inn, listOf #[] 0) :: (pr, listOf #[] 0) :: a.led7c w (mdV ts (finMd σ3.fin)) (.int σ3.ln tl) (.str "" tk) pos u6 k1 k3 (bkv tb σ3.back) (pbv tc σ3.pb) ((rw, RW) :: (tr, TR) :: CL)))
  (T : Top p loose mean mg mb h₀) (hd : dp + 30 < 1000) (hu : un + 100 < 9900) (hsz : a.page.length ≤ 1048576) (I : Inp a.page σ3.pb pos (σ3.pb.toList ++ σ3.rest)) (hb : ∀ t, σ3.back = some t → t.length ≤ 2000000)
  (hrw : a.Nq rw) (htr : a.Nq tr) (hCL : ∀ p ∈ CL, a.Nq p.1) (hpl : ps.length ≤ 100)
  (lp : @LT.lt Nat _ a.x pr ∧ @LT.lt Nat _ a.d pr ∧ @LT.lt Nat _ a.b pr ∧ @LT.lt Nat _ a.e pr ∧ @LT.lt Nat _ a.q1 pr ∧ @LT.lt Nat _ a.q3 pr ∧ @LT.lt Nat _ a.q2 pr ∧ @LT.lt Nat _ rw pr ∧ @LT.lt Nat _ tr pr ∧ AllLt pr CL)
  (li : @LT.lt Nat _ pr inn ∧ @LT.lt Nat _ a.x inn ∧ @LT.lt Nat _ a.d inn ∧ @LT.lt Nat _ a.b inn ∧ @LT.lt Nat _ a.e inn ∧ @LT.lt Nat _ a.q1 inn ∧ @LT.lt Nat _ a.q3 inn ∧ @LT.lt Nat _ a.q2 inn ∧ @LT.lt Nat _ rw inn ∧ @LT.lt Nat _ tr inn ∧ AllLt inn CL)
  (hA : At σ3 k ps σ4 k4) (hE : PassesOwn (model PG w) (Around.mk none dp (some (lrEnv L :: outer)) gd un) (lrEnv L) E)
  (hQ : ∀ h' k' (PV : List Value) (PT : List (Addr × Obj)) (n1 : Nat) (tkk ts tl tk tc u6 tb : Tok) (pos : Nat) (k1 k3 : Int) f', Fr h₀ L h' (lrLoc a.x rw tr nmv (some (.ref pr)) (some (.ref inn)) (some (.str (tx k4) tkk)) f') →
    News h₀ L h' (a.led7c w (mdV ts (finMd σ4.fin)) (.int σ4.ln tl) (.str "" tk) pos u6 k1 k3 (bkv tb σ4.back) (pbv tc σ4.pb) ((pr, listOf PV.toArray n1) :: (PT ++ ((inn, listOf #[] 0) :: (rw, RW) :: (tr, TR) :: CL)))) →
    Inp a.page σ4.pb pos (σ4.pb.toList ++ σ4.rest) → (∀ t, σ4.back = some t → t.length ≤ 2000000) → RdPs (fun a o => (a, o) ∈ PT) ps PV → (∀ p ∈ PT, a.Nq p.1 ∧ @Ne Nat p.1 pr ∧ AllLt p.1 ((inn, listOf #[] 0) :: (rw, RW) :: (tr, TR) :: CL)) →
    (a.Nq pr ∧ a.Nq inn ∧ AllLt pr ((rw, RW) :: (tr, TR) :: CL) ∧ AllLt inn ((pr, listOf #[] 0) :: (rw, RW) :: (tr, TR) :: CL)) → Q .next { s with heap := h', toks := k' }) :
  WhlRest PG w (Around.mk none dp (some (lrEnv L :: outer)) gd un) E (lrEnv L) atTest atBody [] Q 0 s := by
  obtain ⟨p1, p2, p3, p4, p5, p6, p7, p8, p9, p10⟩ := lp
  obtain ⟨i0, i1, i2, i3, i4, i5, i6, i7, i8, i9, i10⟩ := li
  have hpr : a.Nq pr := ⟨Nat.ne_of_gt p1, Nat.ne_of_gt p2, Nat.ne_of_gt p3, Nat.ne_of_gt p4, Nat.ne_of_gt p5, Nat.ne_of_gt p6, Nat.ne_of_gt p7⟩
  have hin : a.Nq inn := ⟨Nat.ne_of_gt i1, Nat.ne_of_gt i2, Nat.ne_of_gt i3, Nat.ne_of_gt i4, Nat.ne_of_gt i5, Nat.ne_of_gt i6, Nat.ne_of_gt i7⟩
  have N9 : News h₀ L s.heap (a.led7c w (mdV ts (finMd σ3.fin)) (.int σ3.ln tl) (.str "" tk) pos u6 k1 k3 (bkv tb σ3.back) (pbv tc σ3.pb) ((pr, listOf ([] : List Value).toArray 0) :: (inn, listOf #[] 0) :: (rw, RW) :: (tr, TR) :: CL)) :=
    news_sub N (List.forall_mem_cons.mpr ⟨by k_mem, List.forall_mem_cons.mpr ⟨by k_mem, List.forall_mem_cons.mpr ⟨by k_mem, List.forall_mem_cons.mpr ⟨by k_mem, List.forall_mem_cons.mpr ⟨by k_mem, List.forall_mem_cons.mpr ⟨by k_mem, List.forall_mem_cons.mpr ⟨by k_mem, List.forall_mem_cons.mpr ⟨by k_mem, List.forall_mem_cons.mpr ⟨by k_mem,
      fun p hp => .tail _ (.tail _ (.tail _ (.tail _ (.tail _ (.tail _ (.tail _ (.tail _ (.tail _ hp))))))))⟩⟩⟩⟩⟩⟩⟩⟩⟩)
  have c1 := tb_lt p10
  refine at_loop hA nd B X T hd hu hsz hpr hE (Fr.as F (fun y => lrLoc_hd ..)) N9 I hb (List.forall_mem_cons.mpr ⟨hin, List.forall_mem_cons.mpr ⟨hrw, List.forall_mem_cons.mpr ⟨htr, hCL⟩⟩⟩)
    (List.forall_mem_cons.mpr ⟨Nat.ne_of_gt i0, List.forall_mem_cons.mpr ⟨Nat.ne_of_lt p8, List.forall_mem_cons.mpr ⟨Nat.ne_of_lt p9, fun q hq => Nat.ne_of_lt (c1 q hq)⟩⟩⟩) (by rw [List.length_nil]; omega) ?_
  intro h' k' PV n1 PT tkk ts tl tk tc u6 tb pos k1 k3 f' F' N' I' hb' hR hP
  exact hQ h' k' PV PT n1 tkk ts tl tk tc u6 tb pos k1 k3 f' F' N' I' hb' hR hP ⟨hpr, hin, ⟨p8, p9, p10⟩, ⟨i0, i8, i9, i10⟩⟩
theorem rd_elem {a : LA} {Q : Flow → Shared → Prop} {rw tr : Addr} {nm0 pr0 inn0 ky0 : Option Value} {f : Str → Option Value} {ts tl tk tc u6 tb : Tok} {pos : Nat} {k1 k3 : Int} {rv xs : List Value} {nr nt : Nat} {CL : List (Addr × Obj)} {σ1 σ2 σ3 σ4 : Sg} {nm k k4 : List Nat} {ps : List (Str × Str)}
  (nd : a.Nd) (B : Below A₀ base outer h₀) (F : Fr h₀ L s.heap (lrLoc a.x rw tr nm0 pr0 inn0 ky0 f)) (X : (Mine.KK w.params).In h₀)
  (N : News h₀ L s.heap (a.led7c w (mdV ts (finMd σ1.fin)) (.int σ1.ln tl) (.str "" tk) pos u6 k1 k3 (bkv tb σ1.back) (pbv tc σ1.pb) ((rw, listOf rv.toArray nr) :: (tr, listOf xs.toArray nt) :: CL)))
  (T : Top p loose mean mg mb h₀) (hd : dp + 30 < 1000) (hu : un + 100 < 9900) (hsz : a.page.length ≤ 1048576) (I : Inp a.page σ1.pb pos (σ1.pb.toList ++ σ1.rest)) (hb : ∀ t, σ1.back = some t → t.length ≤ 2000000)
  (hrw : a.Nq rw) (htr : a.Nq tr) (hrt : @Ne Nat rw tr) (hCL : ∀ p ∈ CL, a.Nq p.1) (hCr : ∀ p ∈ CL, p.1 ≠ rw) (hrl : rv.length ≤ 1000) (hpl : ps.length ≤ 100)
  (s1 : Sn σ1 nm σ2) (hnm : nm ≠ [47]) (s2 : Sn σ2 k σ3) (hA : At σ3 k ps σ4 k4) (hE : PassesOwn (model PG w) (Around.mk none dp (some (lrEnv L :: outer)) gd un) (lrEnv L) E)
  (hQ : ∀ h' k' (pr inn : Addr) (PV : List Value) (PT : List (Addr × Obj)) (n1 : Nat) (tn tr' tkk ts tl tk tc u6 tb : Tok) (pos : Nat) (k1 k3 : Int) f', Fr h₀ L h' (lrLoc a.x rw tr (some (.str (tx nm) tn)) (some (.ref pr)) (some (.ref inn)) (some (.str (tx k4) tkk)) f') →
    News h₀ L h' (a.led7c w (mdV ts (finMd σ4.fin)) (.int σ4.ln tl) (.str "" tk) pos u6 k1 k3 (bkv tb σ4.back) (pbv tc σ4.pb) ((pr, listOf PV.toArray n1) :: (PT ++ ((inn, listOf #[] 0) :: (rw, listOf (rv ++ [Value.int σ1.ln tr']).toArray (nr + 1)) :: (tr, listOf xs.toArray nt) :: CL)))) →
    Inp a.page σ4.pb pos (σ4.pb.toList ++ σ4.rest) → (∀ t, σ4.back = some t → t.length ≤ 2000000) → RdPs (fun a o => (a, o) ∈ PT) ps PV → (∀ p ∈ PT, a.Nq p.1 ∧ @Ne Nat p.1 pr ∧ AllLt p.1 ((inn, listOf #[] 0) :: (rw, listOf (rv ++ [Value.int σ1.ln tr']).toArray (nr + 1)) :: (tr, listOf xs.toArray nt) :: CL)) →
    (a.Nq pr ∧ a.Nq inn ∧ AllLt pr ((rw, listOf (rv ++ [Value.int σ1.ln tr']).toArray (nr + 1)) :: (tr, listOf xs.toArray nt) :: CL) ∧ AllLt inn ((pr, listOf #[] 0) :: (rw, listOf (rv ++ [Value.int σ1.ln tr']).toArray (nr + 1)) :: (tr, listOf xs.toArray nt) :: CL)) →
    wpAny (model PG w) (Around.mk none dp (some (lrEnv L :: outer)) gd un) (execs lrTail (lrEnv L)) Q E { s with heap := h', toks := k' }) :
  wpAny (model PG w) (Around.mk none dp (some (lrEnv L :: outer)) gd un) (execs lrBody (lrEnv L)) Q E s := by
  have nd0 := nd
  obtain ⟨m1, m2, m3, m4, m5, m6, m7, m8, m9, m10, m11, m12, m13, m14, m15, m16, m17, m18⟩ := nd0
  have hr0 := hrw
  obtain ⟨r1, r2, r3, r4, r5, r6, r7⟩ := hr0
  have ht0 := htr
  obtain ⟨t1, t2, t3, t4, t5, t6, t7⟩ := ht0
  dsimp only [LA.led7c] at N
  have hz1 : (tx nm == Str.ofString "/") = false := by rw [s_sl, tx_beq]; exact decide_eq_false hnm
  show wpAny _ _ (execs (List.cons _ _) _) _ _ _
  dsimp only [lrEnv]
  rw [show lrScope = Scope.mk _ _ _ _ _ from rfl]
  (try k_fold)
  repeat' ((fail_if_success (with_reducible show wpAny _ _ (exec (Stmt.While _ _ _ _) _) _ _ _)); (first | (focus ((with_reducible show wpAny _ _ (call (Value.builtin _) [Value.ref _, _]) _ _ _); (with_reducible refine' append_K ?k1 ?k2 ?k3 ?_ ?z); (case k1 | k2 => k_asm); (case k3 => k_upd); (case z => ((simp only [List.size_toArray, sizeLine_eq]); omega)); intro h' F' N'; (try k_sweep))) | (focus ((with_reducible show wpAny _ _ (subscriptTail _ (Expr.Slice (some _) (some _) none _) _ _) _ _ _); (with_reducible rename Fr _ _ _ _ => F'); (with_reducible rename News _ _ _ _ => N'); (with_reducible refine' slice_ss_tk (s := ⟨_, _, _, _, _⟩) ?ss1 F' N' ?ss2 ?_); (case ss1 => with_reducible assumption); (case ss2 => (dsimp only; omega)); (intro h' t' k' hk' F' N'))) | (focus ((with_reducible show wpAny _ _ (compareOp CmpOp.NotEq (Value.ref _) (Value.ref _)) _ _ _); k_dflt (refine' ne_nil2 ?N ?k1 ?k2 ?k3 ?_; (case N => k_asm); (case k1 | k2 => k_mem); (case k3 => ((simp only [units_deeper, cLine_is]); (try dsimp only); omega)); k_whole))) | (focus ((with_reducible show wpAny _ _ (PySem.call (Value.ref 786) _ _) _ _ _); k_dflt (refine' sgn_ct ?nd ?B ?F ?X ?N ?hs ?T ?hf ?hke ?hd ?hsz ?I ?hb ?hl ?_; (case nd => assumption); (case B | F | X | N | T => k_asm); (case hs => walk_at "all mem"); (case hf | hke => exact rfl); (case hd => walk_at "depth is"); (case hsz => assumption); (case I | hb | hl => with_reducible assumption); k_whole; intro h' k' ts' tl' tk' tc' u6' tr' tb' pos' k1' k3' I' hb' F' HN'; (have N' := HN' _ (by k_upd)); clear HN'; (try dsimp only at I' hb' N'); (try dsimp only)))) | walk_at "one step"))
  rename News h₀ _ _ _ => N8
  rename Fr h₀ _ _ _ => F8
  rw [List.push_toArray] at N8
  show wpAny _ (Around.mk none _ (some (lrEnv _ :: _)) _ _) (exec (Stmt.While atTest atBody [] _) (lrEnv L)) _ _ _
  with_reducible refine whl_start 0 ?_
  refine rd_while (s := { s with heap := _, toks := _ }) nd B F8 X N8 T hd hu hsz (by with_reducible assumption) (by with_reducible assumption) hrw htr hCL hpl (by with_reducible assumption) (by with_reducible assumption) hA hE ?_
  intro h' k' PV PT n1 tkk ts tl tk tc u6 tb pos k1 k3 f' F' N' I' hb' hR hP hF
  have R := hQ h' k' _ _ PV PT n1 _ _ tkk ts tl tk tc u6 tb pos k1 k3 f' F' N' I' hb' hR hP hF
  exact R
end
end Mine
end
-- part Rc
section
namespace Mine
local macro_rules | `(tactic| k_all) => `(tactic| (with_reducible assumption))
local macro_rules | `(tactic| k_upd) => `(tactic| first | (refine' Rw.tl4 ?tl4; (case tl4 => with_reducible assumption)) | fail "no tail")
theorem lrLoc_inn (x rw tr : Addr) (nm pr inn ky inn' : Option Value) (f : Str → Option Value) : ∀ y, (if y = Str.ofString "inner" then inn' else lrLoc x rw tr nm pr inn ky f y) = lrLoc x rw tr nm pr inn' ky f y := by
  intro y
  by_cases h1 : y = Str.ofString "inner"
  · subst h1; rfl
  simp only [lrLoc, if_neg h1]
section
variable {w : World} {dp un : Nat} {gd : Option (List Code)} {A₀ : Around} {base h₀ : Heap} {L : Addr} {m : Str → Option Value} {s : Shared} {p : Program} {loose : List Str} {mean : ExcName → Option Value} {mg mb : Str → Option Value} {env : Env} {outer : List Env} {E : Value → Shared → Prop} {TL news : List (Addr × Obj)}
theorem rd_one {a : LA} {Q : Flow → Shared → Prop} {rw tr pr inn : Addr} {f : Str → Option Value} {ts tl tk tc u6 tb tn tkk : Tok} {pos : Nat} {k1 k3 : Int} {xs : List Value} {nt : Nat} {σ4 σ5 : Sg} {nm k4 : List Nat}
  (nd : a.Nd) (B : Below A₀ base outer h₀) (F : Fr h₀ L s.heap (lrLoc a.x rw tr (some (.str (tx nm) tn)) (some (.ref pr)) (some (.ref inn)) (some (.str (tx k4) tkk)) f)) (X : (Mine.KK w.params).In h₀)
  (N : News h₀ L s.heap (a.led7c w (mdV ts (finMd σ4.fin)) (.int σ4.ln tl) (.str "" tk) pos u6 k1 k3 (bkv tb σ4.back) (pbv tc σ4.pb) ((tr, listOf xs.toArray nt) :: TL)))
  (T : Top p loose mean mg mb h₀) (hd : dp + 30 < 1000) (hsz : a.page.length ≤ 1048576) (I : Inp a.page σ4.pb pos (σ4.pb.toList ++ σ4.rest)) (hb : ∀ t, σ4.back = some t → t.length ≤ 2000000)
  (htr : a.Nq tr) (hTL : ∀ p ∈ TL, a.Nq p.1) (hTt : ∀ p ∈ TL, p.1 ≠ tr) (hxl : xs.length ≤ 1000) (hk4 : k4 ≠ [62]) (s1 : Sn σ4 [62] σ5)
  (hQ : ∀ h' k' (b : Addr) (t1 ts tl tk tc u6 tb : Tok) (pos : Nat) (k1 k3 : Int), Fr h₀ L h' (lrLoc a.x rw tr (some (.str (tx nm) tn)) (some (.ref pr)) (some (.ref inn)) (some (.str (tx k4) tkk)) f) →
    News h₀ L h' (a.led7c w (mdV ts (finMd σ5.fin)) (.int σ5.ln tl) (.str "" tk) pos u6 k1 k3 (bkv tb σ5.back) (pbv tc σ5.pb) ((tr, listOf (xs ++ [Value.ref b]).toArray (nt + 1)) :: (b, listOf #[.str (tx nm) t1, .ref pr, .ref inn] 0) :: TL)) →
    Inp a.page σ5.pb pos (σ5.pb.toList ++ σ5.rest) → (∀ t, σ5.back = some t → t.length ≤ 2000000) → (a.Nq b ∧ @Ne Nat b tr ∧ AllLt b TL) → Q .next { s with heap := h', toks := k' }) :
  wpAny (model PG w) (Around.mk none dp (some (lrEnv L :: outer)) gd un) (execs lrTail (lrEnv L)) Q E s := by
  have nd0 := nd
  obtain ⟨m1, m2, m3, m4, m5, m6, m7, m8, m9, m10, m11, m12, m13, m14, m15, m16, m17, m18⟩ := nd0
  have ht0 := htr
  obtain ⟨t1, t2, t3, t4, t5, t6, t7⟩ := ht0
  dsimp only [LA.led7c] at N
  have hz1 : (tx k4 == Str.ofString ">") = false := by rw [s_gt, tx_beq]; exact decide_eq_false hk4
  have hz2 : (tx [62] != Str.ofString ">") = false := by rw [s_gt]; simp
  show wpAny _ _ (execs (List.cons _ _) _) _ _ _
  dsimp only [lrEnv]
  rw [show lrScope = Scope.mk _ _ _ _ _ from rfl]
  (try k_fold)
  repeat' ((fail_if_success (with_reducible show Q _ _)); (first | (focus ((with_reducible show wpAny _ _ (call (Value.builtin _) [Value.ref _, _]) _ _ _); (with_reducible refine' append_K ?k1 ?k2 ?k3 ?_ ?z); (case k1 | k2 => k_asm); (case k3 => k_upd); (case z => ((simp only [List.size_toArray, sizeLine_eq]); omega)); intro h' F' N'; (try k_sweep))) | (focus ((with_reducible show wpAny _ _ (subscriptTail _ (Expr.Slice (some _) (some _) none _) _ _) _ _ _); (with_reducible rename Fr _ _ _ _ => F'); (with_reducible rename News _ _ _ _ => N'); (with_reducible refine' slice_ss_tk (s := ⟨_, _, _, _, _⟩) ?ss1 F' N' ?ss2 ?_); (case ss1 => with_reducible assumption); (case ss2 => (dsimp only; omega)); (intro h' t' k' hk' F' N'))) | (focus ((with_reducible show wpAny _ _ (compareOp CmpOp.NotEq (Value.ref _) (Value.ref _)) _ _ _); k_dflt (refine' ne_nil2 ?N ?k1 ?k2 ?k3 ?_; (case N => k_asm); (case k1 | k2 => k_mem); (case k3 => ((simp only [units_deeper, cLine_is]); (try dsimp only); omega)); k_whole))) | (focus ((with_reducible show wpAny _ _ (PySem.call (Value.ref 786) _ _) _ _ _); k_dflt (refine' sgn_ct ?nd ?B ?F ?X ?N ?hs ?T ?hf ?hke ?hd ?hsz ?I ?hb ?hl ?_; (case nd => assumption); (case B | F | X | N | T => k_asm); (case hs => walk_at "all mem"); (case hf | hke => exact rfl); (case hd => walk_at "depth is"); (case hsz => assumption); (case I | hb | hl => with_reducible assumption); k_whole; intro h' k' ts' tl' tk' tc' u6' tr' tb' pos' k1' k3' I' hb' F' HN'; (have N' := HN' _ (by k_upd)); clear HN'; (try dsimp only at I' hb' N'); (try dsimp only)))) | walk_at "one step"))
  rename News h₀ _ _ _ => N8
  rename Fr h₀ _ _ _ => F8
  rw [List.push_toArray] at N8
  refine' hQ _ _ _ _ _ _ _ _ _ _ _ _ _ F8 ?N (by with_reducible assumption) (by with_reducible assumption) ?fr
  case N =>
    refine news_sub N8 ?_
    exact List.forall_mem_cons.mpr ⟨by k_mem, List.forall_mem_cons.mpr ⟨by k_mem, List.forall_mem_cons.mpr ⟨by k_mem, List.forall_mem_cons.mpr ⟨by k_mem, List.forall_mem_cons.mpr ⟨by k_mem, List.forall_mem_cons.mpr ⟨by k_mem, List.forall_mem_cons.mpr ⟨by k_mem, List.forall_mem_cons.mpr ⟨by k_mem, List.forall_mem_cons.mpr ⟨by k_mem,
      fun p hp => .tail _ (.tail _ (.tail _ (.tail _ (.tail _ (.tail _ (.tail _ (.tail _ (.tail _ hp))))))))⟩⟩⟩⟩⟩⟩⟩⟩⟩
  case fr =>
    refine ⟨⟨?_, ?_, ?_, ?_, ?_, ?_, ?_⟩, ?_, ?_⟩
    all_goals first | ((show @Ne Nat _ _); omega) | (rename (@LT.lt Nat _ _ _ ∧ _) => l9; exact l9.2.2.2.2.2.2.2.2)
end
noncomputable abbrev LA.us5 (a : LA) (w : World) (st ln tok : Value) (pos : Int) (u6 : Tok) (k1 k3 : Int) (back pbk : List Value) (rw : Addr) (RW : Obj) : List (Addr × Obj) :=
  [(a.d, lexD w a.tt a.b a.q1 a.q2 a.q3 st ln tok), (a.e, sioD w a.u1 a.u2 a.u3 (.str "\n" a.u4) (.str a.page a.u5) (.int pos u6)), (a.q1, dqObj k1 back), (a.q3, dqObj k3 pbk), (rw, RW)]
theorem Rw.tl5 {a : LA} {w : World} {st ln tok : Value} {pos : Int} {u6 : Tok} {k1 k3 : Int} {back pbk : List Value} {rw : Addr} {RW : Obj} {TL : List (Addr × Obj)} (h : ∀ p ∈ TL, a.Nq p.1) (h' : ∀ p ∈ TL, p.1 ≠ rw) : Rw (a.us5 w st ln tok pos u6 k1 k3 back pbk rw RW) TL TL :=
  Rw.same fun p hp => by
    obtain ⟨h1, h2, h3, h4, h5, h6, h7⟩ := h p hp
    exact List.forall_mem_cons.mpr ⟨Ne.symm h2, List.forall_mem_cons.mpr ⟨Ne.symm h4, List.forall_mem_cons.mpr ⟨Ne.symm h5, List.forall_mem_cons.mpr ⟨Ne.symm h6, List.forall_mem_cons.mpr ⟨Ne.symm (h' p hp), List.forall_mem_nil _⟩⟩⟩⟩⟩
theorem perm_front {α : Type} {CK A TL : List α} : ∀ p ∈ A ++ (CK ++ TL), p ∈ CK ++ (A ++ TL) := by
  intro p hp
  simp only [List.mem_append] at hp ⊢
  rcases hp with h | h | h
  · exact .inr (.inl h)
  · exact .inl h
  · exact .inr (.inr h)
noncomputable def RdC (w : World) (σ : Sg) (rk : List Int) (f : Fo) (σ' : Sg) : Prop := ∀ {dp un : Nat} {gd : Option (List Code)} {A₀ : Around} {base h₀ : Heap} {L : Addr} {m : Str → Option Value} {s : Shared} {p : Program} {loose : List Str} {mean : ExcName → Option Value} {mg mb : Str → Option Value} {env : Env} {outer : List Env} {Q E : Value → Shared → Prop} {news : List (Addr × Obj)}
  {a : LA} {rw : Addr} {rv : List Value} {nr : Nat} {rs0 : List Int} {ts tl tk tc u6 tb : Tok} {pos : Nat} {k1 k3 : Int},
  a.Nd → Below A₀ base outer h₀ → Fr h₀ L s.heap m → (Mine.KK w.params).In h₀ → News h₀ L s.heap news →
  (∀ q ∈ a.led7c w (mdV ts (finMd σ.fin)) (.int σ.ln tl) (.str "" tk) pos u6 k1 k3 (bkv tb σ.back) (pbv tc σ.pb) [(rw, listOf rv.toArray nr)], q ∈ news) →
  Top p loose mean mg mb h₀ → env.frame = some L → env.scope.kind = .function → dp + 60 + f.size < 1000 → un + 400 + 4 * f.size < 9900 → a.page.length ≤ 1048576 → Inp a.page σ.pb pos (σ.pb.toList ++ σ.rest) → (∀ t, σ.back = some t → t.length ≤ 2000000) →
  a.Nq rw → IntsAre rv rs0 → rv.length + f.size ≤ 900 → f.Two →
  (∀ h' k' (T' : Addr) (vs : List Value) (nt : Nat) (CK : List (Addr × Obj)) (rv' : List Value) (nr' : Nat) (ts tl tk tc u6 tb : Tok) (pos : Nat) (k1 k3 : Int), Fr h₀ L h' m →
    (∀ news', Rw (a.us5 w (mdV ts (finMd σ'.fin)) (.int σ'.ln tl) (.str "" tk) pos u6 k1 k3 (bkv tb σ'.back) (pbv tc σ'.pb) rw (listOf rv'.toArray nr')) news news' → News h₀ L h' (CK ++ news')) →
    (T', listOf vs.toArray nt) ∈ CK → RdFo (fun a o => (a, o) ∈ CK) f vs → (∀ p ∈ CK, ∀ q ∈ news, @Ne Nat p.1 q.1) → Inp a.page σ'.pb pos (σ'.pb.toList ++ σ'.rest) → (∀ t, σ'.back = some t → t.length ≤ 2000000) → IntsAre rv' (rs0 ++ rk) → Q (.ref T') { s with heap := h', toks := k' }) →
  wpAny (model PG w) (Around.mk none dp (some (env :: outer)) gd un) (call (.ref 791) [.ref a.x, .ref rw] []) Q E s
section
variable {w : World} {dp un : Nat} {gd : Option (List Code)} {A₀ : Around} {base h₀ : Heap} {L : Addr} {m : Str → Option Value} {s : Shared} {p : Program} {loose : List Str} {mean : ExcName → Option Value} {mg mb : Str → Option Value} {env : Env} {outer : List Env} {E : Value → Shared → Prop} {TL news : List (Addr × Obj)}
local macro_rules | `(tactic| k_upd) => `(tactic| first | (refine' Rw.tl5 ?tl5 ?tl6; (case tl5 | tl6 => with_reducible assumption)) | fail "no tail")
theorem rd_two {a : LA} {Q : Flow → Shared → Prop} {rw tr pr inn : Addr} {f : Str → Option Value} {ts tl tk tc u6 tb tn tkk : Tok} {pos : Nat} {k1 k3 : Int} {xs rv : List Value} {nt nr : Nat} {σ4 σ5 σ6 σ7 : Sg} {nm : List Nat} {rs0 rk : List Int} {kd : Fo} (hc : RdC w σ4 rk kd σ5)
  (nd : a.Nd) (B : Below A₀ base outer h₀) (F : Fr h₀ L s.heap (lrLoc a.x rw tr (some (.str (tx nm) tn)) (some (.ref pr)) (some (.ref inn)) (some (.str (tx [62]) tkk)) f)) (X : (Mine.KK w.params).In h₀)
  (N : News h₀ L s.heap (a.led7c w (mdV ts (finMd σ4.fin)) (.int σ4.ln tl) (.str "" tk) pos u6 k1 k3 (bkv tb σ4.back) (pbv tc σ4.pb) ((rw, listOf rv.toArray nr) :: (tr, listOf xs.toArray nt) :: TL)))
  (T : Top p loose mean mg mb h₀) (hd : dp + 60 + kd.size < 1000) (hu : un + 400 + 4 * kd.size < 9900) (hsz : a.page.length ≤ 1048576) (I : Inp a.page σ4.pb pos (σ4.pb.toList ++ σ4.rest)) (hb : ∀ t, σ4.back = some t → t.length ≤ 2000000)
  (hrw : a.Nq rw) (htr : a.Nq tr) (hrt : @Ne Nat rw tr) (hTL : ∀ p ∈ TL, a.Nq p.1) (hTr : ∀ p ∈ TL, p.1 ≠ rw) (hTt : ∀ p ∈ TL, p.1 ≠ tr) (hxl : xs.length ≤ 1000) (hrv : IntsAre rv rs0) (hrl : rv.length + kd.size ≤ 900) (htw : kd.Two)
  (s1 : Sn σ5 nm σ6) (s2 : Sn σ6 [62] σ7)
  (hQ : ∀ h' k' (b T' : Addr) (vs rv' : List Value) (nk nr' : Nat) (CK : List (Addr × Obj)) (t1 ts tl tk tc u6 tb : Tok) (pos : Nat) (k1 k3 : Int), Fr h₀ L h' (lrLoc a.x rw tr (some (.str (tx nm) tn)) (some (.ref pr)) (some (.ref T')) (some (.str (tx [62]) tkk)) f) →
    News h₀ L h' (a.led7c w (mdV ts (finMd σ7.fin)) (.int σ7.ln tl) (.str "" tk) pos u6 k1 k3 (bkv tb σ7.back) (pbv tc σ7.pb) ((rw, listOf rv'.toArray nr') :: (tr, listOf (xs ++ [Value.ref b]).toArray (nt + 1)) :: (b, listOf #[.str (tx nm) t1, .ref pr, .ref T'] 0) :: (CK ++ TL))) →
    (T', listOf vs.toArray nk) ∈ CK → RdFo (fun a o => (a, o) ∈ CK) kd vs → IntsAre rv' (rs0 ++ rk) →
    Inp a.page σ7.pb pos (σ7.pb.toList ++ σ7.rest) → (∀ t, σ7.back = some t → t.length ≤ 2000000) → (∀ p ∈ CK, a.Nq p.1 ∧ @Ne Nat p.1 rw ∧ @Ne Nat p.1 tr) → (a.Nq b ∧ @Ne Nat b rw ∧ @Ne Nat b tr) → Q .next { s with heap := h', toks := k' }) :
  wpAny (model PG w) (Around.mk none dp (some (lrEnv L :: outer)) gd un) (execs lrTail (lrEnv L)) Q E s := by
  have nd0 := nd
  obtain ⟨m1, m2, m3, m4, m5, m6, m7, m8, m9, m10, m11, m12, m13, m14, m15, m16, m17, m18⟩ := nd0
  have hr0 := hrw
  obtain ⟨r1, r2, r3, r4, r5, r6, r7⟩ := hr0
  have ht0 := htr
  obtain ⟨t1, t2, t3, t4, t5, t6, t7⟩ := ht0
  dsimp only [LA.led7c] at N
  have hz1 : (tx [62] == Str.ofString ">") = true := by rw [s_gt]; simp
  have hz2 : (tx [62] != Str.ofString ">") = false := by rw [s_gt]; simp
  have hz3 : (tx nm != tx nm) = false := by simp
  show wpAny _ _ (execs (List.cons _ _) _) _ _ _
  dsimp only [lrEnv]
  rw [show lrScope = Scope.mk _ _ _ _ _ from rfl]
  (try k_fold)
  repeat' ((fail_if_success (with_reducible show wpAny _ _ (call (.ref 791) _ _) _ _ _)); (first | (focus ((with_reducible show wpAny _ _ (call (Value.builtin _) [Value.ref _, _]) _ _ _); (with_reducible refine' append_K ?k1 ?k2 ?k3 ?_ ?z); (case k1 | k2 => k_asm); (case k3 => k_upd); (case z => ((simp only [List.size_toArray, sizeLine_eq]); omega)); intro h' F' N'; (try k_sweep))) | (focus ((with_reducible show wpAny _ _ (subscriptTail _ (Expr.Slice (some _) (some _) none _) _ _) _ _ _); (with_reducible rename Fr _ _ _ _ => F'); (with_reducible rename News _ _ _ _ => N'); (with_reducible refine' slice_ss_tk (s := ⟨_, _, _, _, _⟩) ?ss1 F' N' ?ss2 ?_); (case ss1 => with_reducible assumption); (case ss2 => (dsimp only; omega)); (intro h' t' k' hk' F' N'))) | (focus ((with_reducible show wpAny _ _ (compareOp CmpOp.NotEq (Value.ref _) (Value.ref _)) _ _ _); k_dflt (refine' ne_nil2 ?N ?k1 ?k2 ?k3 ?_; (case N => k_asm); (case k1 | k2 => k_mem); (case k3 => ((simp only [units_deeper, cLine_is]); (try dsimp only); omega)); k_whole))) | (focus ((with_reducible show wpAny _ _ (PySem.call (Value.ref 786) _ _) _ _ _); k_dflt (refine' sgn_ct ?nd ?B ?F ?X ?N ?hs ?T ?hf ?hke ?hd ?hsz ?I ?hb ?hl ?_; (case nd => assumption); (case B | F | X | N | T => k_asm); (case hs => walk_at "all mem"); (case hf | hke => exact rfl); (case hd => walk_at "depth is"); (case hsz => assumption); (case I | hb | hl => with_reducible assumption); k_whole; intro h' k' ts' tl' tk' tc' u6' tr' tb' pos' k1' k3' I' hb' F' HN'; (have N' := HN' _ (by k_upd)); clear HN'; (try dsimp only at I' hb' N'); (try dsimp only)))) | walk_at "one step"))
  show wpAny _ (Around.mk none _ (some (_ :: _)) _ _) (call (.ref 791) _ _) _ _ _
  rename News h₀ _ _ _ => N8
  rename Fr h₀ _ _ _ => F8
  refine' hc nd B F8 X N8 ?hs T rfl rfl hd hu hsz I hb hrw hrv hrl htw ?_
  case hs => exact List.forall_mem_cons.mpr ⟨by k_mem, List.forall_mem_cons.mpr ⟨by k_mem, List.forall_mem_cons.mpr ⟨by k_mem, List.forall_mem_cons.mpr ⟨by k_mem, List.forall_mem_cons.mpr ⟨by k_mem, List.forall_mem_cons.mpr ⟨by k_mem, List.forall_mem_cons.mpr ⟨by k_mem, List.forall_mem_cons.mpr ⟨by k_mem, List.forall_mem_nil _⟩⟩⟩⟩⟩⟩⟩⟩
  intro h4 k4' T4 vs4 nk4 CK rv4 nr4 ts4 tl4 tk4 tc4 u64 tb4 pos4 k14 k34 F4 HN4 hT4 hR4 hC4 I4 hb4 hrv4
  have N4 := HN4 _ (by k_upd)
  clear HN4 F8
  have N5 := news_sub N4 (fun p hp => perm_front (A := [_, _, _, _, _, _, _, _, _]) p hp)
  simp only [List.cons_append, List.nil_append] at N5
  have hk0 := fun p hp => hC4 p hp
  have hq1 : ∀ p ∈ CK, a.Nq p.1 ∧ @Ne Nat p.1 rw ∧ @Ne Nat p.1 tr := fun p hp =>
    ⟨⟨hC4 p hp _ (.head _), hC4 p hp _ (.tail _ (.head _)), hC4 p hp _ (.tail _ (.tail _ (.head _))), hC4 p hp _ (.tail _ (.tail _ (.tail _ (.head _)))), hC4 p hp _ (.tail _ (.tail _ (.tail _ (.tail _ (.head _))))), hC4 p hp _ (.tail _ (.tail _ (.tail _ (.tail _ (.tail _ (.head _)))))), hC4 p hp _ (.tail _ (.tail _ (.tail _ (.tail _ (.tail _ (.tail _ (.head _))))))) ⟩,
      hC4 p hp _ (.tail _ (.tail _ (.tail _ (.tail _ (.tail _ (.tail _ (.tail _ (.head _)))))))), hC4 p hp _ (.tail _ (.tail _ (.tail _ (.tail _ (.tail _ (.tail _ (.tail _ (.tail _ (.head _)))))))))⟩
  have hu1 : ∀ p ∈ CK ++ TL, a.Nq p.1 := fun p hp => (List.mem_append.mp hp).elim (fun h => (hq1 p h).1) (hTL p)
  have hu2 : ∀ p ∈ CK ++ TL, p.1 ≠ rw := fun p hp => (List.mem_append.mp hp).elim (fun h => (hq1 p h).2.1) (hTr p)
  have hu3 : ∀ p ∈ CK ++ TL, p.1 ≠ tr := fun p hp => (List.mem_append.mp hp).elim (fun h => (hq1 p h).2.2) (hTt p)
  clear N4 N8 hC4 hk0
  generalize hTM : CK ++ TL = TM at *
  (try dsimp only)
  repeat' ((fail_if_success (with_reducible show Q _ _)); (first | (focus ((with_reducible show wpAny _ _ (call (Value.builtin _) [Value.ref _, _]) _ _ _); (with_reducible refine' append_K ?k1 ?k2 ?k3 ?_ ?z); (case k1 | k2 => k_asm); (case k3 => k_upd); (case z => ((simp only [List.size_toArray, sizeLine_eq]); omega)); intro h' F' N'; (try k_sweep))) | (focus ((with_reducible show wpAny _ _ (subscriptTail _ (Expr.Slice (some _) (some _) none _) _ _) _ _ _); (with_reducible rename Fr _ _ _ _ => F'); (with_reducible rename News _ _ _ _ => N'); (with_reducible refine' slice_ss_tk (s := ⟨_, _, _, _, _⟩) ?ss1 F' N' ?ss2 ?_); (case ss1 => with_reducible assumption); (case ss2 => (dsimp only; omega)); (intro h' t' k' hk' F' N'))) | (focus ((with_reducible show wpAny _ _ (compareOp CmpOp.NotEq (Value.ref _) (Value.ref _)) _ _ _); k_dflt (refine' ne_nil2 ?N ?k1 ?k2 ?k3 ?_; (case N => k_asm); (case k1 | k2 => k_mem); (case k3 => ((simp only [units_deeper, cLine_is]); (try dsimp only); omega)); k_whole))) | (focus ((with_reducible show wpAny _ _ (PySem.call (Value.ref 786) _ _) _ _ _); k_dflt (refine' sgn_ct ?nd ?B ?F ?X ?N ?hs ?T ?hf ?hke ?hd ?hsz ?I ?hb ?hl ?_; (case nd => assumption); (case B | F | X | N | T => k_asm); (case hs => walk_at "all mem"); (case hf | hke => exact rfl); (case hd => walk_at "depth is"); (case hsz => assumption); (case I | hb | hl => with_reducible assumption); k_whole; intro h' k' ts' tl' tk' tc' u6' tr' tb' pos' k1' k3' I' hb' F' HN'; (have N' := HN' _ (by k_upd)); clear HN'; (try dsimp only at I' hb' N'); (try dsimp only)))) | walk_at "one step"))
  rename News h₀ _ _ _ => N8
  rename Fr h₀ _ _ _ => F8
  rw [List.push_toArray] at N8
  subst hTM
  refine' hQ _ _ _ _ _ _ _ _ _ _ _ _ _ _ _ _ _ _ _ (Fr.as F8 (fun y => lrLoc_inn ..)) ?N hT4 hR4 hrv4 (by with_reducible assumption) (by with_reducible assumption) hq1 ?fr
  case N =>
    refine news_sub N8 ?_
    exact List.forall_mem_cons.mpr ⟨by k_mem, List.forall_mem_cons.mpr ⟨by k_mem, List.forall_mem_cons.mpr ⟨by k_mem, List.forall_mem_cons.mpr ⟨by k_mem, List.forall_mem_cons.mpr ⟨by k_mem, List.forall_mem_cons.mpr ⟨by k_mem, List.forall_mem_cons.mpr ⟨by k_mem, List.forall_mem_cons.mpr ⟨by k_mem, List.forall_mem_cons.mpr ⟨by k_mem, List.forall_mem_cons.mpr ⟨by k_mem,
      fun p hp => .tail _ (.tail _ (.tail _ (.tail _ (.tail _ (.tail _ (.tail _ (.tail _ (.tail _ (.tail _ hp)))))))))⟩⟩⟩⟩⟩⟩⟩⟩⟩⟩
  case fr =>
    refine ⟨⟨?_, ?_, ?_, ?_, ?_, ?_, ?_⟩, ?_, ?_⟩
    all_goals ((show @Ne Nat _ _); omega)
end
end Mine
end
-- part Re
section
namespace Mine
local macro_rules | `(tactic| k_all) => `(tactic| (with_reducible assumption))
local macro_rules | `(tactic| k_upd) => `(tactic| first | (refine' Rw.tl4 ?tl4; (case tl4 => with_reducible assumption)) | fail "no tail")
theorem lrLoc_cl (x rw tr : Addr) (nm pr inn ky nm' ro : Option Value) (f : Str → Option Value) : ∀ y, (if y = Str.ofString "name" then nm' else if y = Str.ofString "row" then ro else lrLoc x rw tr nm pr inn ky f y) = lrLoc x rw tr nm' pr inn ky (fun y => if y = Str.ofString "row" then ro else f y) y := by
  intro y
  by_cases h1 : y = Str.ofString "lexer"
  · subst h1; rfl
  by_cases h2 : y = Str.ofString "rows"
  · subst h2; rfl
  by_cases h3 : y = Str.ofString "tree"
  · subst h3; rfl
  by_cases h4 : y = Str.ofString "name"
  · subst h4; rfl
  by_cases h5 : y = Str.ofString "pairs"
  · subst h5; rfl
  by_cases h6 : y = Str.ofString "inner"
  · subst h6; rfl
  by_cases h7 : y = Str.ofString "key"
  · subst h7; rfl
  simp only [lrLoc, if_neg h1, if_neg h2, if_neg h3, if_neg h4, if_neg h5, if_neg h6, if_neg h7]
noncomputable def RdL (w : World) (σ : Sg) (rk : List Int) (f : Fo) (σ' : Sg) : Prop := ∀ {dp un : Nat} {gd : Option (List Code)} {A₀ : Around} {base h₀ : Heap} {L : Addr} {p : Program} {loose : List Str} {mean : ExcName → Option Value} {mg mb : Str → Option Value} {outer : List Env} {Q : Flow → Shared → Prop} {E : Value → Shared → Prop} {a : LA} {rw tr : Addr},
  a.Nd → Below A₀ base outer h₀ → (Mine.KK w.params).In h₀ → Top p loose mean mg mb h₀ → dp + 59 + f.size < 1000 → un + 397 + 4 * f.size < 9900 → a.page.length ≤ 1048576 → a.Nq rw → a.Nq tr → @Ne Nat rw tr →
  PassesOwn (model PG w) (Around.mk none dp (some (lrEnv L :: outer)) gd un) (lrEnv L) E → f.Two →
  ∀ {s : Shared} {CL : List (Addr × Obj)} {rv xs : List Value} {nr nt : Nat} {f0 : Str → Option Value} {nm pr inn ky : Option Value} {ts tl tk tc u6 tb : Tok} {pos : Nat} {k1 k3 : Int} {rs0 : List Int},
  Fr h₀ L s.heap (lrLoc a.x rw tr nm pr inn ky f0) → News h₀ L s.heap (a.led7c w (mdV ts (finMd σ.fin)) (.int σ.ln tl) (.str "" tk) pos u6 k1 k3 (bkv tb σ.back) (pbv tc σ.pb) ((rw, listOf rv.toArray nr) :: (tr, listOf xs.toArray nt) :: CL)) →
  Inp a.page σ.pb pos (σ.pb.toList ++ σ.rest) → (∀ t, σ.back = some t → t.length ≤ 2000000) → (∀ p ∈ CL, a.Nq p.1 ∧ @Ne Nat p.1 rw ∧ @Ne Nat p.1 tr) → IntsAre rv rs0 → rv.length + f.size ≤ 900 → xs.length + f.size ≤ 900 →
  (∀ fl h' k' (rv' ys : List Value) (nr' nt' : Nat) (CN : List (Addr × Obj)) (ts tl tk tc u6 tb : Tok) (pos : Nat) (k1 k3 : Int) f' nm' pr' inn' ky', (fl = .next ∨ fl = .ret (.ref tr)) → Fr h₀ L h' (lrLoc a.x rw tr nm' pr' inn' ky' f') →
    News h₀ L h' (a.led7c w (mdV ts (finMd σ'.fin)) (.int σ'.ln tl) (.str "" tk) pos u6 k1 k3 (bkv tb σ'.back) (pbv tc σ'.pb) ((rw, listOf rv'.toArray nr') :: (tr, listOf (xs ++ ys).toArray nt') :: (CN ++ CL))) →
    Inp a.page σ'.pb pos (σ'.pb.toList ++ σ'.rest) → (∀ t, σ'.back = some t → t.length ≤ 2000000) → IntsAre rv' (rs0 ++ rk) → RdFo (fun a o => (a, o) ∈ CN) f ys → (∀ p ∈ CN, a.Nq p.1 ∧ @Ne Nat p.1 rw ∧ @Ne Nat p.1 tr) → Q fl { s with heap := h', toks := k' }) →
  WhlRest PG w (Around.mk none dp (some (lrEnv L :: outer)) gd un) E (lrEnv L) lrTest lrBody [] Q 0 s
section
variable {w : World} {dp un : Nat} {gd : Option (List Code)} {A₀ : Around} {base h₀ : Heap} {L : Addr} {m : Str → Option Value} {s : Shared} {p : Program} {loose : List Str} {mean : ExcName → Option Value} {mg mb : Str → Option Value} {env : Env} {outer : List Env} {E : Value → Shared → Prop} {TL news : List (Addr × Obj)}
theorem rd_close {a : LA} {Q : Flow → Shared → Prop} {rw tr : Addr} {nm0 pr0 inn0 ky0 : Option Value} {f : Str → Option Value} {ts tl tk tc u6 tb : Tok} {pos : Nat} {k1 k3 : Int} {σ1 σ2 : Sg}
  (nd : a.Nd) (B : Below A₀ base outer h₀) (F : Fr h₀ L s.heap (lrLoc a.x rw tr nm0 pr0 inn0 ky0 f)) (X : (Mine.KK w.params).In h₀)
  (N : News h₀ L s.heap (a.led7c w (mdV ts (finMd σ1.fin)) (.int σ1.ln tl) (.str "" tk) pos u6 k1 k3 (bkv tb σ1.back) (pbv tc σ1.pb) TL))
  (T : Top p loose mean mg mb h₀) (hd : dp + 30 < 1000) (hsz : a.page.length ≤ 1048576) (I : Inp a.page σ1.pb pos (σ1.pb.toList ++ σ1.rest)) (hb : ∀ t, σ1.back = some t → t.length ≤ 2000000)
  (hTL : ∀ p ∈ TL, a.Nq p.1) (s1 : Sn σ1 [47] σ2)
  (hQ : ∀ h' k' (nm' : Option Value) (ts tl tk tc u6 tb : Tok) (pos : Nat) (k1 k3 : Int) f', Fr h₀ L h' (lrLoc a.x rw tr nm' pr0 inn0 ky0 f') →
    News h₀ L h' (a.led7c w (mdV ts (finMd σ2.fin)) (.int σ2.ln tl) (.str "" tk) pos u6 k1 k3 (bkv tb σ2.back) (pbv tc σ2.pb) TL) →
    Inp a.page σ2.pb pos (σ2.pb.toList ++ σ2.rest) → (∀ t, σ2.back = some t → t.length ≤ 2000000) → Q (.ret (.ref tr)) { s with heap := h', toks := k' }) :
  wpAny (model PG w) (Around.mk none dp (some (lrEnv L :: outer)) gd un) (execs lrBody (lrEnv L)) Q E s := by
  have nd0 := nd
  obtain ⟨m1, m2, m3, m4, m5, m6, m7, m8, m9, m10, m11, m12, m13, m14, m15, m16, m17, m18⟩ := nd0
  dsimp only [LA.led7c] at N
  have hz1 : (tx [47] == Str.ofString "/") = true := by rw [s_sl]; simp
  show wpAny _ _ (execs (List.cons _ _) _) _ _ _
  dsimp only [lrEnv]
  rw [show lrScope = Scope.mk _ _ _ _ _ from rfl]
  (try k_fold)
  repeat' ((fail_if_success (with_reducible show Q _ _)); (first | (focus ((with_reducible show wpAny _ _ (call (Value.builtin _) [Value.ref _, _]) _ _ _); (with_reducible refine' append_K ?k1 ?k2 ?k3 ?_ ?z); (case k1 | k2 => k_asm); (case k3 => k_upd); (case z => ((simp only [List.size_toArray, sizeLine_eq]); omega)); intro h' F' N'; (try k_sweep))) | (focus ((with_reducible show wpAny _ _ (subscriptTail _ (Expr.Slice (some _) (some _) none _) _ _) _ _ _); (with_reducible rename Fr _ _ _ _ => F'); (with_reducible rename News _ _ _ _ => N'); (with_reducible refine' slice_ss_tk (s := ⟨_, _, _, _, _⟩) ?ss1 F' N' ?ss2 ?_); (case ss1 => with_reducible assumption); (case ss2 => (dsimp only; omega)); (intro h' t' k' hk' F' N'))) | (focus ((with_reducible show wpAny _ _ (compareOp CmpOp.NotEq (Value.ref _) (Value.ref _)) _ _ _); k_dflt (refine' ne_nil2 ?N ?k1 ?k2 ?k3 ?_; (case N => k_asm); (case k1 | k2 => k_mem); (case k3 => ((simp only [units_deeper, cLine_is]); (try dsimp only); omega)); k_whole))) | (focus ((with_reducible show wpAny _ _ (PySem.call (Value.ref 786) _ _) _ _ _); k_dflt (refine' sgn_ct ?nd ?B ?F ?X ?N ?hs ?T ?hf ?hke ?hd ?hsz ?I ?hb ?hl ?_; (case nd => assumption); (case B | F | X | N | T => k_asm); (case hs => walk_at "all mem"); (case hf | hke => exact rfl); (case hd => walk_at "depth is"); (case hsz => assumption); (case I | hb | hl => with_reducible assumption); k_whole; intro h' k' ts' tl' tk' tc' u6' tr' tb' pos' k1' k3' I' hb' F' HN'; (have N' := HN' _ (by k_upd)); clear HN'; (try dsimp only at I' hb' N'); (try dsimp only)))) | walk_at "one step"))
  (try dsimp only)
  refine' hQ _ _ _ _ _ _ _ _ _ _ _ _ _ (Fr.as (by assumption) (fun y => lrLoc_cl ..)) ?N (by with_reducible assumption) (by with_reducible assumption)
  case N => assumption
end
theorem intsSnoc {i : Int} {t : Tok} : ∀ {vs : List Value} {ns : List Int}, IntsAre vs ns → IntsAre (vs ++ [.int i t]) (ns ++ [i])
  | _, _, .nil => .cons _ _ .nil
  | _, _, .cons j u r => .cons j u (intsSnoc r)
theorem allNe {d : Addr} {l : List (Addr × Obj)} (h : AllLt d l) : ∀ q ∈ l, @Ne Nat d q.1 := fun q hq => Nat.ne_of_gt (tb_lt h q hq)
theorem rdl_one {w : World} {σ σ1 σ2 σ3 σ4 σ5 σ6 : Sg} {nm k k4 : List Nat} {ps : List (Str × Str)} {rs : List Int} {r : Fo} (s0 : Sn σ [60] σ1) (s1 : Sn σ1 nm σ2) (hnm : nm ≠ [47]) (s2 : Sn σ2 k σ3) (hA : At σ3 k ps σ4 k4) (hk4 : k4 ≠ [62]) (s5 : Sn σ4 [62] σ5)
    (ih : RdL w σ5 rs r σ6) : RdL w σ (σ1.ln :: rs) (.cons (tx nm) ps .nil r) σ6 := by
  intro dp un gd A₀ base h₀ L p loose mean mg mb outer Q E a rw tr nd B X T hd hu hsz hrw htr hrt hE htw s CL rv xs nr nt f0 nm0 pr0 inn0 ky0 ts tl tk tc u6 tb pos k1 k3 rs0 F N I hb hCL hrv hrl hxl hQ
  simp only [Fo.size] at hd hu hrl hxl
  obtain ⟨tw1, tw2, tw3⟩ := htw
  have hC1 : ∀ p ∈ CL, a.Nq p.1 := fun p hp => (hCL p hp).1
  refine whl_turn (k := 0) hE (rd_test nd B F X N T (by omega) hsz I hb (List.forall_mem_cons.mpr ⟨hrw, List.forall_mem_cons.mpr ⟨htr, hC1⟩⟩) s0 fun h1 k1' ts tl tk tc u6 tb pos k1 k3 F1 N1 I1 hb1 => WhlIf.yes (decide_eq_true rfl) ?_)
  refine rd_elem nd B F1 X N1 T (by omega) (by omega) hsz I1 hb1 hrw htr hrt hC1 (fun p hp => (hCL p hp).2.1) (by omega) (by omega) s1 hnm s2 hA hE ?_
  intro h2 k2 pr inn PV PT n1 tn tr' tkk ts tl tk tc u6 tb pos k1 k3 f' F2 N2 I2 hb2 hR hP hF
  obtain ⟨fp, fi, lp, li⟩ := hF
  have np := allNe lp
  have ni := allNe li
  have hTL1 : ∀ q ∈ (pr, listOf PV.toArray n1) :: (PT ++ ((inn, listOf #[] 0) :: (rw, listOf (rv ++ [Value.int σ1.ln tr']).toArray (nr + 1)) :: CL)), a.Nq q.1 ∧ @Ne Nat q.1 tr := by
    refine List.forall_mem_cons.mpr ⟨⟨fp, np _ (.tail _ (.head _))⟩, fun q hq => ?_⟩
    rcases List.mem_append.mp hq with hq | hq
    · exact ⟨(hP q hq).1, allNe (hP q hq).2.2 _ (.tail _ (.tail _ (.head _)))⟩
    · rcases List.mem_cons.mp hq with rfl | hq
      · exact ⟨fi, ni _ (.tail _ (.tail _ (.head _)))⟩
      rcases List.mem_cons.mp hq with rfl | hq
      · exact ⟨hrw, hrt⟩
      · exact ⟨hC1 q hq, (hCL q hq).2.2⟩
  have N2' : News h₀ L h2 (a.led7c w (mdV ts (finMd σ4.fin)) (.int σ4.ln tl) (.str "" tk) pos u6 k1 k3 (bkv tb σ4.back) (pbv tc σ4.pb) ((tr, listOf xs.toArray nt) :: (pr, listOf PV.toArray n1) :: (PT ++ ((inn, listOf #[] 0) :: (rw, listOf (rv ++ [Value.int σ1.ln tr']).toArray (nr + 1)) :: CL)))) := by
    refine news_sub N2 ?_
    refine List.forall_mem_cons.mpr ⟨by k_mem, List.forall_mem_cons.mpr ⟨by k_mem, List.forall_mem_cons.mpr ⟨by k_mem, List.forall_mem_cons.mpr ⟨by k_mem, List.forall_mem_cons.mpr ⟨by k_mem, List.forall_mem_cons.mpr ⟨by k_mem, List.forall_mem_cons.mpr ⟨by k_mem, List.forall_mem_cons.mpr ⟨?_, List.forall_mem_cons.mpr ⟨by k_mem, fun q hq => ?_⟩⟩⟩⟩⟩⟩⟩⟩⟩
    · exact .tail _ (.tail _ (.tail _ (.tail _ (.tail _ (.tail _ (.tail _ (.tail _ (List.mem_append_right _ (.tail _ (.tail _ (.head _)))))))))))
    · refine .tail _ (.tail _ (.tail _ (.tail _ (.tail _ (.tail _ (.tail _ (.tail _ ?_)))))))
      rcases List.mem_append.mp hq with hq | hq
      · exact List.mem_append_left _ hq
      · refine List.mem_append_right _ ?_
        rcases List.mem_cons.mp hq with rfl | hq
        · exact .head _
        rcases List.mem_cons.mp hq with rfl | hq
        · exact .tail _ (.head _)
        · exact .tail _ (.tail _ (.tail _ hq))
  refine rd_one nd B F2 X N2' T (by omega) hsz I2 hb2 htr (fun q hq => (hTL1 q hq).1) (fun q hq => (hTL1 q hq).2) (by omega) hk4 s5 ?_
  intro h3 k3' b t1 ts tl tk tc u6 tb pos k1 k3 F3 N3 I3 hb3 hB
  obtain ⟨bq, bt, bl⟩ := hB
  have nb := allNe bl
  have hrw_b : @Ne Nat b rw := nb _ (.tail _ (List.mem_append_right _ (.tail _ (.head _))))
  -- on with the rest
  show WhlRest PG w (Around.mk none dp (some (lrEnv L :: outer)) gd un) E (lrEnv L) lrTest lrBody [] Q 0 _
  have N3' : News h₀ L h3 (a.led7c w (mdV ts (finMd σ5.fin)) (.int σ5.ln tl) (.str "" tk) pos u6 k1 k3 (bkv tb σ5.back) (pbv tc σ5.pb) ((rw, listOf (rv ++ [Value.int σ1.ln tr']).toArray (nr + 1)) :: (tr, listOf (xs ++ [Value.ref b]).toArray (nt + 1)) ::
      (((b, listOf #[.str (tx nm) t1, .ref pr, .ref inn] 0) :: (pr, listOf PV.toArray n1) :: (PT ++ [(inn, listOf #[] 0)])) ++ CL))) := by
    refine news_sub N3 ?_
    refine List.forall_mem_cons.mpr ⟨by k_mem, List.forall_mem_cons.mpr ⟨by k_mem, List.forall_mem_cons.mpr ⟨by k_mem, List.forall_mem_cons.mpr ⟨by k_mem, List.forall_mem_cons.mpr ⟨by k_mem, List.forall_mem_cons.mpr ⟨by k_mem, List.forall_mem_cons.mpr ⟨by k_mem, List.forall_mem_cons.mpr ⟨?_, List.forall_mem_cons.mpr ⟨by k_mem, List.forall_mem_cons.mpr ⟨by k_mem, List.forall_mem_cons.mpr ⟨by k_mem, fun q hq => ?_⟩⟩⟩⟩⟩⟩⟩⟩⟩⟩⟩
    · exact .tail _ (.tail _ (.tail _ (.tail _ (.tail _ (.tail _ (.tail _ (.tail _ (.tail _ (.tail _ (List.mem_append_right _ (.tail _ (.head _))))))))))))
    · refine .tail _ (.tail _ (.tail _ (.tail _ (.tail _ (.tail _ (.tail _ (.tail _ (.tail _ (.tail _ ?_)))))))))
      rcases List.mem_append.mp hq with hq | hq
      · rcases List.mem_append.mp hq with hq | hq
        · exact List.mem_append_left _ hq
        · obtain rfl := List.mem_singleton.mp hq
          exact List.mem_append_right _ (.head _)
      · exact List.mem_append_right _ (.tail _ (.tail _ hq))
  have hC5 : ∀ q ∈ (b, listOf #[Value.str (tx nm) t1, .ref pr, .ref inn] 0) :: (pr, listOf PV.toArray n1) :: (PT ++ [(inn, listOf #[] 0)]), a.Nq q.1 ∧ @Ne Nat q.1 rw ∧ @Ne Nat q.1 tr := by
    refine List.forall_mem_cons.mpr ⟨⟨bq, hrw_b, bt⟩, List.forall_mem_cons.mpr ⟨⟨fp, np _ (.head _), np _ (.tail _ (.head _))⟩, fun q hq => ?_⟩⟩
    rcases List.mem_append.mp hq with hq | hq
    · exact ⟨(hP q hq).1, allNe (hP q hq).2.2 _ (.tail _ (.head _)), allNe (hP q hq).2.2 _ (.tail _ (.tail _ (.head _)))⟩
    · obtain rfl := List.mem_singleton.mp hq
      exact ⟨fi, ni _ (.tail _ (.head _)), ni _ (.tail _ (.tail _ (.head _)))⟩
  refine ih nd B X T (by omega) (by omega) hsz hrw htr hrt hE tw3 F3 N3' I3 hb3 (fun q hq => ?_) (intsSnoc (i := σ1.ln) (t := tr') hrv) (by rw [List.length_append, List.length_singleton]; omega) (by rw [List.length_append, List.length_singleton]; omega) ?_
  · rcases List.mem_append.mp hq with hq | hq
    · exact hC5 q hq
    · exact hCL q hq
  intro fl h4 k4' rv' ys nr' nt' CN ts tl tk tc u6 tb pos k1 k3 f4 nm' pr' inn' ky' hfl F4 N4 I4 hb4 hrv' hR4 hC4
  refine hQ fl h4 k4' rv' (.ref b :: ys) nr' nt' (CN ++ ((b, listOf #[Value.str (tx nm) t1, .ref pr, .ref inn] 0) :: (pr, listOf PV.toArray n1) :: (PT ++ [(inn, listOf #[] 0)]))) ts tl tk tc u6 tb pos k1 k3 f4 nm' pr' inn' ky' hfl F4 ?_ I4 hb4 ?_ ?_ ?_
  · rw [List.append_assoc] at N4
    rw [List.append_assoc]
    exact N4
  · rw [List.append_assoc] at hrv'
    exact hrv'
  · refine ⟨b, t1, pr, inn, PV.toArray, #[], 0, n1, 0, ys, rfl, List.mem_append_right _ (.head _), List.mem_append_right _ (.tail _ (.head _)), ?_, List.mem_append_right _ (.tail _ (.tail _ (List.mem_append_right _ (.head _)))), rfl, hR4.mono fun a o h => List.mem_append_left _ h⟩
    exact hR.mem fun q hq => List.mem_append_right _ (.tail _ (.tail _ (List.mem_append_left _ hq)))
  · intro q hq
    rcases List.mem_append.mp hq with hq | hq
    · exact hC4 q hq
    · exact hC5 q hq
theorem rdl_two {w : World} {σ σ1 σ2 σ3 σ4 σ5 σ6 σ7 σ8 : Sg} {nm k : List Nat} {ps : List (Str × Str)} {rk rs : List Int} {kd r : Fo} (s0 : Sn σ [60] σ1) (s1 : Sn σ1 nm σ2) (hnm : nm ≠ [47]) (s2 : Sn σ2 k σ3) (hA : At σ3 k ps σ4 [62]) (hc : RdC w σ4 rk kd σ5) (hrk : rk.length = kd.size) (s5 : Sn σ5 nm σ6) (s6 : Sn σ6 [62] σ7)
    (ih : RdL w σ7 rs r σ8) : RdL w σ (σ1.ln :: (rk ++ rs)) (.cons (tx nm) ps kd r) σ8 := by
  intro dp un gd A₀ base h₀ L p loose mean mg mb outer Q E a rw tr nd B X T hd hu hsz hrw htr hrt hE htw s CL rv xs nr nt f0 nm0 pr0 inn0 ky0 ts tl tk tc u6 tb pos k1 k3 rs0 F N I hb hCL hrv hrl hxl hQ
  simp only [Fo.size] at hd hu hrl hxl
  obtain ⟨tw1, tw2, tw3⟩ := htw
  have hC1 : ∀ p ∈ CL, a.Nq p.1 := fun p hp => (hCL p hp).1
  refine whl_turn (k := 0) hE (rd_test nd B F X N T (by omega) hsz I hb (List.forall_mem_cons.mpr ⟨hrw, List.forall_mem_cons.mpr ⟨htr, hC1⟩⟩) s0 fun h1 k1' ts tl tk tc u6 tb pos k1 k3 F1 N1 I1 hb1 => WhlIf.yes (decide_eq_true rfl) ?_)
  refine rd_elem nd B F1 X N1 T (by omega) (by omega) hsz I1 hb1 hrw htr hrt hC1 (fun p hp => (hCL p hp).2.1) (by omega) (by omega) s1 hnm s2 hA hE ?_
  intro h2 k2 pr inn PV PT n1 tn tr' tkk ts tl tk tc u6 tb pos k1 k3 f' F2 N2 I2 hb2 hR hP hF
  obtain ⟨fp, fi, lp, li⟩ := hF
  have np := allNe lp
  have ni := allNe li
  have hTL1 : ∀ q ∈ ((pr, listOf PV.toArray n1) :: (PT ++ [(inn, listOf #[] 0)])) ++ CL, a.Nq q.1 ∧ @Ne Nat q.1 rw ∧ @Ne Nat q.1 tr := by
    intro q hq
    rcases List.mem_append.mp hq with hq | hq
    · rcases List.mem_cons.mp hq with rfl | hq
      · exact ⟨fp, np _ (.head _), np _ (.tail _ (.head _))⟩
      rcases List.mem_append.mp hq with hq | hq
      · exact ⟨(hP q hq).1, allNe (hP q hq).2.2 _ (.tail _ (.head _)), allNe (hP q hq).2.2 _ (.tail _ (.tail _ (.head _)))⟩
      · obtain rfl := List.mem_singleton.mp hq
        exact ⟨fi, ni _ (.tail _ (.head _)), ni _ (.tail _ (.tail _ (.head _)))⟩
    · exact hCL q hq
  have N2' : News h₀ L h2 (a.led7c w (mdV ts (finMd σ4.fin)) (.int σ4.ln tl) (.str "" tk) pos u6 k1 k3 (bkv tb σ4.back) (pbv tc σ4.pb) ((rw, listOf (rv ++ [Value.int σ1.ln tr']).toArray (nr + 1)) :: (tr, listOf xs.toArray nt) :: (((pr, listOf PV.toArray n1) :: (PT ++ [(inn, listOf #[] 0)])) ++ CL))) := by
    refine news_sub N2 ?_
    refine List.forall_mem_cons.mpr ⟨by k_mem, List.forall_mem_cons.mpr ⟨by k_mem, List.forall_mem_cons.mpr ⟨by k_mem, List.forall_mem_cons.mpr ⟨by k_mem, List.forall_mem_cons.mpr ⟨by k_mem, List.forall_mem_cons.mpr ⟨by k_mem, List.forall_mem_cons.mpr ⟨by k_mem, List.forall_mem_cons.mpr ⟨?_, List.forall_mem_cons.mpr ⟨?_, List.forall_mem_cons.mpr ⟨by k_mem, fun q hq => ?_⟩⟩⟩⟩⟩⟩⟩⟩⟩⟩
    · exact .tail _ (.tail _ (.tail _ (.tail _ (.tail _ (.tail _ (.tail _ (.tail _ (List.mem_append_right _ (.tail _ (.head _))))))))))
    · exact .tail _ (.tail _ (.tail _ (.tail _ (.tail _ (.tail _ (.tail _ (.tail _ (List.mem_append_right _ (.tail _ (.tail _ (.head _)))))))))))
    · refine .tail _ (.tail _ (.tail _ (.tail _ (.tail _ (.tail _ (.tail _ (.tail _ ?_)))))))
      rcases List.mem_append.mp hq with hq | hq
      · rcases List.mem_append.mp hq with hq | hq
        · exact List.mem_append_left _ hq
        · obtain rfl := List.mem_singleton.mp hq
          exact List.mem_append_right _ (.head _)
      · exact List.mem_append_right _ (.tail _ (.tail _ (.tail _ hq)))
  refine rd_two hc nd B F2 X N2' T (by omega) (by omega) hsz I2 hb2 hrw htr hrt (fun q hq => (hTL1 q hq).1) (fun q hq => (hTL1 q hq).2.1) (fun q hq => (hTL1 q hq).2.2) (by omega) (intsSnoc (i := σ1.ln) (t := tr') hrv) (by rw [List.length_append, List.length_singleton]; omega) tw2 s5 s6 ?_
  intro h3 k3' b T' vs rv3 nk nr3 CK t1 ts tl tk tc u6 tb pos k1 k3 F3 N3 hT3 hR3 hrv3 I3 hb3 hC3 hB3
  show WhlRest PG w (Around.mk none dp (some (lrEnv L :: outer)) gd un) E (lrEnv L) lrTest lrBody [] Q 0 _
  have hl3 : rv3.length + r.size ≤ 900 := by
    have z1 := hrv3.length
    have z2 := hrv.length
    simp only [List.length_append, List.length_singleton] at z1
    omega
  have N3' : News h₀ L h3 (a.led7c w (mdV ts (finMd σ7.fin)) (.int σ7.ln tl) (.str "" tk) pos u6 k1 k3 (bkv tb σ7.back) (pbv tc σ7.pb) ((rw, listOf rv3.toArray nr3) :: (tr, listOf (xs ++ [Value.ref b]).toArray (nt + 1)) ::
      (((b, listOf #[.str (tx nm) t1, .ref pr, .ref T'] 0) :: (CK ++ ((pr, listOf PV.toArray n1) :: (PT ++ [(inn, listOf #[] 0)])))) ++ CL))) := by
    rw [List.cons_append, List.append_assoc]
    exact N3
  have hC5 : ∀ q ∈ (b, listOf #[Value.str (tx nm) t1, .ref pr, .ref T'] 0) :: (CK ++ ((pr, listOf PV.toArray n1) :: (PT ++ [(inn, listOf #[] 0)]))), a.Nq q.1 ∧ @Ne Nat q.1 rw ∧ @Ne Nat q.1 tr := by
    refine List.forall_mem_cons.mpr ⟨hB3, fun q hq => ?_⟩
    rcases List.mem_append.mp hq with hq | hq
    · exact hC3 q hq
    · exact hTL1 q (List.mem_append_left _ hq)
  refine ih nd B X T (by omega) (by omega) hsz hrw htr hrt hE tw3 F3 N3' I3 hb3 (fun q hq => ?_) hrv3 hl3 (by rw [List.length_append, List.length_singleton]; omega) ?_
  · rcases List.mem_append.mp hq with hq | hq
    · exact hC5 q hq
    · exact hCL q hq
  intro fl h4 k4' rv' ys nr' nt' CN ts tl tk tc u6 tb pos k1 k3 f4 nm' pr' inn' ky' hfl F4 N4 I4 hb4 hrv' hR4 hC4
  refine hQ fl h4 k4' rv' (.ref b :: ys) nr' nt' (CN ++ ((b, listOf #[Value.str (tx nm) t1, .ref pr, .ref T'] 0) :: (CK ++ ((pr, listOf PV.toArray n1) :: (PT ++ [(inn, listOf #[] 0)]))))) ts tl tk tc u6 tb pos k1 k3 f4 nm' pr' inn' ky' hfl F4 ?_ I4 hb4 ?_ ?_ ?_
  · rw [List.append_assoc] at N4
    rw [List.append_assoc]
    exact N4
  · simp only [List.append_assoc, List.cons_append, List.nil_append] at hrv' ⊢
    exact hrv'
  · refine ⟨b, t1, pr, T', PV.toArray, vs.toArray, 0, n1, nk, ys, rfl, List.mem_append_right _ (.head _), List.mem_append_right _ (.tail _ (List.mem_append_right _ (.head _))), ?_, List.mem_append_right _ (.tail _ (List.mem_append_left _ hT3)), ?_, hR4.mono fun a o h => List.mem_append_left _ h⟩
    · exact hR.mem fun q hq => List.mem_append_right _ (.tail _ (List.mem_append_right _ (.tail _ (List.mem_append_left _ hq))))
    · exact hR3.mono fun a o h => List.mem_append_right _ (.tail _ (List.mem_append_left _ h))
  · intro q hq
    rcases List.mem_append.mp hq with hq | hq
    · exact hC4 q hq
    · exact hC5 q hq
end Mine
end
-- part Rg
section
namespace Mine
local macro_rules | `(tactic| k_all) => `(tactic| (with_reducible assumption))
local macro_rules | `(tactic| k_upd) => `(tactic| first | (refine' Rw.tl4 ?tl4; (case tl4 => with_reducible assumption)) | fail "no tail")
theorem lrLoc_start (x rw tr : Addr) : ∀ y, (if y = Str.ofString "tree" then some (Value.ref tr) else List.lookup y [(Str.ofString "lexer", Value.ref x), (Str.ofString "rows", Value.ref rw)].reverse) = lrLoc x rw tr none none none none (fun _ => none) y := by
  intro y
  by_cases h1 : y = Str.ofString "lexer"
  · subst h1; rfl
  by_cases h2 : y = Str.ofString "rows"
  · subst h2; rfl
  by_cases h3 : y = Str.ofString "tree"
  · subst h3; rfl
  have e1 : (y == Str.ofString "lexer") = false := by simpa using h1
  have e2 : (y == Str.ofString "rows") = false := by simpa using h2
  simp only [lrLoc, if_neg h1, if_neg h2, if_neg h3, List.reverse_cons, List.reverse_nil, List.nil_append, List.cons_append, List.lookup, e1, e2, ite_self]
theorem news_rw' {s : Shared} {h₀ : Heap} {L : Addr} {news small : List (Addr × Obj)} {g h' : Heap} {us fin news' : List (Addr × Obj)} (N : News h₀ L s.heap news) (kg : ∀ q ∈ news, q.1 ∉ small.map (·.1) → g.get? q.1 = some q.2) (kp : ∀ b o, g.get? b = some o → h'.get? b = some o) (N' : News h₀ L h' fin)
    (hs : ∀ q ∈ small, q ∈ news) (hu : ∀ u ∈ us, u ∈ fin) (hk : ∀ q ∈ small, (∃ u ∈ us, u.1 = q.1) ∨ q ∈ fin) (r : Rw us news news') : News h₀ L h' news' := by
  intro q hq
  rcases r.mem q hq with hq | ⟨hq, hn⟩
  · exact N' q (hu q hq)
  · by_cases hm : q.1 ∈ small.map (·.1)
    · obtain ⟨q', hq', e⟩ := List.mem_map.mp hm
      have e2 : q' = q := by
        have z1 := (N q' (hs q' hq')).1
        have z2 := (N q hq).1
        rw [e, z2] at z1
        exact Prod.ext e (Option.some.inj z1).symm
      subst e2
      rcases hk q' hq' with ⟨u, hu', e'⟩ | hf
      · exact absurd e' (hn u hu')
      · exact N' q' hf
    · exact ⟨kp _ _ (kg q hq hm), (N q hq).2.1, (N q hq).2.2⟩
theorem rd_call_end {w : World} {σ σ' : Sg} {rk : List Int} {f : Fo} (h : RdL w σ rk f σ') {dp un : Nat} {gd : Option (List Code)} {A₀ : Around} {base g : Heap} {L : Addr} {s : Shared} {p : Program} {loose : List Str} {mean : ExcName → Option Value} {mg mb : Str → Option Value} {outer : List Env} {Q : Flow → Shared → Prop} {E : Value → Shared → Prop} {a : LA} {rw tr : Addr} {pos0 : Pos}
  {rv : List Value} {nr : Nat} {rs0 : List Int} {ts tl tk tc u6 tb : Tok} {pos : Nat} {k1 k3 : Int} (nd : a.Nd) (B : Below A₀ base outer g) (F : Fr g L s.heap (fun y => if y = Str.ofString "tree" then some (Value.ref tr) else List.lookup y [(Str.ofString "lexer", Value.ref a.x), (Str.ofString "rows", Value.ref rw)].reverse)) (X : (Mine.KK w.params).In g)
  (N : News g L s.heap ((tr, listOf #[] 0) :: a.led7c w (mdV ts (finMd σ.fin)) (.int σ.ln tl) (.str "" tk) pos u6 k1 k3 (bkv tb σ.back) (pbv tc σ.pb) [(rw, listOf rv.toArray nr)])) (T : Top p loose mean mg mb g)
  (hd : dp + 59 + f.size < 1000) (hu : un + 397 + 4 * f.size < 9900) (hsz : a.page.length ≤ 1048576) (I : Inp a.page σ.pb pos (σ.pb.toList ++ σ.rest)) (hb : ∀ t, σ.back = some t → t.length ≤ 2000000) (hrw : a.Nq rw) (hrv : IntsAre rv rs0) (hrl : rv.length + f.size ≤ 900) (htw : f.Two)
  (l9 : @LT.lt Nat _ a.x tr ∧ @LT.lt Nat _ a.d tr ∧ @LT.lt Nat _ a.b tr ∧ @LT.lt Nat _ a.e tr ∧ @LT.lt Nat _ a.q1 tr ∧ @LT.lt Nat _ a.q3 tr ∧ @LT.lt Nat _ a.q2 tr ∧ @LT.lt Nat _ rw tr) (hE : PassesOwn (model PG w) (Around.mk none dp (some (lrEnv L :: outer)) gd un) (lrEnv L) E)
  (hQ : ∀ (tr : Addr) fl h' k' (rv' ys : List Value) (nr' nt' : Nat) (CN : List (Addr × Obj)) (ts tl tk tc u6 tb : Tok) (pos : Nat) (k1 k3 : Int) f' nm' pr' inn' ky', (fl = .next ∨ fl = .ret (.ref tr)) → Fr g L h' (lrLoc a.x rw tr nm' pr' inn' ky' f') →
    News g L h' (a.led7c w (mdV ts (finMd σ'.fin)) (.int σ'.ln tl) (.str "" tk) pos u6 k1 k3 (bkv tb σ'.back) (pbv tc σ'.pb) ((rw, listOf rv'.toArray nr') :: (tr, listOf ys.toArray nt') :: CN)) →
    Inp a.page σ'.pb pos (σ'.pb.toList ++ σ'.rest) → (∀ t, σ'.back = some t → t.length ≤ 2000000) → IntsAre rv' (rs0 ++ rk) → RdFo (fun a o => (a, o) ∈ CN) f ys → (∀ q ∈ (tr, listOf ys.toArray nt') :: CN, a.Nq q.1 ∧ @Ne Nat q.1 rw) → Q fl { s with heap := h', toks := k' }) :
  wpAny (model PG w) (Around.mk none dp (some (lrEnv L :: outer)) gd un) (exec (Stmt.While lrTest lrBody [] pos0) (lrEnv L)) Q E s := by
  obtain ⟨l1, l2, l3, l4, l5, l6, l7, l8⟩ := l9
  have htr : a.Nq tr := ⟨Nat.ne_of_gt l1, Nat.ne_of_gt l2, Nat.ne_of_gt l3, Nat.ne_of_gt l4, Nat.ne_of_gt l5, Nat.ne_of_gt l6, Nat.ne_of_gt l7⟩
  have hrt : @Ne Nat rw tr := Nat.ne_of_lt l8
  have N2 : News g L s.heap (a.led7c w (mdV ts (finMd σ.fin)) (.int σ.ln tl) (.str "" tk) pos u6 k1 k3 (bkv tb σ.back) (pbv tc σ.pb) ((rw, listOf rv.toArray nr) :: (tr, listOf ([] : List Value).toArray 0) :: [])) :=
    news_sub N (List.forall_mem_cons.mpr ⟨by k_mem, List.forall_mem_cons.mpr ⟨by k_mem, List.forall_mem_cons.mpr ⟨by k_mem, List.forall_mem_cons.mpr ⟨by k_mem, List.forall_mem_cons.mpr ⟨by k_mem, List.forall_mem_cons.mpr ⟨by k_mem, List.forall_mem_cons.mpr ⟨by k_mem, List.forall_mem_cons.mpr ⟨by k_mem, List.forall_mem_cons.mpr ⟨by k_mem, List.forall_mem_nil _⟩⟩⟩⟩⟩⟩⟩⟩⟩)
  with_reducible refine whl_start 0 ?_
  refine h nd B X T hd hu hsz hrw htr hrt hE htw (Fr.as F (lrLoc_start _ _ _)) N2 I hb (fun _ z => nomatch z) hrv hrl (by rw [List.length_nil]; omega) ?_
  intro fl h' k' rv' ys nr' nt' CN ts tl tk tc u6 tb pos k1 k3 f' nm' pr' inn' ky' hfl F' N' I' hb' hrv' hR hC
  rw [List.nil_append, List.append_nil] at N'
  exact hQ tr fl h' k' rv' ys nr' nt' CN ts tl tk tc u6 tb pos k1 k3 f' nm' pr' inn' ky' hfl F' N' I' hb' hrv' hR (List.forall_mem_cons.mpr ⟨⟨htr, Ne.symm hrt⟩, fun q hq => ⟨(hC q hq).1, (hC q hq).2.1⟩⟩)
theorem rd_call {w : World} {σ σ' : Sg} {rk : List Int} {f : Fo} (h : RdL w σ rk f σ') : RdC w σ rk f σ' := by
  intro dp un gd A₀ base h₀ L m s p loose mean mg mb env outer Q E news a rw rv nr rs0 ts tl tk tc u6 tb pos k1 k3 nd B F X N hs T hf hke hd hu hsz I hb hrw hrv hrl htw hQ
  refine wpAny_call ?_
  refine' call_smallK B F X N hs T rfl hf hke ?k6 ?k7 ?k8 ?k9 ?kB ?_ ?c2 ?c3 ?c4 ?c5
  (case k6 => k_is)
  (case k7 => k_is)
  (case k8 => (show dp < 1000); omega)
  (case k9 => first | exact BindsTo.of_eq rfl | exact binds_K (by k_in) rfl (by k_is) rfl rfl rfl)
  (case kB => exact locs rfl)
  (case c2 => exact rfl)
  (case c3 => exact rfl)
  (case c4 => exact rfl)
  (case c5 => decide)
  intro g L' h₁ F' N' B' X' T' kg st
  (try k_fold)
  have N0 := fun (_ : Unit) => N
  clear N
  (try k_fold)
  replace F' : Fr g L' h₁ (fun y => List.lookup y [(Str.ofString "lexer", Value.ref a.x), (Str.ofString "rows", Value.ref rw)].reverse) := F'
  (first | (focus ((with_reducible show wpAny _ _ (call (Value.builtin _) [Value.ref _, _]) _ _ _); (with_reducible refine' append_K ?k1 ?k2 ?k3 ?_ ?z); (case k1 | k2 => k_asm); (case k3 => k_upd); (case z => ((simp only [List.size_toArray, sizeLine_eq]); omega)); intro h' F' N'; (try k_sweep))) | (focus ((with_reducible show wpAny _ _ (subscriptTail _ (Expr.Slice (some _) (some _) none _) _ _) _ _ _); (with_reducible rename Fr _ _ _ _ => F'); (with_reducible rename News _ _ _ _ => N'); (with_reducible refine' slice_ss_tk (s := ⟨_, _, _, _, _⟩) ?ss1 F' N' ?ss2 ?_); (case ss1 => with_reducible assumption); (case ss2 => (dsimp only; omega)); (intro h' t' k' hk' F' N'))) | (focus ((with_reducible show wpAny _ _ (compareOp CmpOp.NotEq (Value.ref _) (Value.ref _)) _ _ _); k_dflt (refine' ne_nil2 ?N ?k1 ?k2 ?k3 ?_; (case N => k_asm); (case k1 | k2 => k_mem); (case k3 => ((simp only [units_deeper, cLine_is]); (try dsimp only); omega)); k_whole))) | (focus ((with_reducible show wpAny _ _ (PySem.call (Value.ref 786) _ _) _ _ _); k_dflt (refine' sgn_ct ?nd ?B ?F ?X ?N ?hs ?T ?hf ?hke ?hd ?hsz ?I ?hb ?hl ?_; (case nd => assumption); (case B | F | X | N | T => k_asm); (case hs => walk_at "all mem"); (case hf | hke => exact rfl); (case hd => walk_at "depth is"); (case hsz => assumption); (case I | hb | hl => with_reducible assumption); k_whole; intro h' k' ts' tl' tk' tc' u6' tr' tb' pos' k1' k3' I' hb' F' HN'; (have N' := HN' _ (by k_upd)); clear HN'; (try dsimp only at I' hb' N'); (try dsimp only)))) | walk_at "one step")
  repeat' ((fail_if_success (with_reducible show wpAny _ _ (exec (Stmt.While _ _ _ _) _) _ _ _)); (first | (focus ((with_reducible show wpAny _ _ (call (Value.builtin _) [Value.ref _, _]) _ _ _); (with_reducible refine' append_K ?k1 ?k2 ?k3 ?_ ?z); (case k1 | k2 => k_asm); (case k3 => k_upd); (case z => ((simp only [List.size_toArray, sizeLine_eq]); omega)); intro h' F' N'; (try k_sweep))) | (focus ((with_reducible show wpAny _ _ (subscriptTail _ (Expr.Slice (some _) (some _) none _) _ _) _ _ _); (with_reducible rename Fr _ _ _ _ => F'); (with_reducible rename News _ _ _ _ => N'); (with_reducible refine' slice_ss_tk (s := ⟨_, _, _, _, _⟩) ?ss1 F' N' ?ss2 ?_); (case ss1 => with_reducible assumption); (case ss2 => (dsimp only; omega)); (intro h' t' k' hk' F' N'))) | (focus ((with_reducible show wpAny _ _ (compareOp CmpOp.NotEq (Value.ref _) (Value.ref _)) _ _ _); k_dflt (refine' ne_nil2 ?N ?k1 ?k2 ?k3 ?_; (case N => k_asm); (case k1 | k2 => k_mem); (case k3 => ((simp only [units_deeper, cLine_is]); (try dsimp only); omega)); k_whole))) | (focus ((with_reducible show wpAny _ _ (PySem.call (Value.ref 786) _ _) _ _ _); k_dflt (refine' sgn_ct ?nd ?B ?F ?X ?N ?hs ?T ?hf ?hke ?hd ?hsz ?I ?hb ?hl ?_; (case nd => assumption); (case B | F | X | N | T => k_asm); (case hs => walk_at "all mem"); (case hf | hke => exact rfl); (case hd => walk_at "depth is"); (case hsz => assumption); (case I | hb | hl => with_reducible assumption); k_whole; intro h' k' ts' tl' tk' tc' u6' tr' tb' pos' k1' k3' I' hb' F' HN'; (have N' := HN' _ (by k_upd)); clear HN'; (try dsimp only at I' hb' N'); (try dsimp only)))) | walk_at "one step"))
  rename News g _ _ _ => N8
  rename Fr g _ _ _ => F8
  rename (@LT.lt Nat _ _ _ ∧ _) => l9
  show wpAny _ (Around.mk none _ (some (lrEnv _ :: _)) _ _) (exec (Stmt.While lrTest lrBody [] _) (lrEnv L')) _ _ _
  refine rd_call_end (s := { s with heap := _, toks := _ }) h nd B' F8 X' N8 T' ?hd2 ?hu2 hsz I hb hrw hrv hrl htw l9 ?hE ?_
  case hd2 => ((try dsimp only [Around.deeper]); omega)
  case hu2 => ((try dsimp only [Around.deeper]); omega)
  case hE => passes_own
  intro tr fl h3 k3' rv' ys nr' nt' CN ts3 tl3 tk3 tc3 u63 tb3 pos3 k13 k33 f' nm' pr' inn' ky' hfl F3 N3 I3 hb3 hrv' hR hC
  have hCK : ∀ q ∈ (tr, listOf ys.toArray nt') :: CN, ∀ q' ∈ news, @Ne Nat q.1 q'.1 := by
    intro q hq q' hq'
    by_cases hm : q'.1 ∈ (a.led7c w (mdV ts (finMd σ.fin)) (.int σ.ln tl) (.str "" tk) pos u6 k1 k3 (bkv tb σ.back) (pbv tc σ.pb) [(rw, listOf rv.toArray nr)]).map (·.1)
    · obtain ⟨⟨c1, c2, c3, c4, c5, c6, c7⟩, c8⟩ := hC q hq
      simp only [LA.led7c, List.map_cons, List.map_nil, List.mem_cons, List.not_mem_nil, or_false] at hm
      rcases hm with e | e | e | e | e | e | e | e <;> (rw [e]; assumption)
    · intro e
      have z1 := kg q' hq' hm
      have z2 := (N3 q (by
        rcases List.mem_cons.mp hq with rfl | hq
        · exact .tail _ (.tail _ (.tail _ (.tail _ (.tail _ (.tail _ (.tail _ (.tail _ (.head _))))))))
        · exact .tail _ (.tail _ (.tail _ (.tail _ (.tail _ (.tail _ (.tail _ (.tail _ (.tail _ hq)))))))))).2.2
      rw [e, z1] at z2
      cases z2
  have fin : ∀ h9 k9, Fr h₀ L h9 m → News h₀ L h9 (a.led7c w (mdV ts3 (finMd σ'.fin)) (.int σ'.ln tl3) (.str "" tk3) pos3 u63 k13 k33 (bkv tb3 σ'.back) (pbv tc3 σ'.pb) ((rw, listOf rv'.toArray nr') :: (tr, listOf ys.toArray nt') :: CN)) → (∀ b o, g.get? b = some o → h9.get? b = some o) → Q (.ref tr) { s with heap := h9, toks := k9 } := by
    intro h9 k9 F9 N9 kp
    refine hQ h9 k9 tr ys nt' ((tr, listOf ys.toArray nt') :: CN) rv' nr' ts3 tl3 tk3 tc3 u63 tb3 pos3 k13 k33 F9 ?_ (.head _) (hR.mono fun a o z => .tail _ z) hCK I3 hb3 hrv'
    intro news' r q hq
    rcases List.mem_append.mp hq with hq | hq
    · refine N9 q ?_
      rcases List.mem_cons.mp hq with rfl | hq
      · exact .tail _ (.tail _ (.tail _ (.tail _ (.tail _ (.tail _ (.tail _ (.tail _ (.head _))))))))
      · exact .tail _ (.tail _ (.tail _ (.tail _ (.tail _ (.tail _ (.tail _ (.tail _ (.tail _ hq))))))))
    · refine news_rw' (N0 ()) kg kp N9 hs ?_ ?_ r q hq
      · exact List.forall_mem_cons.mpr ⟨by k_mem, List.forall_mem_cons.mpr ⟨by k_mem, List.forall_mem_cons.mpr ⟨by k_mem, List.forall_mem_cons.mpr ⟨by k_mem, List.forall_mem_cons.mpr ⟨by k_mem, List.forall_mem_nil _⟩⟩⟩⟩⟩
      · exact List.forall_mem_cons.mpr ⟨.inr (by k_mem), List.forall_mem_cons.mpr ⟨.inl ⟨_, .head _, rfl⟩, List.forall_mem_cons.mpr ⟨.inr (by k_mem), List.forall_mem_cons.mpr ⟨.inl ⟨_, .tail _ (.head _), rfl⟩, List.forall_mem_cons.mpr ⟨.inl ⟨_, .tail _ (.tail _ (.head _)), rfl⟩, List.forall_mem_cons.mpr ⟨.inl ⟨_, .tail _ (.tail _ (.tail _ (.head _))), rfl⟩, List.forall_mem_cons.mpr ⟨.inr (by k_mem), List.forall_mem_cons.mpr ⟨.inl ⟨_, .tail _ (.tail _ (.tail _ (.tail _ (.head _)))), rfl⟩, List.forall_mem_nil _⟩⟩⟩⟩⟩⟩⟩⟩
  clear F8 N8 hQ
  rcases hfl with rfl | rfl
  · dsimp only
    repeat' ((fail_if_success (with_reducible show Q _ _)); (first | (focus ((with_reducible show wpAny _ _ (call (Value.builtin _) [Value.ref _, _]) _ _ _); (with_reducible refine' append_K ?k1 ?k2 ?k3 ?_ ?z); (case k1 | k2 => k_asm); (case k3 => k_upd); (case z => ((simp only [List.size_toArray, sizeLine_eq]); omega)); intro h' F' N'; (try k_sweep))) | (focus ((with_reducible show wpAny _ _ (subscriptTail _ (Expr.Slice (some _) (some _) none _) _ _) _ _ _); (with_reducible rename Fr _ _ _ _ => F'); (with_reducible rename News _ _ _ _ => N'); (with_reducible refine' slice_ss_tk (s := ⟨_, _, _, _, _⟩) ?ss1 F' N' ?ss2 ?_); (case ss1 => with_reducible assumption); (case ss2 => (dsimp only; omega)); (intro h' t' k' hk' F' N'))) | (focus ((with_reducible show wpAny _ _ (compareOp CmpOp.NotEq (Value.ref _) (Value.ref _)) _ _ _); k_dflt (refine' ne_nil2 ?N ?k1 ?k2 ?k3 ?_; (case N => k_asm); (case k1 | k2 => k_mem); (case k3 => ((simp only [units_deeper, cLine_is]); (try dsimp only); omega)); k_whole))) | (focus ((with_reducible show wpAny _ _ (PySem.call (Value.ref 786) _ _) _ _ _); k_dflt (refine' sgn_ct ?nd ?B ?F ?X ?N ?hs ?T ?hf ?hke ?hd ?hsz ?I ?hb ?hl ?_; (case nd => assumption); (case B | F | X | N | T => k_asm); (case hs => walk_at "all mem"); (case hf | hke => exact rfl); (case hd => walk_at "depth is"); (case hsz => assumption); (case I | hb | hl => with_reducible assumption); k_whole; intro h' k' ts' tl' tk' tc' u6' tr' tb' pos' k1' k3' I' hb' F' HN'; (have N' := HN' _ (by k_upd)); clear HN'; (try dsimp only at I' hb' N'); (try dsimp only)))) | walk_at "one step"))
    (refine' fin _ _ ?F ?N ?K; (case F => assumption); (case N => assumption); (case K => (rename Fr g _ _ _ => F9; exact F9.keep)))
  · dsimp only
    repeat' ((fail_if_success (with_reducible show Q _ _)); (first | (focus ((with_reducible show wpAny _ _ (call (Value.builtin _) [Value.ref _, _]) _ _ _); (with_reducible refine' append_K ?k1 ?k2 ?k3 ?_ ?z); (case k1 | k2 => k_asm); (case k3 => k_upd); (case z => ((simp only [List.size_toArray, sizeLine_eq]); omega)); intro h' F' N'; (try k_sweep))) | (focus ((with_reducible show wpAny _ _ (subscriptTail _ (Expr.Slice (some _) (some _) none _) _ _) _ _ _); (with_reducible rename Fr _ _ _ _ => F'); (with_reducible rename News _ _ _ _ => N'); (with_reducible refine' slice_ss_tk (s := ⟨_, _, _, _, _⟩) ?ss1 F' N' ?ss2 ?_); (case ss1 => with_reducible assumption); (case ss2 => (dsimp only; omega)); (intro h' t' k' hk' F' N'))) | (focus ((with_reducible show wpAny _ _ (compareOp CmpOp.NotEq (Value.ref _) (Value.ref _)) _ _ _); k_dflt (refine' ne_nil2 ?N ?k1 ?k2 ?k3 ?_; (case N => k_asm); (case k1 | k2 => k_mem); (case k3 => ((simp only [units_deeper, cLine_is]); (try dsimp only); omega)); k_whole))) | (focus ((with_reducible show wpAny _ _ (PySem.call (Value.ref 786) _ _) _ _ _); k_dflt (refine' sgn_ct ?nd ?B ?F ?X ?N ?hs ?T ?hf ?hke ?hd ?hsz ?I ?hb ?hl ?_; (case nd => assumption); (case B | F | X | N | T => k_asm); (case hs => walk_at "all mem"); (case hf | hke => exact rfl); (case hd => walk_at "depth is"); (case hsz => assumption); (case I | hb | hl => with_reducible assumption); k_whole; intro h' k' ts' tl' tk' tc' u6' tr' tb' pos' k1' k3' I' hb' F' HN'; (have N' := HN' _ (by k_upd)); clear HN'; (try dsimp only at I' hb' N'); (try dsimp only)))) | walk_at "one step"))
    (refine' fin _ _ ?F ?N ?K; (case F => assumption); (case N => assumption); (case K => (rename Fr g _ _ _ => F9; exact F9.keep)))
theorem rdr_len {σ σ' : Sg} {rs : List Int} {f : Fo} (h : Rdr σ rs f σ') : rs.length = f.size := by
  induction h with
  | fin => rfl
  | close => rfl
  | one _ _ _ _ _ _ _ _ ih => simp only [List.length_cons, Fo.size, ih]; omega
  | two _ _ _ _ _ _ _ _ _ ih1 ih2 => simp only [List.length_cons, List.length_append, Fo.size, ih1, ih2]
theorem rdl_all {w : World} {σ σ' : Sg} {rs : List Int} {f : Fo} (h : Rdr σ rs f σ') : RdL w σ rs f σ' := by
  induction h with
  | @fin σ σ1 t s1 ht =>
    intro dp un gd A₀ base h₀ L p loose mean mg mb outer Q E a rw tr nd B X T hd hu hsz hrw htr hrt hE htw s CL rv xs nr nt f0 nm0 pr0 inn0 ky0 ts tl tk tc u6 tb pos k1 k3 rs0 F N I hb hCL hrv hrl hxl hQ
    refine whl_turn (k := 0) hE (rd_test nd B F X N T (by omega) hsz I hb (List.forall_mem_cons.mpr ⟨hrw, List.forall_mem_cons.mpr ⟨htr, fun p hp => (hCL p hp).1⟩⟩) s1 fun h1 k1' ts tl tk tc u6 tb pos k1 k3 F1 N1 I1 hb1 => WhlIf.no (decide_eq_false ht) (wpAny_execs_nil ?_))
    exact hQ .next h1 k1' rv [] nr nt [] ts tl tk tc u6 tb pos k1 k3 f0 nm0 pr0 inn0 ky0 (.inl rfl) F1 (by rw [List.append_nil]; exact N1) I1 hb1 (by rw [List.append_nil]; exact hrv) rfl (fun _ z => nomatch z)
  | @close σ σ1 σ2 s1 s2 =>
    intro dp un gd A₀ base h₀ L p loose mean mg mb outer Q E a rw tr nd B X T hd hu hsz hrw htr hrt hE htw s CL rv xs nr nt f0 nm0 pr0 inn0 ky0 ts tl tk tc u6 tb pos k1 k3 rs0 F N I hb hCL hrv hrl hxl hQ
    have hTL : ∀ p ∈ (rw, listOf rv.toArray nr) :: (tr, listOf xs.toArray nt) :: CL, a.Nq p.1 := List.forall_mem_cons.mpr ⟨hrw, List.forall_mem_cons.mpr ⟨htr, fun p hp => (hCL p hp).1⟩⟩
    refine whl_turn (k := 0) hE (rd_test nd B F X N T (by omega) hsz I hb hTL s1 fun h1 k1' ts tl tk tc u6 tb pos k1 k3 F1 N1 I1 hb1 => WhlIf.yes (decide_eq_true rfl) ?_)
    refine rd_close nd B F1 X N1 T (by omega) hsz I1 hb1 hTL s2 fun h2 k2' nm' ts tl tk tc u6 tb pos k1 k3 f' F2 N2 I2 hb2 => ?_
    exact hQ (.ret (.ref tr)) h2 k2' rv [] nr nt [] ts tl tk tc u6 tb pos k1 k3 f' nm' pr0 inn0 ky0 (.inr rfl) F2 (by rw [List.append_nil]; exact N2) I2 hb2 (by rw [List.append_nil]; exact hrv) rfl (fun _ z => nomatch z)
  | one s0 s1 hnm s2 hA hk4 s5 _ ih => exact rdl_one s0 s1 hnm s2 hA hk4 s5 ih
  | two s0 s1 hnm s2 hA hk s5 s6 _ ih1 ih2 => exact rdl_two s0 s1 hnm s2 hA (rd_call ih1) (rdr_len hk) s5 s6 ih2
theorem rd_ct {w : World} {σ σ' : Sg} {rs : List Int} {f : Fo} (h : Rdr σ rs f σ') : RdC w σ rs f σ' := rd_call (rdl_all h)
end Mine
end
-- part Mk
section
open PySem PySem.W PySem.Spec PySem.Calls PyProof.Rows Builtin Builtin.ObjectAttr Builtin.Getset_descriptor
namespace Mine
noncomputable abbrev KH (w : World) : Frag := KK w.params
section
variable {w : World} {A : Around} {E : Value → Shared → Prop} {s : Shared} {Q : Value → Shared → Prop} {h : Heap}
theorem made_621 (X : (KH w).In h) : Looks (model PG w) h (Bind.madeBy (.ref 621)) none := Looks.of_peek X (by kernel_rfl)
theorem here_621 (X : (KH w).In h) : Looks (model PG w) h (Bind.madeHere "object.__new__" (.ref 621)) () := Looks.of_peek X (by kernel_rfl)
theorem sub_621 (X : (KH w).In h) : Looks (model PG w) h (isSubtype (.ref 621) (.ref 621)) true := Looks.of_peek X (by kernel_rfl)
theorem init_621 (X : (KH w).In h) : Looks (model PG w) h (typeLookup (.ref 621) "__init__") (some (.ref 391)) := looks_findIn X rfl
theorem mro_621 (X : (KH w).In h) : Looks (model PG w) h (mroOf (.ref 621)) [.ref 621, .ref 144, .ref 117, .type "object"] := Looks.of_peek X (by kernel_rfl)
theorem call_621 (X : (KH w).In h) : Looks (model PG w) h (specialOf (.ref 621) "__call__") (some (.builtin "type.__call__")) := looks_specialIn X rfl
theorem typ_621 (X : (KH w).In h) : Looks (model PG w) h (isInstance (.ref 621) (.type "type")) true := looks_instIn X (by kernel_rfl)
theorem new_621 (X : (KH w).In s.heap) (q : Q (.ref 114) { s with toks := s.toks + 1 }) : wpAny (model PG w) A (getAttr (.ref 621) "__new__") Q E s :=
  cls_bind (K := KH w) (mc := .type "type") X (g := .builtin "staticmethod.__get__") (a := .ref 118) (obj := .none) (tp := .ref 621) (by kernel_rfl) (by kernel_rfl) (wpAny_call (sm_get (rest := []) (s := { s with toks := s.toks + 1 }) X (by kernel_rfl) (handed_on (v := .ref 114) (by kernel_rfl) q)))
theorem make_621 {args : List Value} (X : (KH w).In s.heap)
    (hq : wpAny (model PG w) (A.under (.builtin "type.__call__" ⟨.ref 621 :: args, []⟩)) (call (.ref 114) (.ref 621 :: args)) (fun v s' => (KH w).In s'.heap ∧ ∃ x dx, v = .ref x ∧ s'.heap.get? x = some (instObj 621 dx) ∧
      codeAny (model PG w) (A.under (.builtin "type.__call__" ⟨.ref 621 :: args, []⟩)) (.call (.ref 391) ⟨.ref x :: args, []⟩) (InitBack x (fun r s'' => match r with | .ok (.ret v) => Q v s'' | .ok _ => False | .error e => E e s'')) s') E { s with toks := s.toks + 1 }) :
    wpAny (model PG w) A (call (.ref 621) args) Q E s := by
  obtain ⟨h, g, d, t, os⟩ := s
  refine wpAny_call (codeAny_of_tree ?_)
  show wpAny _ _ (callAny (.ref 621) _) _ _ _
  have hC : h.get? 621 = some _ := X _ _ rfl
  refine nd_load hC ?_
  show wpAny _ _ (callAny.viaDunder (.ref 621) _) _ _ _
  unfold callAny.viaDunder
  refine wpAny_bind ((call_621 X).at ?_)
  dsimp only
  rw [tc_bind]
  refine wpAny_bind (wpAny_pure (wpAny_bind (wpAny_pure ?_)))
  refine wpAny_pure (a := Fin.again (.call (.builtin "type.__call__") ⟨.ref 621 :: args, []⟩)) (And.intro rfl ?_)
  refine codeAny_call_builtin_at (Code.quiet_builtin _ (by decide +kernel)) entry_typeCall (check_slot tc_kind tc_split (typ_621 X) (tc_args _ _ _) ?_)
  unfold Builtin.«type.__call__»
  have hm := mro_621 (h := h) X
  have hb := made_621 (h := h) X
  repeat (first | (with_reducible refine Looks.at hb ?_) | (with_reducible refine Looks.at hm ?_) | (with_reducible refine new_621 X ?_) | (with_reducible (show wpAny _ _ (PySem.call _ _ _) _ _ _); refine wpAny_mono hq ?_ ?_) | lk)
  · rintro v s' ⟨X', x, dx, rfl, hx, hi⟩
    have t1 : Looks (model PG w) s'.heap (typeOf (.ref x)) (.ref 621) := (Looks.ld hx).andThen .now
    have s1 := sub_621 (h := s'.heap) X'
    have i1 := init_621 (h := s'.heap) X'
    have b1 : Looks (model PG w) s'.heap (bindSpecial (.ref 391) (.ref x)) (.ref 391, [.ref x]) := bind_fn X' _ rfl
    obtain ⟨h', g', d', t', os'⟩ := s'
    unfold isInstance callSpecial? specialOf
    repeat (first | (with_reducible refine Looks.at t1 ?_) | (with_reducible refine Looks.at s1 ?_) | (with_reducible refine Looks.at i1 ?_) | (with_reducible refine Looks.at b1 ?_) | (with_reducible refine wpAny_call ?_) | lk)
    refine codeAny_mono hi fun r s' z => ?_
    rcases r with e | (v | _ | _ | _) <;> first | exact z | exact z.elim | skip
    obtain ⟨rfl, z⟩ := z
    exact wpAny_pure (wpAny_pure z)
  · intro e s'' he; exact he
end
end Mine
end
-- part Mk2
section
open PySem PySem.W PySem.Spec PySem.Calls PyProof.Rows Builtin Builtin.ObjectAttr Builtin.Getset_descriptor
namespace Mine
section
variable {w : World} {A : Around} {E : Value → Shared → Prop} {s : Shared} {Q : Value → Shared → Prop} {h₀ : Heap} {L : Addr} {m : Str → Option Value} {news : List (Addr × Obj)}
theorem objnew_621 (X : (KH w).In s.heap) (hq : Q (.ref (s.heap.objs.size + 1)) { s with heap := (s.heap.push emptyDict).push (instObj 621 s.heap.objs.size) }) :
    wpAny (model PG w) A (PySem.call (.builtin "object.__new__") [.ref 621]) Q E s := by
  obtain ⟨h, g, d, t, os⟩ := s
  have F := PySem.F.objNew
  refine wpAny_call ?_
  refine codeAny_call_builtin_code (Code.quiet_builtin _ F.quiet) ?_
  simp only [checkBuiltinCall, F.kind, F.split, F.row]
  have here := here_621 (h := h) X
  have args : Bind.checkArgs "object.__new__" ⟨.hand, "object.__new__", "__new__", .cls, []⟩ ⟨[.ref 621], []⟩ = pure () := by kernel_rfl
  have typ := typ_621 (h := h) X
  have sub : Looks (model PG w) h (isSubtype (.ref 621) (.type "object")) true := Looks.of_peek X (by kernel_rfl)
  have isT : Looks (model PG w) h (isType (.ref 621)) true := Looks.of_peek X (by kernel_rfl)
  have cd : Looks (model PG w) h (classData 621) _ := looks_clsIn (cd := { name := Str.ofString "StringIO", bases := [Value.ref 144], mro := [Value.ref 621, Value.ref 144, Value.ref 117, Value.type "object"], ns := 620, qualname := Str.ofString "StringIO" }) X rfl
  have mb := made_621 (h := h) X
  have sb : Looks (model PG w) h (Bind.staticBase (.ref 621)) (.type "object") := Looks.of_peek X (by kernel_rfl)
  have mo : Looks (model PG w) h (Bind.madeBy (.type "object")) (some "object.__new__") := Looks.of_peek X (by kernel_rfl)
  have i2 : Looks (model PG w) h (typeLookup (.ref 621) "__init__") (some (.ref 391)) := init_621 (h := h) X
  rw [args]
  repeat (first | simp only [bne_self_eq_false, Bool.false_eq_true, if_false] | lk)
  refine codeAny_builtin F.entry ?_
  unfold Builtin.«object.__new__»
  repeat (first | (with_reducible refine Looks.at here ?_) | (with_reducible refine Looks.at isT ?_) | (with_reducible refine Looks.at cd ?_) | ((fail_if_success (with_reducible show wpAny _ _ (PySem.Sem.alloc _ _) _ _ _)); lk))
  have hC : h.get? 621 = some _ := X _ _ rfl
  refine nd_alloc ?_
  have hC1 := Heap.get?_push_of_some { cls := Value.type "dict", data := Data.dict #[] } hC
  have hC2 := Heap.get?_push_of_some (instObj 621 h.objs.size) hC1
  try dsimp only at hC1 hC2
  repeat lk
  rw [Heap.size_push]
  exact hq
theorem objnew_N (F : Fr h₀ L s.heap m) (X : (KH w).In h₀) (N : News h₀ L s.heap news)
    (hq : ∀ x dx h', Fr h₀ L h' m → News h₀ L h' ((x, instObj 621 dx) :: (dx, emptyDict) :: news) → (∀ p ∈ news, p.1 < dx) → dx < x → Q (.ref x) { s with heap := h' }) :
    wpAny (model PG w) A (PySem.call (.builtin "object.__new__") [.ref 621]) Q E s := by
  refine objnew_621 (X.keeps F.keep) (hq _ s.heap.objs.size _ ((F.push _).push _) ?_ (fun p hp => Heap.lt_size (N p hp).1) (Nat.lt_succ_self _))
  have := (N.push F emptyDict).push (F.push _) (instObj 621 s.heap.objs.size)
  rwa [Heap.size_push] at this
end
end Mine
end
-- part Sx1
section
namespace Mine
section
variable {w : World} {hh : Option Value} {dp un : Nat} {gd : Option (List Code)} {A₀ A : Around} {base h₀ : Heap} {L : Addr} {m : Str → Option Value} {s : Shared} {p : Program} {loose : List Str} {mean : ExcName → Option Value} {mg mb : Str → Option Value} {env : Env} {outer : List Env} {Q E : Value → Shared → Prop} {news : List (Addr × Obj)}
theorem new_ct {v : Value} (B : Below A₀ base outer h₀) (F : Fr h₀ L s.heap m) (X : (Mine.KK w.params).In h₀)
  (N : News h₀ L s.heap news)
  (T : Top p loose mean mg mb h₀) (hf : env.frame = some L) (hke : env.scope.kind = .function) (hA : A.frames = some (env :: outer)) (hd : A.depth + 14 < 1000)
  (hQ : ∀ x dx h' k', Fr h₀ L h' m → News h₀ L h' ((x, instObj 621 dx) :: (dx, emptyDict) :: news) → (∀ p ∈ news, @LT.lt Nat _ p.1 dx) → @LT.lt Nat _ dx x → Q (.ref x) { s with heap := h', toks := k' }) :
  wpAny (model PG w) A (call (.ref 114) [.ref 621, v] []) Q E s := by
  refine wpAny_call ?_
  (refine' kp_both ?k1 ?k2 ?k3 ?k4 ?k5 ?kA ?kF ?kK ?k6 ?k7 ?k8 ?kV ?kX ?kQ ?kM ?kN ?kD ?kR ?kP ?kS ?kT ?kB ?_ ?c2 ?c3 ?c4 ?c5; (case kA => exact hA); (case kF => first | exact rfl | assumption); (case kK => first | exact rfl | assumption); (case k1 => k_asm); (case k2 => k_asm); (case k3 => k_asm); (case k4 => k_asm); (case k5 => k_asm); (case k6 => k_is); (case k7 => k_is); (case k8 => (show A.depth < 1000; omega)); (case kV => kp_lit); (case kX => kp_lit); (case kQ => exact rfl); (case kM => exact rfl); (case kN => exact rfl); (case kD => kp_flats); (case kR => exact rfl); (case kP => exact rfl); (case kS => exact fun _ => rfl); (case kT => exact fun _ _ => rfl); (case kB => exact fun _ _ => locs rfl); (case c5 => decide); (case c2 => exact rfl); (case c3 => exact rfl); (case c4 => exact rfl))
  k_whole
  intro C' D' o' g' L' h' tk' l1 l2 lo' hs' fs' FG' F' N' B' X' T'
  replace F' := Fr.as (m' := fun y => List.lookup y [(Str.ofString "kwargs", .ref D'), (Str.ofString "args", .ref C'), (Str.ofString "cls", .ref 621)]) F' (fun y => rfl)
  try dsimp only
  (try k_fold)
  have hne : @Ne Nat D' C' := Nat.ne_of_gt l2
  repeat ((fail_if_success (with_reducible show Q _ _)); (first | (focus ((with_reducible show wpAny _ _ (PySem.call (Value.builtin "object.__new__") _ _) _ _ _); k_dflt (refine' objnew_N ?F ?X ?N ?_; (case F | X | N => k_asm)); intro x' d' h' F' N' l9 l8)) | walk_at "one step"))
  refine' hQ _ _ _ _ ?hF ?hN ?hl ?hx
  case hF => assumption
  case hN =>
    rename News _ _ _ _ => N9
    exact news_sub N9 (fun q hq => by
      rcases List.mem_cons.mp hq with rfl | hq
      · exact .head _
      rcases List.mem_cons.mp hq with rfl | hq
      · exact .tail _ (.head _)
      · exact .tail _ (.tail _ (.tail _ (.tail _ hq))))
  case hl => (rename (∀ _ ∈ (_ :: _ :: news), _ < _) => l9; exact fun q hq => l9 q (.tail _ (.tail _ hq)))
  case hx => assumption
end
end Mine
end
-- part Sx2
section
namespace Mine
section
variable {w : World} {hh : Option Value} {dp un : Nat} {gd : Option (List Code)} {A₀ A : Around} {base h₀ : Heap} {L : Addr} {m : Str → Option Value} {s : Shared} {p : Program} {loose : List Str} {mean : ExcName → Option Value} {mg mb : Str → Option Value} {env : Env} {outer : List Env} {Q E : Value → Shared → Prop} {news : List (Addr × Obj)}
theorem sio_ct {page : Str} {t : Tok} (B : Below A₀ base outer h₀) (F : Fr h₀ L s.heap m) (X : (Mine.KK w.params).In h₀)
  (N : News h₀ L s.heap news)
  (T : Top p loose mean mg mb h₀) (hf : env.frame = some L) (hke : env.scope.kind = .function) (hd : dp + 20 < 1000) (hl : page.length ≤ 1048576)
  (hQ : ∀ b e h' k' (u1 u2 u3 u4 u5 u6 : Tok), Fr h₀ L h' m → News h₀ L h' ((b, instObj 621 e) :: (e, sioD w u1 u2 u3 (.str "\n" u4) (.str page u5) (.int 0 u6)) :: news) → (∀ p ∈ news, @LT.lt Nat _ p.1 e) → @LT.lt Nat _ e b → Q (.ref b) { s with heap := h', toks := k' }) :
  wpAny (model PG w) (Around.mk hh dp (some (env :: outer)) gd un) (call (.ref 621) [.str page t] []) Q E s := by
  refine make_621 (X.keeps F.keep) ?_
  refine new_ct (s := { s with toks := s.toks + 1 }) B F X N T hf hke ?hA ?hd ?_
  case hA => exact rfl
  case hd => (simp only [depth_under_make]; omega)
  intro x dx h1 k1 F1 N1 l1 l2
  refine ⟨X.keeps F1.keep, x, dx, rfl, (N1 _ (.head _)).1, ?_⟩
  have hs : ∀ q ∈ [(x, instObj 621 dx), (dx, emptyDict)], q ∈ (x, instObj 621 dx) :: (dx, emptyDict) :: news := (List.forall_mem_cons.mpr ⟨.head _, List.forall_mem_cons.mpr ⟨.tail _ (.head _), List.forall_mem_nil _⟩⟩)
  refine' call_small (small := [(x, instObj 621 dx), (dx, emptyDict)]) B F1 X N1 hs T ?kA hf hke ?k6 ?k7 ?k8 ?k9 ?kB ?_ ?c2 ?c3 ?c4 ?c5
  (case kA => exact rfl)
  (case k6 => k_is)
  (case k7 => k_is)
  (case k8 => (simp only [depth_under_make]; (show _ < 1000); omega))
  (case k9 => first | exact BindsTo.of_eq rfl | exact binds_K (by k_in) rfl (by k_is) rfl rfl rfl)
  (case kB => exact locs rfl)
  (case c2 => exact rfl)
  (case c3 => exact rfl)
  (case c4 => exact rfl)
  (case c5 => decide)
  intro g L' h₁ F' N' B' X' T' kg
  (try k_fold)
  have N0 := fun (_ : Unit) => N1
  clear N1 N
  (try dsimp only)
  (try k_fold)
  repeat ((fail_if_success (with_reducible show Q _ _)); (fail_if_success (with_reducible show InitBack _ _ _ _)); (first | walk_at "one step"))
  have hxd : @Ne Nat x dx := Nat.ne_of_gt l2
  refine' hQ x dx _ _ ?u1 ?u2 ?u3 ?u4 ?u5 ?u6 ?hF ?hN l1 l2
  case hF => assumption
  case hN =>
    refine' news_rw (s := { s with heap := h1 }) (us := [(dx, sioD w ?u1 ?u2 ?u3 (.str "\n" ?u4) (.str page ?u5) (.int 0 ?u6))]) (N0 ()) kg ?F ?N hs ?hu ?hk ?r
    (case F => assumption)
    (case N => assumption)
    (case hu => exact List.forall_mem_cons.mpr ⟨by k_mem, List.forall_mem_nil _⟩)
    (case hk => exact List.forall_mem_cons.mpr ⟨.inr (by k_mem), List.forall_mem_cons.mpr ⟨.inl ⟨_, .head _, rfl⟩, List.forall_mem_nil _⟩⟩)
    (case r => exact .miss (List.forall_mem_cons.mpr ⟨Ne.symm hxd, List.forall_mem_nil _⟩) (.hit (.head _) (Rw.same fun q hq => List.forall_mem_cons.mpr ⟨Nat.ne_of_gt (l1 q hq), List.forall_mem_nil _⟩)))
end
end Mine
end
-- part Dq2
section
open PySem PySem.W PySem.Spec PySem.Calls PyProof.Rows Builtin
namespace Mine
theorem dqn_mro : mroOf (.type "collections.deque") = pure [.type "collections.deque", .type "object"] := by rw [mroOf_type]; kernel_rfl
theorem dqn_new : typeLookup (.type "collections.deque") "__new__" = pure (some (.builtin "collections.deque.__new__")) := by rw [typeLookup_type, builtinLookup_eq_fast]; kernel_rfl
theorem dqn_slot_init : Slot "collections.deque" "__init__" "collections.deque.__init__" :=
  .of (owner := "collections.deque") (n := "__init__") (by rw [typeLookup_type, builtinLookup_eq_fast]; kernel_rfl) (by decide +kernel) (by decide +kernel) (by decide +kernel)
    (by first | exact .inl (by decide +kernel) | exact .inr (by decide +kernel)) (by rw [isSubtype_type]; kernel_rfl)
theorem dqn_called : TypeCalled "collections.deque" "collections.deque.__new__" "collections.deque.__init__" :=
  ⟨by decide +kernel, by decide +kernel, ⟨_, _, dqn_mro⟩, madeBy_type dqn_mro dqn_new (by decide +kernel), by decide +kernel, by rw [isSubtype_type]; kernel_rfl, dqn_slot_init⟩
theorem dqn_ct : checkTypeCall "collections.deque" ⟨[], []⟩ = pure () := by kernel_rfl
theorem dqn_cn : checkBuiltinCall "collections.deque.__new__" ⟨[.type "collections.deque"], []⟩ = pure () := by kernel_rfl
theorem dqn_en : entryFor table "collections.deque.__new__" = some Builtin.«collections.deque.__new__» := entryFor_of_tree (by kernel_rfl)
theorem dqn_ei : entryFor table "collections.deque.__init__" = some Builtin.«collections.deque.__init__» := entryFor_of_tree (by kernel_rfl)
theorem dqn_args (a : Value) : argsOk "collections.deque.__init__" ⟨[a], []⟩ := by unfold argsOk; kernel_rfl
theorem dqn_run : Builtin.«collections.deque.__new__» ⟨[.type "collections.deque"], []⟩ = (newObjAsIs (.type "collections.deque") (.fields #[.none, .int 0 0]) none >>= ret) := by kernel_rfl
theorem dqn_run2 (x : Addr) : Builtin.«collections.deque.__init__» ⟨[.ref x], []⟩ = (setField (.ref x) 0 .none >>= fun _ => Deque.clear (.ref x) >>= fun _ => ret .none) := by kernel_rfl
theorem dqn_meets : Meets (Builtin.«collections.deque.__new__» ⟨[.type "collections.deque"], []⟩) (fun _ R s => R (.ok (.ret (.ref s.heap.objs.size))) { s with heap := s.heap.push (dqObj 0 []) }) := by
  intro prog w A R s h
  rw [dqn_run]
  obtain ⟨hp, g, d, tk, os⟩ := s
  repeat lk
  exact h
theorem dqn_meets2 (x : Addr) : Meets (Builtin.«collections.deque.__init__» ⟨[.ref x], []⟩) (fun _ R s => s.heap.get? x = some (dqObj 0 []) ∧ ∀ h', h'.get? x = some (dqObj 0 []) → Heap.SameBut x s.heap h' → R (.ok (.ret .none)) { s with heap := h' }) := by
  intro prog w A R s h
  rw [dqn_run2]
  obtain ⟨hx, h⟩ := h
  refine wpAny_bind (wpAny_setField_rec hx (by decide) fun h' hx' hs => ?_)
  have hx2 : h'.get? x = some (dqObj 0 []) := hx'
  refine wpAny_bind ?_
  unfold Deque.clear
  refine wpAny_bind (dq_items (k := 0) (xs := []) hx2 ?_)
  exact wpAny_pure (wpAny_pure (h h' hx2 hs))
section
variable {prog : Program} {w : World} {A : Around} {E : Value → Shared → Prop} {s : Shared} {h₀ : Heap} {L : Addr} {m : Str → Option Value} {news : List (Addr × Obj)} {Q : Value → Shared → Prop}
theorem dq_make (F : Fr h₀ L s.heap m) (N : News h₀ L s.heap news) (hQ : ∀ q h', Fr h₀ L h' m → News h₀ L h' ((q, dqObj 0 []) :: news) → (∀ p ∈ news, p.1 < q) → Q (.ref q) { s with heap := h' }) :
    wpAny (model prog w) A (PySem.call (.type "collections.deque") []) Q E s := by
  refine callType_meets (Q₁ := fun v s' => v = .ref s.heap.objs.size ∧ s' = { s with heap := s.heap.push (dqObj 0 []) }) dqn_called dqn_ct dqn_cn dqn_en dqn_ei dqn_meets ⟨rfl, rfl⟩ ?_
  rintro obj s₁ ⟨rfl, rfl⟩
  have hx : (s.heap.push (dqObj 0 [])).get? s.heap.objs.size = some (dqObj 0 []) := Heap.get?_push_size _ rfl
  refine ⟨⟨_, hx, rfl⟩, dqn_args _, _, dqn_meets2 _, hx, fun h' hx' hs => ⟨rfl, ?_⟩⟩
  have hL : s.heap.objs.size ≠ L := Nat.ne_of_gt F.ns.lt
  have h0 : h₀.get? s.heap.objs.size = none := ktu_new F (Nat.le_refl _)
  refine hQ _ h' ((F.push _).change hs hL h0) (List.forall_mem_cons.mpr ⟨⟨hx', hL, h0⟩, fun p hp => ?_⟩) fun p hp => Heap.lt_size (N p hp).1
  exact ⟨hs.extBut _ _ (Nat.ne_of_lt (Heap.lt_size (N p hp).1)) (Heap.get?_push_of_some _ (N p hp).1), (N p hp).2⟩
end
end Mine
end
-- part Fk
section
open PySem PySem.W PySem.Spec PySem.Calls PyProof.Rows Builtin Builtin.ObjectAttr
namespace Mine
theorem d0_ct : checkTypeCall "dict" ⟨[], []⟩ = pure () := by kernel_rfl
theorem d0_cn : checkBuiltinCall "dict.__new__" ⟨[.type "dict"], []⟩ = pure () := by kernel_rfl
theorem d0_args (a : Value) : argsOk "dict.__init__" ⟨[a], []⟩ := by unfold argsOk; kernel_rfl
theorem d0_meets : Meets (Builtin.«dict.__new__» ⟨[.type "dict"], []⟩) (fun _ R s => R (.ok (.ret (.ref s.heap.objs.size))) { s with heap := s.heap.push { cls := .type "dict", data := .dict #[] } }) := by
  intro prog w A R s h
  have hsub := F.kt_sub_dict
  have hmro := F.kt_mro_dict
  obtain ⟨hp, g, d, tk, os⟩ := s
  unfold Builtin.«dict.__new__»
  wp_walk
  exact h
theorem d0_meets2 (x : Addr) : Meets (Builtin.«dict.__init__» ⟨[.ref x], []⟩) (fun _ R s => s.heap.get? x = some (dictOf [] 0) ∧ R (.ok (.ret .none)) s) := by
  intro prog w A R s h
  obtain ⟨hx, h⟩ := h
  have hT : s.TypeIs (.ref x) "dict" := ⟨_, hx, rfl⟩
  unfold Builtin.«dict.__init__»
  refine wpAny_bind ?_
  unfold Builtin.Dict.selfAndRest
  refine wpAny_bind (wpAny_notOrdered_dict hT ?_)
  obtain ⟨hp, g, d, tk, os⟩ := s
  repeat lk
  exact h
section
variable {prog : Program} {w : World} {A : Around} {E : Value → Shared → Prop} {s : Shared} {h₀ : Heap} {L : Addr} {m : Str → Option Value} {news : List (Addr × Obj)} {Q : Value → Shared → Prop}
theorem dict0 (h : Q (.ref s.heap.objs.size) { s with heap := s.heap.push { cls := .type "dict", data := .dict #[] } }) : wpAny (model prog w) A (PySem.call (.type "dict") []) Q E s := by
  refine callType_meets (Q₁ := fun v s' => v = .ref s.heap.objs.size ∧ s' = { s with heap := s.heap.push { cls := .type "dict", data := .dict #[] } }) F.kt_called_dict d0_ct d0_cn F.kt_entry_dict_new F.entry_dict_init d0_meets ⟨rfl, rfl⟩ ?_
  rintro obj s₁ ⟨rfl, rfl⟩
  have hx : (s.heap.push { cls := .type "dict", data := .dict #[] }).get? s.heap.objs.size = some (dictOf [] 0) := Heap.get?_push_size _ rfl
  exact ⟨⟨_, hx, rfl⟩, d0_args _, _, d0_meets2 _, hx, rfl, h⟩
noncomputable def fkB : Obj := { cls := .type "builtin_function_or_method", data := .fields #[.builtin "dict.fromkeys", .type "dict"] }
theorem fk_type : typeOf (.builtin "dict.fromkeys") = pure (.type "classmethod_descriptor") := by show builtinType _ = _; rw [builtinType_eq_fast]; kernel_rfl
theorem fk_entry : entryFor table "dict.fromkeys" = some Builtin.«dict.fromkeys» := entryFor_of_tree (by kernel_rfl)
theorem fk_entryL : entryFor table "dict.fromkeys.loop" = some Builtin.«dict.fromkeys.loop» := entryFor_of_tree (by kernel_rfl)
theorem fk_isType : isType (.type "dict") = pure true := by first | rfl | kernel_rfl | (unfold isType; rw [isSubtype_type]; kernel_rfl)
theorem fk_get {M : Model} {P : Fin → Shared → Prop} (h : P (.done (.ret (.ref s.heap.objs.size))) { s with heap := s.heap.push fkB }) :
    wpAny M A (Builtin.«classmethod_descriptor.__get__» ⟨[.builtin "dict.fromkeys", .none, .type "dict"], []⟩) P E s := by
  have h1 := fk_isType
  have h2 := F.kt_sub_dict
  obtain ⟨hp, g, d, tk, os⟩ := s
  have L1 : Looks M hp (isType (.type "dict")) true := Looks.of_pure fk_isType
  have L2 : Looks M hp (isSubtype (.type "dict") (.type "dict")) true := Looks.of_pure F.kt_sub_dict
  unfold Builtin.«classmethod_descriptor.__get__»
  repeat lk
  exact h
theorem fk_getm {K : Frag} {pl : Sem Bool} {Q : Value × List Value → Shared → Prop} (F : Fr h₀ L s.heap m) (X₀ : K.In h₀)
    (e : findCls K (.type "dict") (.type "type") (Str.ofString "fromkeys") = some (.get (.builtin "classmethod_descriptor.__get__") (.builtin "dict.fromkeys") .none (.type "dict")))
    (h : Q (.ref s.heap.objs.size, []) { s with heap := s.heap.push fkB, toks := s.toks + 1 }) :
    wpAny (model prog w) A (getMethod (.type "dict") (Str.ofString "fromkeys") pl) Q E s := by
  have X := X₀.keeps F.keep
  have hstub : opaqueClassAbove (.type "dict") = pure none := by unfold opaqueClassAbove; dsimp only; rw [show Manifest.isStub "dict" = false by decide +kernel]; rfl
  have ht : typeOf (.type "dict") = pure (.type "type") := by first | rfl | kernel_rfl
  have L0 : Looks (model prog w) s.heap (typeOf (.type "dict")) (.type "type") := Looks.of_pure ht
  have hg : findIn K (.type "type") "__getattribute__" = some (some (.builtin "type.__getattribute__")) := type_tga
  unfold getMethod specialOf
  refine wpAny_bind (wpAny_bind (L0.here ((looks_findIn X hg).here ?_)))
  dsimp only
  rw [if_pos canon_tga]
  refine wpAny_bind (wpAny_mono (Q := fun v => Q (v, [])) (E := E) ?_ (fun _ _ z => wpAny_pure z) fun _ _ z => z)
  have LO : Looks (model prog w) s.heap (opaqueClassAbove (.type "dict")) none := Looks.of_pure hstub
  refine cls_open X LO L0 hg (looks_hook X (r := none) (by rfl)) (by show subIn K _ _ = _; rfl) e ?_
  show wpAny _ _ (holding [.builtin "dict.fromkeys"] (call (.builtin "classmethod_descriptor.__get__") [.builtin "dict.fromkeys", .none, .type "dict"]) >>= fun v => ret v) _ _ _
  exact wpAny_bind (wpAny_holding (wpAny_call_entry KFB.slot_get fk_type KFB.entry_get (fk_get ⟨_, rfl, wpAny_pure (wpAny_pure h)⟩) (KFB.args_get _ _ _)))
theorem fk_check {X : Str} {t : Tok} : checkBoundCall "dict.fromkeys" ⟨[.type "dict", .str X t], []⟩ = pure () := by first | kernel_rfl | rfl
theorem fk_quiet {as : Args} : (Code.builtin "dict.fromkeys" as).quiet = true := Code.quiet_builtin _ (by decide +kernel)
theorem fk_quietL {as : Args} : (Code.builtin "dict.fromkeys.loop" as).quiet = true := Code.quiet_builtin _ (by decide +kernel)
noncomputable abbrev fkIt (X : Str) (t : Tok) : Obj := { cls := .type "str_ascii_iterator", data := .fields #[.str X t, .int 0 0] }
theorem fk_tree {X : Str} {t : Tok} {P : PySem.Fin → Shared → Prop} (ha : X.cps.all (· < 128) = true)
    (h : P (.again (.builtin "dict.fromkeys.loop" ⟨[.ref s.heap.objs.size, .ref (s.heap.objs.size + 1), .none], []⟩)) { s with heap := (s.heap.push { cls := .type "dict", data := .dict #[] }).push (fkIt X t) }) :
    wpAny (model prog w) A (Builtin.«dict.fromkeys» ⟨[.type "dict", .str X t], []⟩) P E s := by
  obtain ⟨hp, g, d, tk, os⟩ := s
  have L1 : Looks (model prog w) hp (isType (.type "dict")) true := Looks.of_pure fk_isType
  have L2 : Looks (model prog w) hp (isSubtype (.type "dict") (.type "dict")) true := Looks.of_pure F.kt_sub_dict
  unfold Builtin.«dict.fromkeys»
  repeat ((fail_if_success (with_reducible show wpAny _ _ (PySem.call _ _ _) _ _ _)); lk)
  refine dict0 ?_
  have hx : (hp.push { cls := Value.type "dict", data := Data.dict #[] }).get? hp.objs.size = some (dictOf [] 0) := Heap.get?_push_size _ rfl
  dsimp only
  repeat ((fail_if_success (with_reducible show wpAny _ _ (pyIter _) _ _ _)); lk)
  refine wpAny_pyIter_ascii ha ?_
  rw [Heap.size_push]
  exact wpAny_pure h
noncomputable abbrev fkE (w : World) (ps : List (Nat × Tok)) : List DictEntry := ps.map fun p => enS w ⟨#[p.1]⟩ p.2 .none
theorem fkE_all (ps : List (Nat × Tok)) : AllS w (fkE w ps) := fun e he => by obtain ⟨p, _, rfl⟩ := List.mem_map.mp he; exact ⟨_, _, rfl, rfl⟩
theorem fkE_miss {ps : List (Nat × Tok)} {c : Nat} (h : c ∉ ps.map (·.1)) : Miss ⟨#[c]⟩ (fkE w ps) := fun e he => by
  obtain ⟨p, hp, rfl⟩ := List.mem_map.mp he
  have hne : ¬ p.1 = c := fun q => h (q ▸ List.mem_map_of_mem (f := (·.1)) hp)
  show Value.isStrOf _ (Value.str _ _) = false
  simp [Value.isStrOf]
  exact hne
theorem fk_loop (hh : A.handled = none) {X : Str} {tX : Tok} {d it : Addr} (hne : d ≠ it) (hnd : X.cps.toList.Nodup) (hz : X.cps.size ≤ 50) :
    ∀ (j i : Nat) (ps : List (Nat × Tok)) (n : Nat) (s : Shared) (R : Result → Shared → Prop), i + j = X.cps.size → ps.map (·.1) = X.cps.toList.take i → s.heap.get? d = some (dictOf (fkE w ps) n) → s.heap.IsStrIter it "str_ascii_iterator" X tX i →
    (∀ h' tk ps' n', h'.get? d = some (dictOf (fkE w ps') n') → ps'.map (·.1) = X.cps.toList → (∀ b o, b ≠ d → b ≠ it → s.heap.get? b = some o → h'.get? b = some o) → R (.ok (.ret (.ref d))) { s with heap := h', toks := tk }) →
    codeAny (model prog w) A (.builtin "dict.fromkeys.loop" ⟨[.ref d, .ref it, .none], []⟩) R s := by
  intro j
  induction j with
  | zero =>
    intro i ps n s R hi hp hd hit hR
    refine codeAny_builtin fk_entryL ?_
    unfold Builtin.«dict.fromkeys.loop»
    refine wpAny_bind ((Walks.strAscii (by exact hh) it X tX).done s _ _ (by rw [show X.cps.size = i by omega]; exact hit) fun h' tk hk => ?_)
    have hp' : ps.map (·.1) = X.cps.toList := by rw [hp]; exact List.take_of_length_le (by rw [Array.length_toList]; omega)
    exact wpAny_pure (hR h' tk ps n (hk d _ (by simpa using hne) hd) hp' fun b o hb hbi e => hk b o (by simpa using hbi) e)
  | succ j ih =>
    intro i ps n s R hi hp hd hit hR
    refine codeAny_builtin fk_entryL ?_
    unfold Builtin.«dict.fromkeys.loop»
    have hlt : i < X.cps.size := by omega
    refine wpAny_bind ((Walks.strAscii (by exact hh) it X tX).item i s _ _ hlt hit fun v h1 tk1 hv hit1 hk => ?_)
    obtain ⟨c, u, hc, rfl⟩ := hv
    have hc' : X.cps.toList[i]? = some c := by rw [Array.getElem?_toList]; exact hc
    have hd1 := hk d _ (by simpa using hne) hd
    have hlt' : i < X.cps.toList.length := by rw [Array.length_toList]; exact hlt
    have hnot : c ∉ ps.map (·.1) := by
      rw [hp]
      intro hm
      have hsp := List.take_append_drop i X.cps.toList
      rw [← hsp, List.nodup_append] at hnd
      have hmd : c ∈ X.cps.toList.drop i := by
        rw [List.drop_eq_getElem_cons hlt']
        rw [List.getElem?_eq_getElem hlt'] at hc'
        rw [Option.some.inj hc']
        exact .head _
      exact hnd.2.2 c hm c hmd rfl
    have hzp : (fkE w ps).length ≤ 100 := by
      have := congrArg List.length hp
      rw [List.length_map, List.length_take] at this
      rw [List.length_map]; omega
    dsimp only
    refine wpAny_bind (wpAny_typeOf (T := "dict") ⟨_, hd1, rfl⟩ ?_)
    rw [if_pos (by decide)]
    refine wpAny_bind (wpAny_pure ?_)
    refine wpAny_bind (wpAny_holding ?_)
    refine set_new (s := { s with heap := h1, toks := tk1 }) hd1 (fkE_all ps) (fkE_miss hnot) hzp fun h2 hd2 hs2 => ?_
    refine wpAny_pure ⟨fk_quietL, ?_⟩
    have hd2' : h2.get? d = some (dictOf (fkE w (ps ++ [(c, u)])) (n + 1)) := by rw [hd2]; simp [fkE]
    have hit2 : h2.IsStrIter it "str_ascii_iterator" X tX (i + 1) := by
      obtain ⟨o, e, r⟩ := hit1
      exact ⟨o, hs2.extBut it o (Ne.symm hne) e, r⟩
    refine ih (i + 1) (ps ++ [(c, u)]) (n + 1) _ R (by omega) (by rw [List.map_append, hp, List.take_add_one, hc']; rfl) hd2' hit2 fun h' tk ps' n' e1 e2 e3 => ?_
    exact hR h' tk ps' n' e1 e2 fun b o hb hbi e => e3 b o hb hbi (hs2.extBut b o hb (hk b o (by simpa using hbi) e))
theorem fk_call (hh : A.handled = none) {x : Addr} {X : Str} {tX : Tok} (F : Fr h₀ L s.heap m) (N : News h₀ L s.heap news) (hx : s.heap.get? x = some fkB) (ha : X.cps.all (· < 128) = true) (hnd : X.cps.toList.Nodup) (hz : X.cps.size ≤ 50)
    (hQ : ∀ D h' tk ps n, Fr h₀ L h' m → News h₀ L h' ((D, dictOf (fkE w ps) n) :: news) → (∀ p ∈ news, p.1 < D) → ps.map (·.1) = X.cps.toList → Q (.ref D) { s with heap := h', toks := tk }) :
    wpAny (model prog w) A (PySem.call (.ref x) [.str X tX]) Q E s := by
  refine wpAny_call (codeAny_of_tree ?_)
  show wpAny _ A.in1 (callAny (.ref x) ⟨[.str X tX], []⟩) _ _ s
  unfold callAny
  dsimp only
  refine wpAny_bind (wpAny_load hx ?_)
  dsimp only [fkB]
  rw [show (Value.type "builtin_function_or_method" == Value.type "method" || Value.type "builtin_function_or_method" == Value.type "builtin_function_or_method" || Value.type "builtin_function_or_method" == Value.type "method-wrapper") = true by decide, if_pos rfl]
  refine KFB.if_so (by decide) ?_
  refine wpAny_bind (wpAny_of_eq (a := ()) fk_check ?_)
  refine wpAny_bind (wpAny_pure (wpAny_pure ?_))
  refine ⟨fk_quiet, codeAny_builtin fk_entry (fk_tree ha ⟨fk_quietL, ?_⟩)⟩
  have h1 : ((s.heap.push { cls := .type "dict", data := .dict #[] }).push (fkIt X tX)).get? s.heap.objs.size = some (dictOf (fkE w []) 0) := Heap.get?_push_of_some _ (Heap.get?_push_size _ rfl)
  have h2 : ((s.heap.push { cls := .type "dict", data := .dict #[] }).push (fkIt X tX)).get? (s.heap.objs.size + 1) = some (fkIt X tX) := by heap_get
  refine fk_loop hh (Nat.ne_of_lt (Nat.lt_succ_self _)) hnd hz X.cps.size 0 [] 0 _ _ (by omega) (by simp) h1 ⟨_, h2, rfl, rfl⟩ fun h' tk ps n e1 e2 e3 => ?_
  have hk : ∀ b o, s.heap.get? b = some o → h'.get? b = some o := fun b o e => by
    have hb := Heap.lt_size e
    exact e3 b o (Nat.ne_of_lt hb) (Nat.ne_of_lt (Nat.lt_succ_of_lt hb)) (Heap.get?_push_of_some _ (Heap.get?_push_of_some _ e))
  have hL : s.heap.objs.size ≠ L := Nat.ne_of_gt F.ns.lt
  have h0 : h₀.get? s.heap.objs.size = none := ktu_new F (Nat.le_refl _)
  exact hQ _ h' tk ps n (F.keeps hk) (List.forall_mem_cons.mpr ⟨⟨e1, hL, h0⟩, fun p hp => ⟨hk _ _ (N p hp).1, (N p hp).2⟩⟩) (fun p hp => Heap.lt_size (N p hp).1) e2
theorem fk_callWith {M : Model} {pos : Pos} {u : Addr} {env : Env} {e : PySem.Expr} (hu : s.heap.get? u = some fkB) (he : starEach [e] env = [(false, eval e env)])
    (h : wpAny M A (spliced (backTo pos (starEach [e] env))) (fun vs s₁ => s₁.heap.get? u = some fkB ∧ wpAny M A (PySem.call (.ref u) vs) Q E s₁) E s) :
    wpAny M A (callWith pos (.ref u) [] (backTo pos (starEach [e] env)) []) Q E s := by
  have _ := hu
  rw [he] at h ⊢
  have h' : wpAny M A (evalArgs (.ref u) true (backTo pos [(false, PySem.eval e env)]) []) (fun x s₁ => s₁.heap.get? u = some fkB ∧ wpAny M A (PySem.call (.ref u) ([] ++ x.pos) x.kw) Q E s₁) E s := evalArgs_plain (x := PySem.eval e env) (rest := []) h
  unfold callWith
  refine wpAny_bind (wpAny_holding (wpAny_mono h' (fun x s₁ h₁ => wpAny_bind (wpAny_standAt ?_)) fun _ _ x => x))
  obtain ⟨ho, hcall⟩ := h₁
  have hplain : (backTo pos [(false, eval e env)]).any (·.1) = false := rfl
  rw [hplain]
  dsimp only [List.any_nil, Bool.or_false]
  refine wpAny_bind (m := keeperOf (.ref u)) ?_
  unfold keeperOf
  refine wpAny_bind (wpAny_load ho ?_)
  dsimp only [fkB]
  rw [show (Value.type "builtin_function_or_method" != Value.type "method") = true by decide, if_pos rfl, show (Value.type "builtin_function_or_method" == Value.type "builtin_function_or_method" || Value.type "builtin_function_or_method" == Value.type "method-wrapper") = true by decide, if_pos rfl]
  refine wpAny_pure ?_
  exact wpAny_bind (wpAny_mono hcall (fun r s₂ hr => wpAny_bind (wpAny_holding (wpAny_point (wpAny_pure hr)))) fun _ _ x => x)
end
end Mine
end
-- part Mt
section
open PySem PySem.W PySem.Spec PySem.Calls PyProof.Rows Builtin Builtin.ObjectAttr
namespace Mine
section
variable {w : World} {A : Around} {E : Value → Shared → Prop} {s : Shared}
theorem mt_l2 : typeLookup (.type "str") "__getattr__" = pure none := by rw [typeLookup_type, builtinLookup_eq_fast]; kernel_rfl
theorem mt_l3 : typeLookup (.type "str") "maketrans" = pure (some (.builtin "str.maketrans")) := by rw [typeLookup_type, builtinLookup_eq_fast]; kernel_rfl
theorem mt_l4 : typeOf (.builtin "str.maketrans") = pure (.type "builtin_function_or_method") := by show builtinType _ = _; rw [builtinType_eq_fast]; kernel_rfl
theorem mt_l5 : typeLookup (.type "builtin_function_or_method") "__get__" = pure none := by rw [typeLookup_type, builtinLookup_eq_fast]; kernel_rfl
theorem mt_l6 : typeLookup (.type "builtin_function_or_method") "__set__" = pure none := by rw [typeLookup_type, builtinLookup_eq_fast]; kernel_rfl
theorem mt_l7 : typeLookup (.type "builtin_function_or_method") "__delete__" = pure none := by rw [typeLookup_type, builtinLookup_eq_fast]; kernel_rfl
theorem mt_hand : handedOut (.builtin "str.maketrans") = pure (.builtin "str.maketrans") := by rw [handedOut_of (by kernel_rfl)]
theorem mt_meets (x : Str) (t : Tok) (tk : Tok) : Meets (Builtin.«object.__getattribute__» ⟨[.str x t, .str (Str.ofString "maketrans") tk], []⟩) (fun _ R s => R (.ok (.ret (.builtin "str.maketrans"))) s) := by
  intro prog w A R s h
  obtain ⟨hp, g, d, tk', os⟩ := s
  have f3 := mt_l3
  have f4 := mt_l4
  have f5 := mt_l5
  have f6 := mt_l6
  have f7 := mt_l7
  have f8 := mt_hand
  unfold Builtin.«object.__getattribute__»
  repeat (any_goals (first | assumption | wp_step))
theorem mt_attr {x : Str} {t : Tok} {Q : Value → Shared → Prop} (h : Q (.builtin "str.maketrans") { s with toks := s.toks + 1 }) : wpAny (model PG w) A (getAttr (.str x t) (Str.ofString "maketrans")) Q E s := by
  obtain ⟨hp, g, d, tk, os⟩ := s
  have hT : ∀ s' : Shared, s'.TypeIs (.str x t) "str" := fun _ => rfl
  have f3 := PySem.F.slot_str_getattribute.lookup
  have f4 := PySem.F.slot_str_getattribute.bind (.str x t)
  have f5 := mt_l2
  have f8 := mt_hand
  unfold getAttr getAttrBy
  repeat (any_goals (first | assumption | ((with_reducible show wpAny _ _ (PySem.call (Value.builtin "object.__getattribute__") _ _) _ _ _); refine call_meets PySem.F.slot_str_getattribute (hT _) PySem.F.entry_object_getattribute (PySem.F.args_object_getattribute_2 _ _) (mt_meets x t _) ?_) | wp_step))
theorem mt_method {x : Str} {t : Tok} {pl : Sem Bool} {Q : Value × List Value → Shared → Prop} (h : Q (.builtin "str.maketrans", []) { s with toks := s.toks + 1 }) : wpAny (model PG w) A (getMethod (.str x t) (Str.ofString "maketrans") pl) Q E s := by
  obtain ⟨hp, g, d, tk, os⟩ := s
  have L0 : Looks (model PG w) hp (typeOf (.str x t)) (.type "str") := Looks.of_pure rfl
  have L1 : Looks (model PG w) hp (typeLookup (.type "str") "__getattribute__") _ := Looks.of_pure PySem.F.slot_str_getattribute.lookup
  have L2 : Looks (model PG w) hp (typeLookup (.type "str") "__getattr__") _ := Looks.of_pure mt_l2
  have L3 : Looks (model PG w) hp (typeLookup (.type "str") "maketrans") _ := Looks.of_pure mt_l3
  have L4 : Looks (model PG w) hp (typeOf (.builtin "str.maketrans")) _ := Looks.of_pure mt_l4
  have hcan := PySem.F.canon_object_ga
  unfold getMethod specialOf
  refine wpAny_bind (wpAny_bind (L0.at (L1.at ?_)))
  dsimp only
  rw [hcan, if_neg (by decide)]
  refine wpAny_bind (wpAny_bind (L0.at (L2.at ?_)))
  refine wpAny_bind (wpAny_bind (L0.at (L3.at (wpAny_bind (L4.at ?_)))))
  rw [if_pos (by decide +kernel)]
  exact wpAny_bind (mt_attr (wpAny_pure h))
end
end Mine
end
-- part Mtr
section
open PySem PySem.W PySem.Spec PySem.Calls PyProof.Rows Builtin Builtin.ObjectAttr
namespace Mine
section
variable {prog : Program} {w : World} {A : Around} {E : Value → Shared → Prop} {s : Shared} {h₀ : Heap} {L : Addr} {m : Str → Option Value} {news : List (Addr × Obj)}
noncomputable abbrev tabL : List (Int × Value) := [(60, .none), (62, .none), (47, .none), (61, .none)]
theorem mtr_tree {D : Addr} {t1 t2 t3 t4 : Tok} {n : Nat} {P : PySem.Fin → Shared → Prop} (hD : s.heap.get? D = some (dictOf (fkE w [(60,t1),(62,t2),(47,t3),(61,t4)]) n)) (hm : (D == sysModules) = false)
    (h : ∀ h' tk, h'.DictOf (intKind prog w) s.heap.objs.size tabL → (∀ b o, s.heap.get? b = some o → h'.get? b = some o) → P (.done (.ret (.ref s.heap.objs.size))) { s with heap := h', toks := tk }) :
    wpAny (model prog w) A (Builtin.«str.maketrans» ⟨[.ref D], []⟩) P E s := by
  obtain ⟨hp, g, d, tk, os⟩ := s
  have hD1 : (hp.push { cls := Value.type "dict", data := Data.dict #[] }).get? D = some _ := Heap.get?_push_of_some _ hD
  unfold Builtin.«str.maketrans»
  repeat ((fail_if_success (with_reducible show wpAny _ _ (dictSet _ _ _) _ _ _)); lk)
  rw [if_neg (by rw [hm]; decide)]
  repeat ((fail_if_success (with_reducible show wpAny _ _ (dictSet _ _ _) _ _ _)); (fail_if_success (with_reducible show wpAny _ _ (forIn _ _ _) _ _ _)); lk)
  rw [List.forIn_toArray]
  have I0 : (hp.push { cls := .type "dict", data := .dict #[] }).DictOf (intKind prog w) hp.objs.size [] := Heap.DictOf.new hp
  rw [show fkE w [(60, t1), (62, t2), (47, t3), (61, t4)] = [enS w ⟨#[60]⟩ t1 .none, enS w ⟨#[62]⟩ t2 .none, enS w ⟨#[47]⟩ t3 .none, enS w ⟨#[61]⟩ t4 .none] from rfl]
  rw [List.forIn_cons]
  repeat ((fail_if_success (with_reducible show wpAny _ _ (dictSet _ _ _) _ _ _)); lk)
  refine wpAny_dictSet_pairs (knd := intKind prog w) (k := 60) (by rfl) I0 (fun h1 I1 s1 => ?_) (by decide)
  dsimp only
  repeat ((fail_if_success (with_reducible show wpAny _ _ (forIn _ _ _) _ _ _)); lk)
  rw [List.forIn_cons]
  repeat ((fail_if_success (with_reducible show wpAny _ _ (dictSet _ _ _) _ _ _)); lk)
  refine wpAny_dictSet_pairs (knd := intKind prog w) (k := 62) (by rfl) I1 (fun h2 I2 s2 => ?_) (by decide)
  dsimp only
  repeat ((fail_if_success (with_reducible show wpAny _ _ (forIn _ _ _) _ _ _)); lk)
  rw [List.forIn_cons]
  repeat ((fail_if_success (with_reducible show wpAny _ _ (dictSet _ _ _) _ _ _)); lk)
  refine wpAny_dictSet_pairs (knd := intKind prog w) (k := 47) (by rfl) I2 (fun h3 I3 s3 => ?_) (by decide)
  dsimp only
  repeat ((fail_if_success (with_reducible show wpAny _ _ (forIn _ _ _) _ _ _)); lk)
  rw [List.forIn_cons]
  repeat ((fail_if_success (with_reducible show wpAny _ _ (dictSet _ _ _) _ _ _)); lk)
  refine wpAny_dictSet_pairs (knd := intKind prog w) (k := 61) (by rfl) I3 (fun h4 I4 s4 => ?_) (by decide)
  dsimp only
  repeat ((fail_if_success (with_reducible show wpAny _ _ (forIn _ _ _) _ _ _)); lk)
  rw [List.forIn_nil]
  repeat lk
  refine h h4 _ I4 fun b o e => ?_
  have hb : b ≠ hp.objs.size := Nat.ne_of_lt (Heap.lt_size e)
  exact s4.extBut b o hb (s3.extBut b o hb (s2.extBut b o hb (s1.extBut b o hb (Heap.get?_push_of_some _ e))))
end
end Mine
end
-- part Mtr2
section
open PySem PySem.W PySem.Spec PySem.Calls PyProof.Rows Builtin Builtin.ObjectAttr
namespace Mine
section
variable {prog : Program} {w : World} {A : Around} {E : Value → Shared → Prop} {s : Shared} {h₀ : Heap} {L : Addr} {m : Str → Option Value} {news : List (Addr × Obj)} {Q : Value → Shared → Prop}
theorem mtr_plain : plainId "str.maketrans" = true := by decide +kernel
theorem mtr_entry : entryFor table "str.maketrans" = some Builtin.«str.maketrans» := entryFor_of_tree (by kernel_rfl)
theorem mtr_check (a : Value) : checkBuiltinCall "str.maketrans" ⟨[a], []⟩ = pure () := by kernel_rfl
noncomputable def TabO (prog : Program) (w : World) (T : Addr) (o : Obj) : Prop := ∀ h : Heap, h.get? T = some o → h.DictOf (intKind prog w) T tabL
theorem one_of {a : Nat} {r : List Nat} {ps : List (Nat × Tok)} (h : ps.map (·.1) = a :: r) : ∃ t ps', ps = (a, t) :: ps' ∧ ps'.map (·.1) = r := by
  cases ps with
  | nil => cases h
  | cons p ps =>
    obtain ⟨h1, h2⟩ := List.cons.inj h
    exact ⟨p.2, ps, by rw [← h1], h2⟩
theorem four_of {a b c d : Nat} {ps : List (Nat × Tok)} (h : ps.map (·.1) = [a, b, c, d]) : ∃ t1 t2 t3 t4, ps = [(a, t1), (b, t2), (c, t3), (d, t4)] := by
  obtain ⟨t1, p1, e1, h1⟩ := one_of h
  obtain ⟨t2, p2, e2, h2⟩ := one_of h1
  obtain ⟨t3, p3, e3, h3⟩ := one_of h2
  obtain ⟨t4, p4, e4, h4⟩ := one_of h3
  exact ⟨t1, t2, t3, t4, by rw [e1, e2, e3, e4, List.map_eq_nil_iff.mp h4]⟩
theorem mtr_call {D : Addr} {ps : List (Nat × Tok)} {n : Nat} (F : Fr h₀ L s.heap m) (N : News h₀ L s.heap news) (hD : (D, dictOf (fkE w ps) n) ∈ news) (hps : ps.map (·.1) = [60, 62, 47, 61]) (hm : (D == sysModules) = false)
    (hQ : ∀ T o h' tk, Fr h₀ L h' m → News h₀ L h' ((T, o) :: news) → (∀ p ∈ news, p.1 < T) → TabO prog w T o → Q (.ref T) { s with heap := h', toks := tk }) :
    wpAny (model prog w) A (PySem.call (.builtin "str.maketrans") [.ref D]) Q E s := by
  obtain ⟨t1, t2, t3, t4, rfl⟩ := four_of hps
  · refine wpAny_call (codeAny_call_builtin mtr_plain mtr_entry (wpAny_of_eq (mtr_check _) (mtr_tree (N _ hD).1 hm fun h' tk I k => ?_)))
    have hL : s.heap.objs.size ≠ L := Nat.ne_of_gt F.ns.lt
    have h0 : h₀.get? s.heap.objs.size = none := ktu_new F (Nat.le_refl _)
    obtain ⟨o, es, ep, e1, r⟩ := I
    exact hQ _ o h' tk (F.keeps k) (List.forall_mem_cons.mpr ⟨⟨e1, hL, h0⟩, fun p hp => ⟨k _ _ (N p hp).1, (N p hp).2⟩⟩) (fun p hp => Heap.lt_size (N p hp).1) fun h e => ⟨o, es, ep, e, r⟩
end
end Mine
end
-- part Tl
section
open PySem PySem.W PySem.Spec PySem.Calls PyProof.Rows Builtin Builtin.ObjectAttr
namespace Mine
section
variable {prog : Program} {w : World} {A : Around} {E : Value → Shared → Prop} {s : Shared} {Q : Builtin.Str.Mapped → Shared → Prop} {T : Addr} {c : Nat}
theorem tl_sub : isSubtype (.type "KeyError") (.type "LookupError") = pure true := by rw [isSubtype_type]; kernel_rfl
theorem tl_drop (hc : valueAt tabL (c : Int) = some .none) (hT : s.heap.DictOf (intKind prog w) T tabL) (h : ∀ tk, Q .drop { s with toks := tk }) : wpAny (model prog w) A (Builtin.Str.tableLookup (.ref T) c) Q E s := by
  unfold Builtin.Str.tableLookup
  refine wpAny_bind (wpAny_attempt (wpAny_bind (wpAny_mkInt ?_)))
  refine wpAny_getItem_of (knd := intKind prog w) (k := (c : Int)) (by simp [intKind, Value.isInt]) hT.mapOf hc ?_
  exact wpAny_pure (h _)
theorem tl_keep (hh : A.handled = none) (hc : valueAt tabL (c : Int) = none) (hl : (T == sysModules) = false) (hT : s.heap.DictOf (intKind prog w) T tabL) (h : ∀ h' tk, (∀ b o, s.heap.get? b = some o → h'.get? b = some o) → Q .keep { s with heap := h', toks := tk }) : wpAny (model prog w) A (Builtin.Str.tableLookup (.ref T) c) Q E s := by
  unfold Builtin.Str.tableLookup
  refine wpAny_bind (wpAny_attempt (wpAny_bind (wpAny_mkInt ?_)))
  refine wpAny_getItem_missing_of (knd := intKind prog w) (k := (c : Int)) (by simp [intKind, Value.isInt]) hl hh hT.mapOf hc fun h' e x => ?_
  obtain ⟨ob, t, e1, e2, e3⟩ := x.there
  have L1 : Looks (model prog w) h' (typeOf (.ref e)) (.type "KeyError") := e2 ▸ (Looks.ld e1).andThen .now
  have L2 : Looks (model prog w) h' (isSubtype (.type "KeyError") (.type "LookupError")) true := Looks.of_pure tl_sub
  dsimp only
  unfold isInstance
  refine wpAny_bind (wpAny_bind (L1.at (L2.at ?_)))
  exact wpAny_bind (wpAny_rule (wpAny_pure (h _ _ x.keeps)))
end
end Mine
end
-- part Trn
section
open PySem PySem.W PySem.Spec PySem.Calls PyProof.Rows Builtin Builtin.ObjectAttr
namespace Mine
section
variable {prog : Program} {w : World} {A : Around} {E : Value → Shared → Prop} {s : Shared} {h₀ : Heap} {L : Addr} {m : Str → Option Value} {news : List (Addr × Obj)}
theorem tr_l3 : typeLookup (.type "str") "translate" = pure (some (.builtin "str.translate")) := by rw [typeLookup_type, builtinLookup_eq_fast]; kernel_rfl
theorem tr_l4 : typeOf (.builtin "str.translate") = pure (.type "method_descriptor") := by show builtinType _ = _; rw [builtinType_eq_fast]; kernel_rfl
theorem tr_method {x : Str} {t : Tok} {pl : Sem Bool} {Q : Value × List Value → Shared → Prop} (h : Q (.builtin "str.translate", [.str x t]) s) : wpAny (model prog w) A (getMethod (.str x t) (Str.ofString "translate") pl) Q E s := by
  obtain ⟨hp, g, d, tk, os⟩ := s
  have L0 : Looks (model prog w) hp (typeOf (.str x t)) (.type "str") := Looks.of_pure rfl
  have L1 : Looks (model prog w) hp (typeLookup (.type "str") "__getattribute__") _ := Looks.of_pure PySem.F.slot_str_getattribute.lookup
  have L2 : Looks (model prog w) hp (typeLookup (.type "str") "__getattr__") _ := Looks.of_pure mt_l2
  have L3 : Looks (model prog w) hp (typeLookup (.type "str") "translate") _ := Looks.of_pure tr_l3
  have L4 : Looks (model prog w) hp (typeOf (.builtin "str.translate")) _ := Looks.of_pure tr_l4
  have hcan := PySem.F.canon_object_ga
  unfold getMethod specialOf
  refine wpAny_bind (wpAny_bind (L0.at (L1.at ?_)))
  dsimp only
  rw [hcan, if_neg (by decide)]
  refine wpAny_bind (wpAny_bind (L0.at (L2.at ?_)))
  refine wpAny_bind (wpAny_bind (L0.at (L3.at (wpAny_bind (L4.at ?_)))))
  rw [if_neg (by decide +kernel)]
  exact wpAny_bind (wpAny_rule (wpAny_pure h))
noncomputable abbrev TrS := List Str × Nat × Bool × List (Nat × Option Nat) × Bool
theorem tab_two (x : Int) : valueAt tabL x = none ∨ valueAt tabL x = some .none := by
  unfold valueAt tabL
  simp only [List.find?_cons, List.find?_nil]
  repeat' split
  all_goals first | exact .inl rfl | exact .inr rfl
theorem tab_keeps {h h' : Heap} {T : Addr} (hT : h.DictOf (intKind prog w) T tabL) (k : ∀ b o, h.get? b = some o → h'.get? b = some o) : h'.DictOf (intKind prog w) T tabL :=
  let ⟨o, es, ep, ho, r⟩ := hT; ⟨o, es, ep, k _ _ ho, r⟩
noncomputable def kept (c : Nat) : Bool := (valueAt tabL (c : Int)).isNone
theorem tr_loop {T : Addr} (f : Nat → TrS → Sem (ForInStep TrS))
    (hk : ∀ (c : Nat) (ps : List Str) (n : Nat) (kn : List (Nat × Option Nat)) (s : Shared) (Q : ForInStep TrS → Shared → Prop), c < 128 → valueAt tabL (c : Int) = none → kn.lookup c = none → n ≤ 1000 → s.heap.DictOf (intKind prog w) T tabL →
      (∀ h' tk, (∀ b o, s.heap.get? b = some o → h'.get? b = some o) → Q (.yield (⟨#[c]⟩ :: ps, n + 1, true, (c, some c) :: kn, false)) { s with heap := h', toks := tk }) → wpAny (model prog w) A (f c (ps, n, true, kn, false)) Q E s)
    (hd : ∀ (c : Nat) (ps : List Str) (n : Nat) (kn : List (Nat × Option Nat)) (s : Shared) (Q : ForInStep TrS → Shared → Prop), c < 128 → valueAt tabL (c : Int) = some .none → kn.lookup c = none → n ≤ 1000 → s.heap.DictOf (intKind prog w) T tabL →
      (∀ h' tk, (∀ b o, s.heap.get? b = some o → h'.get? b = some o) → Q (.yield (ps, n, true, (c, none) :: kn, false)) { s with heap := h', toks := tk }) → wpAny (model prog w) A (f c (ps, n, true, kn, false)) Q E s) :
    ∀ (l : List Nat) (ps : List Str) (n : Nat) (kn : List (Nat × Option Nat)) (s : Shared) (Q : TrS → Shared → Prop), l.Nodup → (∀ c ∈ l, c < 128 ∧ kn.lookup c = none) → n + l.length ≤ 1000 → s.heap.DictOf (intKind prog w) T tabL →
      (∀ h' tk kn' n', n' ≤ 1000 → (∀ b o, s.heap.get? b = some o → h'.get? b = some o) → Q (((l.filter kept).map fun c => (⟨#[c]⟩ : Str)).reverse ++ ps, n', true, kn', false) { s with heap := h', toks := tk }) →
      wpAny (model prog w) A (forIn l ((ps, n, true, kn, false) : TrS) f) Q E s := by
  intro l
  induction l with
  | nil =>
    intro ps n kn s Q _ _ hn _ hQ
    rw [List.forIn_nil]
    exact wpAny_pure (by simpa using hQ s.heap s.toks kn n (by simpa using hn) fun _ _ e => e)
  | cons c l ih =>
    intro ps n kn s Q hnd hc hn hT hQ
    rw [List.forIn_cons]
    rw [List.nodup_cons] at hnd
    rw [List.length_cons] at hn
    obtain ⟨hc1, hc2⟩ := hc c (.head _)
    have rest : ∀ (v : Option Nat) (c' : Nat), c' ∈ l → c' < 128 ∧ ((c, v) :: kn).lookup c' = none := fun v c' hm => by
      refine ⟨(hc c' (.tail _ hm)).1, ?_⟩
      have hne : (c' == c) = false := beq_eq_false_iff_ne.mpr fun q => hnd.1 (q ▸ hm)
      simp only [List.lookup, hne]
      exact (hc c' (.tail _ hm)).2
    rcases tab_two (c : Int) with hv | hv
    · refine wpAny_bind (hk c ps n kn s _ hc1 hv hc2 (by omega) hT fun h1 tk1 k1 => ?_)
      refine ih _ _ _ _ Q hnd.2 (rest _) (by omega) (tab_keeps hT k1) fun h' tk kn' n' hn' k => ?_
      have hkc : kept c = true := by unfold kept; rw [hv]; rfl
      have := hQ h' tk kn' n' hn' fun b o e => k b o (k1 b o e)
      rw [List.filter_cons, if_pos hkc, List.map_cons, List.reverse_cons, List.append_assoc] at this
      exact this
    · refine wpAny_bind (hd c ps n kn s _ hc1 hv hc2 (by omega) hT fun h1 tk1 k1 => ?_)
      refine ih _ _ _ _ Q hnd.2 (rest _) (by omega) (tab_keeps hT k1) fun h' tk kn' n' hn' k => ?_
      have hkc : ¬ kept c = true := by unfold kept; rw [hv]; decide
      have := hQ h' tk kn' n' hn' fun b o e => k b o (k1 b o e)
      rw [List.filter_cons, if_neg hkc] at this
      exact this
theorem ones_fold (l : List Nat) : List.foldl (fun acc (p : Str) => acc ++ p.cps) #[] (l.map fun c => (⟨#[c]⟩ : Str)) = l.toArray := by
  have : ∀ (l : List Nat) (a : Array Nat), List.foldl (fun acc (p : Str) => acc ++ p.cps) a (l.map fun c => (⟨#[c]⟩ : Str)) = a ++ l.toArray := by
    intro l
    induction l with
    | nil => intro a; simp
    | cons c l ih => intro a; rw [List.map_cons, List.foldl_cons, ih]; simp
  rw [this]; simp
theorem tr_tree (hh : A.handled = none) {X : Str} {tX : Tok} {T : Addr} {P : PySem.Fin → Shared → Prop} (hX : (X.length == 0) = false) (ha : X.cps.all (· < 128) = true) (hnd : X.cps.toList.Nodup) (hz : X.cps.size ≤ 900) (hl : (T == sysModules) = false) (hT : s.heap.DictOf (intKind prog w) T tabL)
    (hP : ∀ h' tk tr, (∀ b o, s.heap.get? b = some o → h'.get? b = some o) → P (.done (.ret (.str ⟨(X.cps.toList.filter kept).toArray⟩ tr))) { s with heap := h', toks := tk }) :
    wpAny (model prog w) A (Builtin.«str.translate» ⟨[.str X tX, .ref T], []⟩) P E s := by
  unfold Builtin.«str.translate»
  repeat ((fail_if_success (with_reducible show wpAny _ _ (ite ((X.length == 0) = true) _ _) _ _ _)); lk)
  rw [if_neg (by rw [hX]; decide)]
  refine wpAny_bind ?_
  rw [ha, ← Array.forIn_toList]
  refine tr_loop (T := T) _ ?hk ?hd X.cps.toList [] 0 [] s _ hnd ?hc ?hn hT ?hQ
  case hk =>
    intro c ps n kn s1 Q h1 h2 h3 h4 h5 h6
    have ht : ¬ (Builtin.Str.tooLong n = true) := by unfold Builtin.Str.tooLong; rw [sizeLine_eq]; simp; omega
    obtain ⟨hp, g, d, tk, os⟩ := s1
    dsimp only
    rw [if_neg ht, if_pos rfl, h3]
    repeat ((fail_if_success (with_reducible show wpAny _ _ (Builtin.Str.tableLookup _ _) _ _ _)); lk)
    refine tl_keep hh h2 hl h5 fun h' tk k => ?_
    dsimp only
    repeat lk
    exact h6 h' tk k
  case hd =>
    intro c ps n kn s1 Q h1 h2 h3 h4 h5 h6
    have ht : ¬ (Builtin.Str.tooLong n = true) := by unfold Builtin.Str.tooLong; rw [sizeLine_eq]; simp; omega
    obtain ⟨hp, g, d, tk, os⟩ := s1
    dsimp only
    rw [if_neg ht, if_pos rfl, h3]
    repeat ((fail_if_success (with_reducible show wpAny _ _ (Builtin.Str.tableLookup _ _) _ _ _)); lk)
    refine tl_drop h2 h5 fun tk => ?_
    dsimp only
    repeat lk
    exact h6 hp tk fun _ _ e => e
  case hc =>
    intro c hc
    rw [← Array.all_toList, List.all_eq_true] at ha
    exact ⟨by simpa using ha c hc, rfl⟩
  case hn => rw [Array.length_toList]; omega
  case hQ =>
    intro h' tk kn' n' hn' k
    have ht : ¬ (Builtin.Str.tooLong n' = true) := by unfold Builtin.Str.tooLong; rw [sizeLine_eq]; simp; omega
    dsimp only
    rw [if_neg ht, List.append_nil, List.reverse_reverse, ones_fold]
    unfold retStr
    refine wpAny_bind (wpAny_mkStr ?_ ?_)
    · exact wpAny_pure (hP h' _ _ k)
    · have := List.length_filter_le kept X.cps.toList
      have e9 := Array.length_toList (xs := X.cps)
      show (List.filter kept X.cps.toList).length ≤ sizeLine
      rw [sizeLine_eq]; omega
theorem tr_plain : plainId "str.translate" = true := by decide +kernel
theorem tr_entry : entryFor table "str.translate" = some Builtin.«str.translate» := entryFor_of_tree (by kernel_rfl)
theorem tr_slot : Slot "str" "translate" "str.translate" :=
  .of (owner := "str") (n := "translate") (by rw [typeLookup_type, builtinLookup_eq_fast]; kernel_rfl) (by decide +kernel) (by decide +kernel) (by decide +kernel)
    (by first | exact .inl (by decide +kernel) | exact .inr (by decide +kernel)) (by rw [isSubtype_type]; kernel_rfl)
theorem tr_args (a b : Value) : argsOk "str.translate" ⟨[a, b], []⟩ := by unfold argsOk; kernel_rfl
theorem tr_call (hh : A.handled = none) {X : Str} {tX : Tok} {T : Addr} {Q : Value → Shared → Prop} (F : Fr h₀ L s.heap m) (N : News h₀ L s.heap news) (hX : (X.length == 0) = false) (ha : X.cps.all (· < 128) = true) (hnd : X.cps.toList.Nodup) (hz : X.cps.size ≤ 900) (hl : (T == sysModules) = false) (hT : s.heap.DictOf (intKind prog w) T tabL)
    (hQ : ∀ h' tk tr, Fr h₀ L h' m → News h₀ L h' news → Q (.str ⟨(X.cps.toList.filter kept).toArray⟩ tr) { s with heap := h', toks := tk }) :
    wpAny (model prog w) A (PySem.call (.builtin "str.translate") [.str X tX, .ref T]) Q E s := by
  refine wpAny_call_entry tr_slot (by rfl) tr_entry (tr_tree (A := A.in1) (by exact hh) hX ha hnd hz hl hT fun h' tk tr k => ⟨_, rfl, hQ h' tk tr (F.keeps k) fun p hp => ⟨k _ _ (N p hp).1, (N p hp).2⟩⟩) (tr_args _ _)
end
end Mine
end
-- part Sx3
section
namespace Mine
noncomputable def lawBody : List Stmt := bodyOf (defAt 31)
noncomputable def lawScope : Scope := scopeOf (defAt 31)
noncomputable abbrev lawEnv (L : Addr) : Env := envOf (Str.ofString "law") lawScope L 798 (.ref 797)
section
variable {w : World} {dp un : Nat} {gd : Option (List Code)} {A₀ : Around} {base h₀ : Heap} {L : Addr} {m : Str → Option Value} {s : Shared} {p : Program} {loose : List Str} {mean : ExcName → Option Value} {mg mb : Str → Option Value} {env : Env} {outer : List Env} {Q : Value → Shared → Prop} {E : Value → Shared → Prop} {news : List (Addr × Obj)}
theorem notmods_of {D : Addr} {o : Obj} (X : (Mine.KK w.params).In h₀) {h' : Heap} (N : News h₀ L h' news) (hm : (D, o) ∈ news) : (D == sysModules) = false := by
  have h1 := (N _ hm).2.2
  rw [beq_eq_false_iff_ne]
  intro e
  have := X 1 _ rfl
  rw [show D = 1 from e] at h1
  rw [h1] at this
  cases this
theorem fk_getN {K : Frag} {A : Around} {pl : Sem Bool} {Q : Value × List Value → Shared → Prop} (F : Fr h₀ L s.heap m) (N : News h₀ L s.heap news) (X₀ : K.In h₀)
    (e : findCls K (.type "dict") (.type "type") (Str.ofString "fromkeys") = some (.get (.builtin "classmethod_descriptor.__get__") (.builtin "dict.fromkeys") .none (.type "dict")))
    (h : ∀ x h', Fr h₀ L h' m → News h₀ L h' ((x, fkB) :: news) → (∀ p ∈ news, p.1 < x) → Q (.ref x, []) { s with heap := h', toks := s.toks + 1 }) :
    wpAny (model PG w) A (getMethod (.type "dict") (Str.ofString "fromkeys") pl) Q E s :=
  fk_getm F X₀ e (h _ _ (F.push _) (N.push F _) fun p hp => Heap.lt_size (N p hp).1)
theorem getL_new {name : Str} : ∀ {es : List DictEntry}, getL name es = some none → ∀ e ∈ es, e.key.isStr name = false := by
  intro es h e he
  unfold getL at h
  cases hf : es.find? (·.key.isStr name) with
  | none => exact Bool.not_eq_true _ ▸ List.find?_eq_none.mp hf e he
  | some e' => rw [hf] at h; exact nomatch h
theorem putL_new {name : Str} {hsh : Int} {key v : Value} : ∀ {es : List DictEntry}, (∀ e ∈ es, e.key.isStr name = false) → putL name hsh key v es = es ++ [⟨hsh, key, v⟩]
  | [], _ => rfl
  | e :: r, h => by
    unfold putL
    rw [h e (.head _), putL_new fun e he => h e (.tail _ he)]
    rfl
theorem putN_new {name : Str} {es : List DictEntry} {n : Nat} (h : ∀ e ∈ es, e.key.isStr name = false) : putN name es n = n + 1 := by
  unfold putN
  rw [if_neg]
  intro z
  obtain ⟨e, he, h2⟩ := List.any_eq_true.mp z
  rw [h e he] at h2; cases h2
theorem updF_upd {d : Addr} {o o' : Obj} : ∀ {l : List (Addr × Obj)} {g : Obj → List (Addr × Obj)}, UpdF d o l g → Upd d o o' l (g o')
  | _, _, .head h => .head h
  | _, _, .tail h r => .tail h (updF_upd r)
theorem set_fresh {K : Frag} {A : Around} {x C dx : Addr} {ox : Obj} {es : List DictEntry} {n : Nat} {nm : String} {v : Value} {g : Obj → List (Addr × Obj)} {Q : Unit → Shared → Prop} (F : Fr h₀ L s.heap m) (X₀ : K.In h₀) (N : News h₀ L s.heap news) (I : InstAt s.heap x ox C (some (dictOf es n))) (hd : ox.dict = some dx)
    (hs : findIn K (.ref C) "__setattr__" = some (some (.builtin "object.__setattr__"))) (hp : plainOver K C = true) (ht : takerIn K C (Str.ofString nm) = some none) (hh : hasDictIn K C = true) (hl : getL (Str.ofString nm) es = some none)
    (U : UpdF dx (dictOf es n) news g) (hz : es.length + 1 ≤ 1000)
    (h : ∀ h' t k, Fr h₀ L h' m → News h₀ L h' (g (dictOf (es ++ [ent w nm t v]) (n + 1))) → Q () { s with heap := h', toks := k }) :
    wpAny (model PG w) A (setAttr (.ref x) (Str.ofString nm) v) Q E s :=
  have hne := getL_new hl
  set_dict F X₀ N I hd hs hp ht hh (by rw [hl]; rfl) (Prod.ext (putL_new hne) (putN_new hne)) (updF_upd U) (by rw [List.length_append]; exact hz) fun h' F' N' => h h' _ _ F' N'
noncomputable abbrev gdT (l : List Tok) : Nat → Tok := fun i => l.getD i 0
theorem shx_ct {page : Str} {t tq : Tok} (B : Below A₀ base outer h₀) (F : Fr h₀ L s.heap m) (X : (Mine.KK w.params).In h₀)
  (N : News h₀ L s.heap news)
  (T : Top p loose mean mg mb h₀) (hf : env.frame = some L) (hke : env.scope.kind = .function) (hd : dp + 40 < 1000) (hl : page.length ≤ 1048576)
  (hQ : ∀ (x d b e q1 q2 q3 : Addr) h' k' (tt : Nat → Tok) (u1 u2 u3 u4 u5 u6 ts tl tk : Tok), Fr h₀ L h' m →
    News h₀ L h' ((x, instObj 756 d) :: (d, lexD w tt b q1 q2 q3 (.str " " ts) (.int 1 tl) (.str "" tk)) :: (b, instObj 621 e) :: (e, sioD w u1 u2 u3 (.str "\n" u4) (.str page u5) (.int 0 u6)) :: (q1, dqObj 0 []) :: (q3, dqObj 0 []) :: (q2, dqObj 0 []) :: news) →
    (∀ p ∈ news, @LT.lt Nat _ p.1 d) → @LT.lt Nat _ d x → @LT.lt Nat _ x e → @LT.lt Nat _ e b → @LT.lt Nat _ b q1 → @LT.lt Nat _ q1 q2 → @LT.lt Nat _ q2 q3 → Q (.ref x) { s with heap := h', toks := k' }) :
  wpAny (model PG w) (Around.mk none dp (some (env :: outer)) gd un) (call (.ref 756) [.str page t] [(Str.ofString "posix", .bool false), (Str.ofString "punctuation_chars", .str (Str.ofString "<>/=") tq)]) Q E s := by
  refine wpAny_call ?_
  refine' make_K (fI := 680) F N (X.keeps F.keep) ?m1 ?m2 ?m3 ?_
  (case m1 => k_is)
  (case m2 => k_is)
  (case m3 => k_is)
  intro x dx h1 F1 N1 l1 l2
  have hs : ∀ q ∈ [(x, instObj 756 dx), (dx, emptyDict)], q ∈ (x, instObj 756 dx) :: (dx, emptyDict) :: news := (List.forall_mem_cons.mpr ⟨.head _, List.forall_mem_cons.mpr ⟨.tail _ (.head _), List.forall_mem_nil _⟩⟩)
  have hxd : @Ne Nat x dx := Nat.ne_of_gt l2
  refine' call_small (binds := [(Str.ofString "self", .ref x), (Str.ofString "instream", .str page t), (Str.ofString "infile", .none), (Str.ofString "posix", .bool false), (Str.ofString "punctuation_chars", .str (Str.ofString "<>/=") tq)]) (small := [(x, instObj 756 dx), (dx, emptyDict)]) B F1 X N1 hs T ?kA hf hke ?k6 ?k7 ?k8 ?k9 ?kB ?_ ?c2 ?c3 ?c4 ?c5
  (case kA => exact rfl)
  (case k6 => k_is)
  (case k7 => k_is)
  (case k8 => (simp only [depth_under_make, depth_under_kw]; (show _ < 1000); omega))
  (case k9 => first | exact BindsTo.of_eq rfl | exact binds_K (by k_in) rfl (by k_is) rfl rfl rfl)
  (case kB => exact locs rfl)
  (case c2 => exact rfl)
  (case c3 => exact rfl)
  (case c4 => exact rfl)
  (case c5 => decide)
  intro g L' h₁ F' N' B' X' T' kg
  k_fold
  have N0 := fun (_ : Unit) => N1
  clear N1 N
  (try dsimp only)
  (try k_fold)
  repeat ((fail_if_success (with_reducible show Q _ _)); (first | ((with_reducible show Heap.get? _ _ = some fkB); (rename News _ _ _ _ => N9; exact N9.get (by k_mem))) | (first | (focus ((with_reducible show wpAny _ _ (PySem.call (Value.builtin "str.translate") _ _) _ _ _); k_dflt (refine' tr_call ?hh ?F ?N ?hX ?ha ?hnd ?hz ?hl ?hT ?_; (case hh => rfl); (case F | N => k_asm); (case hX | ha | hnd | hz => decide +kernel); (case hl => exact notmods_of (by k_asm) (by k_asm) (by k_mem)); (case hT => exact (by assumption : TabO PG w _ _) _ (News.get (by k_asm) (by k_mem)))); intro h' tk' tr' F' N')) | (focus ((with_reducible show wpAny _ _ (PySem.call (Value.builtin "str.maketrans") _ _) _ _ _); k_dflt (refine' mtr_call ?F ?N ?hD ?hps ?hm ?_; (case F | N => k_asm); (case hD => k_mem); (case hps => (refine Eq.trans (by assumption) ?_; decide +kernel)); (case hm => exact notmods_of (by k_asm) (by k_asm) (by k_mem))); intro T' o' h' tk' F' N' ly1 tab'; (try k_lt ly1))) | (focus ((with_reducible show wpAny _ _ (PySem.call (Value.ref _) [Value.str _ _] _) _ _ _); k_dflt (refine' fk_call ?hh ?F ?N ?hx ?ha ?hnd ?hz ?_; (case hh => rfl); (case F | N => k_asm); (case hx => exact (News.get (by k_asm) (by k_mem))); (case ha | hnd | hz => decide +kernel)); intro D' h' tk' ps' n' F' N' ly1 e1; (try k_lt ly1))) | (focus ((with_reducible show And _ _); refine' And.intro ?z1 ?z2; (case z1 => (rename News _ _ _ _ => N9; exact N9.get (by k_mem))))) | (focus ((with_reducible show wpAny _ _ (callWith _ (Value.ref _) ..) _ _ _); k_dflt (refine' fk_callWith ?hu ?he ?_; (case hu => exact (News.get (by k_asm) (by k_mem))); (case he => rfl)))) | (focus ((with_reducible show wpAny _ _ (getMethod (Value.type "dict") _ _) _ _ _); k_dflt (refine' fk_getN ?F ?N ?X ?e ?_; (case F | N | X => k_asm); (case e => k_is)); intro x' h' F' N' ly1; (try k_lt ly1); (try k_sweep))) | (focus ((with_reducible show wpAny _ _ (getMethod (Value.str _ _) (Str.ofString "translate") _) _ _ _); (refine tr_method ?_); (try dsimp only))) | (focus ((with_reducible show wpAny _ _ (getMethod (Value.str _ _) (Str.ofString "maketrans") _) _ _ _); (refine mt_method ?_); (try dsimp only))) | (focus ((with_reducible show wpAny _ _ (setAttr (Value.ref _) _ _) _ _ _); k_dflt (refine' set_fresh ?k1 ?k2 ?k3 ?k4 ?k5 ?k6 ?k7 ?k8 ?k9 ?k10 ?k11 ?k12 ?_; (case k1 | k2 | k3 => k_asm); (case k4 => k_inst); (case k5 => exact rfl); (case k6 | k7 | k8 | k9 => k_is); (case k10 => k_get); (case k11 => k_updF); (case k12 => exact Nat.le_of_ble_eq_true rfl)); intro h' ta9 k9 F' N'; (try dsimp only [List.cons_append, List.nil_append, Nat.reduceAdd] at N'); (try k_sweep))) | (focus ((with_reducible show wpAny _ _ (PySem.call (Value.type "collections.deque") _ _) _ _ _); k_dflt (refine' dq_make ?F ?N ?_; (case F | N => k_asm)); intro q' h' F' N' ly1; (try k_lt ly1); (try k_sweep))) | (focus ((with_reducible show wpAny _ _ (PySem.call (Value.ref 621) _ _) _ _ _); k_dflt (refine' sio_ct ?B ?F ?X ?N ?T ?hf ?hke ?hd ?hl ?_; (case B | F | X | N | T => k_asm); (case hf | hke => exact rfl); (case hd => ((try simp only [depth_under_make, depth_under_kw, depth_deeper, depth_in1]); (try dsimp only [Around.deeper]); omega)); (case hl => assumption)); intro b' e' h' k' u1' u2' u3' u4' u5' u6' F' N' ly1 ly2; (try k_lt ly1))) | walk_at "one step")))
  rename News _ _ _ _ => N9
  rename Fr h₀ _ _ _ => F9
  dsimp only at N9 F9 ⊢
  have M := fun (_ : Unit) => N9
  refine' hQ x dx _ _ _ _ _ _ _ _ _ _ _ _ _ _ _ _ _ F9 ?hN l1 l2 ?g1 ?g2 ?g3 ?g4 ?g5
  case hN =>
    have R := news_rw (s := { s with heap := h1 }) (us := [(dx, lexD w (gdT [_, _, _, _, _, _, _, _, _, _, _, _, _, _, _, _, _, _, _, _, _, _, _, _, _, _, _, _, _]) _ _ _ _ (.str " " _) (.int 1 _) (.str "" _))]) (N0 ()) kg (by assumption) N9 hs
      (List.forall_mem_cons.mpr ⟨.tail _ (.tail _ (.tail _ (.tail _ (.tail _ (.tail _ (.tail _ (.tail _ (.tail _ (.head _))))))))), List.forall_mem_nil _⟩)
      (List.forall_mem_cons.mpr ⟨.inr (by k_mem), List.forall_mem_cons.mpr ⟨.inl ⟨_, .head _, rfl⟩, List.forall_mem_nil _⟩⟩)
      (.miss (List.forall_mem_cons.mpr ⟨Ne.symm hxd, List.forall_mem_nil _⟩) (.hit (.head _) (Rw.same fun q hq => List.forall_mem_cons.mpr ⟨Nat.ne_of_gt (l1 q hq), List.forall_mem_nil _⟩)))
    refine' List.forall_mem_cons.mpr ⟨R _ (.head _), List.forall_mem_cons.mpr ⟨R _ (.tail _ (.head _)), List.forall_mem_cons.mpr ⟨N9 _ ?n1, List.forall_mem_cons.mpr ⟨N9 _ ?n2, List.forall_mem_cons.mpr ⟨N9 _ ?n3, List.forall_mem_cons.mpr ⟨N9 _ ?n4, List.forall_mem_cons.mpr ⟨N9 _ ?n5, fun q hq => R q (.tail _ (.tail _ hq))⟩⟩⟩⟩⟩⟩⟩
    all_goals k_mem
  all_goals (first | assumption | omega)
end
end Mine
end
-- part Pw
section
open PySem PySem.Builtin PySem.Builtin.Str PySem.StrLaws
namespace Mine
theorem rep_skip {a : Nat} {p z : List Nat} : ∀ {u : List Nat} (rest : List Nat), (∀ x ∈ u, x ≠ a) → rep (a :: p) z (u ++ rest) = u ++ rep (a :: p) z rest
  | [], _, _ => rfl
  | c :: u, rest, h => by
    have hc : (a :: p).isPrefixOf (c :: (u ++ rest)) = false := by
      show (a == c && _) = false
      rw [show (a == c) = false from by simpa using fun e : a = c => h c (.head _) e.symm, Bool.false_and]
    rw [List.cons_append, rep_cons _ _ (by simp), hc, if_neg Bool.false_ne_true, rep_skip rest fun x hx => h x (.tail _ hx), List.cons_append]
theorem rep_hit {p z : List Nat} (hp : 1 ≤ p.length) (rest : List Nat) : rep p z (p ++ rest) = z ++ rep p z rest := by
  cases p with
  | nil => exact absurd hp (by decide)
  | cons a p =>
    have h : (a :: p).isPrefixOf (a :: (p ++ rest)) = true := List.isPrefixOf_iff_prefix.mpr ⟨rest, by simp⟩
    rw [List.cons_append, rep_cons _ _ hp, h, if_pos rfl]
    congr 2
    rw [← List.cons_append]
    exact List.drop_left
theorem rep_miss {a : Nat} {p z q : List Nat} (rest : List Nat) (h : (a :: p).isPrefixOf ((a :: q) ++ rest) = false) (hq : ∀ x ∈ q, x ≠ a) : rep (a :: p) z ((a :: q) ++ rest) = (a :: q) ++ rep (a :: p) z rest := by
  rw [List.cons_append] at h ⊢
  rw [rep_cons _ _ (by simp), h, if_neg Bool.false_ne_true, rep_skip rest hq, List.cons_append]
theorem rep_flat {p z : List Nat} {e e' : Nat → List Nat} (h : ∀ c rest, rep p z (e c ++ rest) = e' c ++ rep p z rest) : ∀ l : List Nat, rep p z (l.flatMap e) = l.flatMap e'
  | [] => rfl
  | c :: l => by rw [List.flatMap_cons, List.flatMap_cons, h, rep_flat h l]
noncomputable def enc (c : Nat) : List Nat := if c = 38 then [38, 97, 109, 112, 59] else if c = 62 then [38, 103, 116, 59] else if c = 60 then [38, 108, 116, 59] else if c = 10 then [38, 35, 49, 48, 59] else if c = 13 then [38, 35, 49, 51, 59] else if c = 9 then [38, 35, 57, 59] else if c = 34 then [38, 113, 117, 111, 116, 59] else [c]
noncomputable def spc : List Nat := [38, 62, 60, 10, 13, 9, 34]
noncomputable def ee (K : List Nat) (c : Nat) : List Nat := if c ∈ K then enc c else [c]
theorem enc_shape : ∀ c ∈ spc, ∃ q, enc c = 38 :: q ∧ (∀ x ∈ q, x ∈ [97, 109, 112, 59, 103, 116, 108, 35, 49, 48, 51, 57, 113, 117, 111]) ∧ q.length ≤ 5 := by
  intro c hc
  simp only [spc, List.mem_cons, List.not_mem_nil, or_false] at hc
  rcases hc with rfl | rfl | rfl | rfl | rfl | rfl | rfl
  all_goals exact ⟨_, rfl, by decide, by decide⟩
theorem enc_apart : ∀ a ∈ spc, ∀ c ∈ spc, a ≠ c → ∀ rest, (enc a).isPrefixOf (enc c ++ rest) = false := by
  intro a ha c hc
  simp only [spc, List.mem_cons, List.not_mem_nil, or_false] at ha hc
  rcases ha with rfl | rfl | rfl | rfl | rfl | rfl | rfl <;> rcases hc with rfl | rfl | rfl | rfl | rfl | rfl | rfl
  all_goals (intro h rest; first | exact absurd rfl h | rfl)
theorem fwd {a : Nat} {K : List Nat} (haK : a ∉ K) (hK : ∀ k ∈ K, a ∉ enc k) (l : List Nat) : rep [a] (enc a) (l.flatMap (ee K)) = l.flatMap (ee (a :: K)) := by
  refine rep_flat (fun c rest => ?_) l
  by_cases hc : c = a
  · subst hc
    rw [show ee K c = [c] from if_neg haK, show ee (c :: K) c = enc c from if_pos (.head _)]
    exact rep_hit (by simp) rest
  · have e : ee (a :: K) c = ee K c := by
      unfold ee
      by_cases hk : c ∈ K
      · rw [if_pos hk, if_pos (.tail _ hk)]
      · rw [if_neg hk, if_neg (by simp [hc, hk])]
    rw [e]
    refine rep_skip rest fun x hx he => ?_
    subst he
    unfold ee at hx
    by_cases hk : c ∈ K
    · rw [if_pos hk] at hx; exact hK c hk hx
    · rw [if_neg hk] at hx; exact hc (List.mem_singleton.mp hx).symm
theorem bwd {a : Nat} {K K' : List Nat} (hs : ∀ k ∈ K, k ∈ spc) (haK : a ∈ K) (h38 : 38 ∈ K) (hK' : ∀ c, c ∈ K' ↔ c ∈ K ∧ c ≠ a) (l : List Nat) : rep (enc a) [a] (l.flatMap (ee K)) = l.flatMap (ee K') := by
  obtain ⟨q, hq, hq2, _⟩ := enc_shape a (hs a haK)
  refine rep_flat (fun c rest => ?_) l
  by_cases hc : c = a
  · subst hc
    rw [show ee K c = enc c from if_pos haK, show ee K' c = [c] from if_neg fun h => ((hK' c).mp h).2 rfl]
    exact rep_hit (by rw [hq]; simp) rest
  · by_cases hk : c ∈ K
    · rw [show ee K c = enc c from if_pos hk, show ee K' c = enc c from if_pos ((hK' c).mpr ⟨hk, hc⟩)]
      obtain ⟨r, hr, hr2, _⟩ := enc_shape c (hs c hk)
      have := enc_apart a (hs a haK) c (hs c hk) (Ne.symm hc) rest
      rw [hq, hr] at this ⊢
      exact rep_miss rest this fun x hx => (show ∀ y ∈ [97, 109, 112, 59, 103, 116, 108, 35, 49, 48, 51, 57, 113, 117, 111], y ≠ 38 by decide) x (hr2 x hx)
    · rw [show ee K c = [c] from if_neg hk, show ee K' c = [c] from if_neg fun h => hk ((hK' c).mp h).1, hq]
      exact rep_skip rest fun x hx he => by
        rw [List.mem_singleton.mp hx] at he
        exact hk (he ▸ h38)
theorem ee_nil (l : List Nat) : l.flatMap (ee []) = l := by
  induction l with
  | nil => rfl
  | cons c l ih => rw [List.flatMap_cons, ih]; rfl
theorem ee_len {K : List Nat} (hs : ∀ k ∈ K, k ∈ spc) : ∀ l : List Nat, (l.flatMap (ee K)).length ≤ 6 * l.length
  | [] => Nat.le_refl _
  | c :: l => by
    rw [List.flatMap_cons, List.length_append, List.length_cons]
    have h := ee_len hs l
    have h1 : (ee K c).length ≤ 6 := by
      unfold ee
      by_cases hk : c ∈ K
      · rw [if_pos hk]
        obtain ⟨q, hq, _, hl⟩ := enc_shape c (hs c hk)
        rw [hq, List.length_cons]; omega
      · rw [if_neg hk]; show 1 ≤ 6; omega
    omega
theorem ee_mem {K : List Nat} (hs : ∀ k ∈ K, k ∈ spc) {l : List Nat} {x : Nat} (h : x ∈ l.flatMap (ee K)) : x ∈ [38, 97, 109, 112, 59, 103, 116, 108, 35, 49, 48, 51, 57, 113, 117, 111] ∨ (x ∈ l ∧ x ∉ K) := by
  obtain ⟨c, hc, hx⟩ := List.mem_flatMap.mp h
  unfold ee at hx
  by_cases hk : c ∈ K
  · rw [if_pos hk] at hx
    obtain ⟨q, hq, hq2, _⟩ := enc_shape c (hs c hk)
    rw [hq] at hx
    rcases List.mem_cons.mp hx with rfl | hx
    · exact .inl (.head _)
    · exact .inl (.tail _ (hq2 x hx))
  · rw [if_neg hk] at hx
    obtain rfl := List.mem_singleton.mp hx
    exact .inr ⟨hc, hk⟩
theorem ee_has {K : List Nat} {l : List Nat} {x : Nat} (h : x ∈ l) (hk : x ∉ K) : x ∈ l.flatMap (ee K) := List.mem_flatMap.mpr ⟨x, h, by unfold ee; rw [if_neg hk]; exact .head _⟩
end Mine
end
-- part Pv
section
namespace Mine
theorem q38 : Str.ofString "&" = tx [38] ∧ Str.ofString "&amp;" = tx (enc 38) := by decide +kernel
theorem q62 : Str.ofString ">" = tx [62] ∧ Str.ofString "&gt;" = tx (enc 62) := by decide +kernel
theorem q60 : Str.ofString "<" = tx [60] ∧ Str.ofString "&lt;" = tx (enc 60) := by decide +kernel
theorem q10 : Str.ofString "\n" = tx [10] ∧ Str.ofString "&#10;" = tx (enc 10) := by decide +kernel
theorem q13 : Str.ofString "\r" = tx [13] ∧ Str.ofString "&#13;" = tx (enc 13) := by decide +kernel
theorem q9 : Str.ofString "\t" = tx [9] ∧ Str.ofString "&#9;" = tx (enc 9) := by decide +kernel
theorem q34 : Str.ofString "\"" = tx [34] ∧ Str.ofString "&quot;" = tx (enc 34) := by decide +kernel
theorem q39 : Str.ofString "'" = tx [39] := by decide +kernel
noncomputable abbrev K6 : List Nat := [9, 13, 10, 60, 62, 38]
noncomputable abbrev K7 : List Nat := [34, 9, 13, 10, 60, 62, 38]
theorem K6s : ∀ k ∈ K6, k ∈ spc := by decide
theorem K7s : ∀ k ∈ K7, k ∈ spc := by decide
theorem r_amp1 (l : List Nat) : Txt.replace (tx l) (Str.ofString "&") (Str.ofString "&amp;") = tx (l.flatMap (ee [38])) := by
  rw [q38.1, q38.2, replace_tx _ _ _ (by decide)]
  have := fwd (a := 38) (K := []) (by decide) (by decide) l
  rw [ee_nil] at this
  rw [this]
theorem r_fwd {x y : Str} {a : Nat} {K : List Nat} (h : x = tx [a] ∧ y = tx (enc a)) (haK : a ∉ K) (hK : ∀ k ∈ K, a ∉ enc k) (l : List Nat) : Txt.replace (tx (l.flatMap (ee K))) x y = tx (l.flatMap (ee (a :: K))) := by
  rw [h.1, h.2, replace_tx _ _ _ (by show 1 ≤ 1; omega), fwd haK hK]
theorem enc_len (a : Nat) : 1 ≤ (enc a).length := by
  unfold enc
  repeat' split
  all_goals (simp only [List.length_cons]; omega)
theorem r_bwd {x y : Str} {a : Nat} {K K' : List Nat} (h : x = tx [a] ∧ y = tx (enc a)) (hs : ∀ k ∈ K, k ∈ spc) (haK : a ∈ K) (h38 : 38 ∈ K) (hK' : ∀ c, c ∈ K' ↔ c ∈ K ∧ c ≠ a) (l : List Nat) : Txt.replace (tx (l.flatMap (ee K))) y x = tx (l.flatMap (ee K')) := by
  rw [h.1, h.2, replace_tx _ _ _ (enc_len a), bwd hs haK h38 hK']
theorem r_a2 (l : List Nat) : Txt.replace (tx (l.flatMap (ee [38]))) (Str.ofString ">") (Str.ofString "&gt;") = tx (l.flatMap (ee [62, 38])) := r_fwd q62 (by decide) (by decide) l
theorem r_a3 (l : List Nat) : Txt.replace (tx (l.flatMap (ee [62, 38]))) (Str.ofString "<") (Str.ofString "&lt;") = tx (l.flatMap (ee [60, 62, 38])) := r_fwd q60 (by decide) (by decide) l
theorem r_a4 (l : List Nat) : Txt.replace (tx (l.flatMap (ee [60, 62, 38]))) (Str.ofString "\n") (Str.ofString "&#10;") = tx (l.flatMap (ee [10, 60, 62, 38])) := r_fwd q10 (by decide) (by decide) l
theorem r_a5 (l : List Nat) : Txt.replace (tx (l.flatMap (ee [10, 60, 62, 38]))) (Str.ofString "\r") (Str.ofString "&#13;") = tx (l.flatMap (ee [13, 10, 60, 62, 38])) := r_fwd q13 (by decide) (by decide) l
theorem r_a6 (l : List Nat) : Txt.replace (tx (l.flatMap (ee [13, 10, 60, 62, 38]))) (Str.ofString "\t") (Str.ofString "&#9;") = tx (l.flatMap (ee K6)) := r_fwd q9 (by decide) (by decide) l
theorem r_a7 (l : List Nat) : Txt.replace (tx (l.flatMap (ee K6))) (Str.ofString "\"") (Str.ofString "&quot;") = tx (l.flatMap (ee K7)) := r_fwd q34 (by decide) (by decide) l
theorem amp_is (l : List Nat) : amp (tx l) = tx (l.flatMap (ee [60, 62, 38])) := by
  show Txt.replace (Txt.replace (Txt.replace (tx l) _ _) _ _) _ _ = _
  rw [r_amp1, r_a2, r_a3]
theorem ent3_is (l : List Nat) : ent3 (tx (l.flatMap (ee [60, 62, 38]))) = tx (l.flatMap (ee K6)) := by
  show Txt.replace (Txt.replace (Txt.replace (tx _) _ _) _ _) _ _ = _
  rw [r_a4, r_a5, r_a6]
noncomputable def vK (l : List Nat) : List Nat := if 34 ∈ l ∧ 39 ∈ l then K7 else K6
noncomputable def vM (l : List Nat) : Nat := if 34 ∈ l ∧ 39 ∉ l then 39 else 34
theorem vKs (l : List Nat) : ∀ k ∈ vK l, k ∈ spc := by
  unfold vK; split
  · exact K7s
  · exact K6s
noncomputable def midL (l : List Nat) : List Nat := l.flatMap (ee (vK l))
theorem mem_K6 {l : List Nat} {x : Nat} (hx : x ∈ [34, 39]) : x ∈ l.flatMap (ee K6) ↔ x ∈ l := by
  constructor
  · intro h
    rcases ee_mem K6s h with h | h
    · exact absurd h ((show ∀ y ∈ [34, 39], y ∉ [38, 97, 109, 112, 59, 103, 116, 108, 35, 49, 48, 51, 57, 113, 117, 111] by decide) x hx)
    · exact h.1
  · intro h
    exact ee_has h ((show ∀ y ∈ [34, 39], y ∉ K6 by decide) x hx)
theorem isin_tx (l : List Nat) (c : Nat) : isin (tx l) (tx [c]) = decide (c ∈ l) := isin_one (tx l) c
theorem qv_is (l : List Nat) : qv (tx l) = tx (vM l :: (midL l ++ [vM l])) := by
  unfold qv
  rw [amp_is, ent3_is]
  unfold quo midL
  rw [q34.1, q39, isin_tx, isin_tx]
  by_cases h1 : 34 ∈ l
  · rw [if_pos (decide_eq_true ((mem_K6 (by decide)).mpr h1))]
    by_cases h2 : 39 ∈ l
    · have eM : vM l = 34 := if_neg (fun z => z.2 h2)
      have eK : vK l = K7 := if_pos ⟨h1, h2⟩
      rw [if_pos (decide_eq_true ((mem_K6 (by decide)).mpr h2)), eM, eK, ← q34.1, r_a7, q34.1]
      simp only [tx_app]
      rfl
    · have eM : vM l = 39 := if_pos ⟨h1, h2⟩
      have eK : vK l = K6 := if_neg (fun z => h2 z.2)
      rw [if_neg (by rw [decide_eq_true_eq]; exact fun z => h2 ((mem_K6 (by decide)).mp z)), eM, eK]
      simp only [tx_app]
      rfl
  · have eM : vM l = 34 := if_neg (fun z => h1 z.1)
    have eK : vK l = K6 := if_neg (fun z => h1 z.1)
    rw [if_neg (by rw [decide_eq_true_eq]; exact fun z => h1 ((mem_K6 (by decide)).mp z)), eM, eK]
    simp only [tx_app]
    rfl
theorem mkOf_is (l : List Nat) : mkOf (tx l) = tx [vM l] := by
  unfold mkOf vM
  rw [q34.1, q39, isin_tx, isin_tx]
  by_cases h1 : 34 ∈ l
  · by_cases h2 : 39 ∈ l
    · rw [if_neg (fun z => by rw [decide_eq_true h2] at z; exact Bool.noConfusion z.2), if_neg (fun z => z.2 h2)]
    · rw [if_pos ⟨decide_eq_true h1, decide_eq_false h2⟩, if_pos ⟨h1, h2⟩]
  · rw [if_neg (fun z => by rw [decide_eq_false h1] at z; exact Bool.noConfusion z.1), if_neg (fun z => h1 z.1)]
theorem vM_or (l : List Nat) : vM l = 34 ∨ vM l = 39 := by unfold vM; split <;> simp
theorem but_of {K K' : List Nat} {a : Nat} (h1 : ∀ c ∈ K', c ∈ K ∧ c ≠ a) (h2 : ∀ c ∈ K, c = a ∨ c ∈ K') : ∀ c, c ∈ K' ↔ c ∈ K ∧ c ≠ a := fun c => ⟨h1 c, fun h => (h2 c h.1).resolve_left h.2⟩
theorem un_7 (l : List Nat) : Txt.replace (tx (l.flatMap (ee K7))) (Str.ofString "&lt;") (Str.ofString "<") = tx (l.flatMap (ee [34, 9, 13, 10, 62, 38])) := r_bwd q60 K7s (by decide) (by decide) (but_of (by decide) (by decide)) l
theorem un_6 (l : List Nat) : Txt.replace (tx (l.flatMap (ee K6))) (Str.ofString "&lt;") (Str.ofString "<") = tx (l.flatMap (ee [9, 13, 10, 62, 38])) := r_bwd q60 K6s (by decide) (by decide) (but_of (by decide) (by decide)) l
theorem un_b {x y : Str} {a : Nat} {K : List Nat} (K' : List Nat) (h : x = tx [a] ∧ y = tx (enc a)) (hs : ∀ k ∈ K, k ∈ spc) (h38 : 38 ∈ K) (hK' : ∀ c, c ∈ K' ↔ c ∈ K ∧ c ≠ a) (ha : a ∈ K ∨ (a ∈ spc ∧ a ≠ 38)) (l : List Nat) : Txt.replace (tx (l.flatMap (ee K))) y x = tx (l.flatMap (ee K')) := by
  by_cases haK : a ∈ K
  · exact r_bwd h hs haK h38 hK' l
  · have ha' : a ∈ spc ∧ a ≠ 38 := ha.resolve_left haK
    have e : ∀ c, ee K' c = ee K c := fun c => by
      unfold ee
      by_cases hc : c ∈ K
      · rw [if_pos hc, if_pos ((hK' c).mpr ⟨hc, fun z => haK (z ▸ hc)⟩)]
      · rw [if_neg hc, if_neg fun z => hc ((hK' c).mp z).1]
    rw [show ee K' = ee K from funext e, h.1, h.2, replace_tx _ _ _ (enc_len a)]
    obtain ⟨q, hq, hq2, _⟩ := enc_shape a ha'.1
    have := rep_flat (p := enc a) (z := [a]) (e := ee K) (e' := ee K) (fun c rest => by
      by_cases hk : c ∈ K
      · rw [show ee K c = enc c from if_pos hk]
        obtain ⟨r, hr, hr2, _⟩ := enc_shape c (hs c hk)
        have := enc_apart a ha'.1 c (hs c hk) (fun z => haK (z ▸ hk)) rest
        rw [hq, hr] at this ⊢
        exact rep_miss rest this fun x hx => (show ∀ y ∈ [97, 109, 112, 59, 103, 116, 108, 35, 49, 48, 51, 57, 113, 117, 111], y ≠ 38 by decide) x (hr2 x hx)
      · rw [show ee K c = [c] from if_neg hk, hq]
        exact rep_skip rest fun x hx he => by
          rw [List.mem_singleton.mp hx] at he
          exact hk (he ▸ h38)) l
    rw [this]
theorem stages (l : List Nat) (K : List Nat) (hK : K = K6 ∨ K = K7) : ∃ K1 K2 K3 K4 K5 : List Nat, (∀ k ∈ K1, k ∈ spc) ∧ (∀ k ∈ K2, k ∈ spc) ∧ (∀ k ∈ K3, k ∈ spc) ∧ (∀ k ∈ K4, k ∈ spc) ∧ (∀ k ∈ K5, k ∈ spc) ∧
    Txt.replace (tx (l.flatMap (ee K))) (Str.ofString "&lt;") (Str.ofString "<") = tx (l.flatMap (ee K1)) ∧ Txt.replace (tx (l.flatMap (ee K1))) (Str.ofString "&gt;") (Str.ofString ">") = tx (l.flatMap (ee K2)) ∧
    Txt.replace (tx (l.flatMap (ee K2))) (Str.ofString "&quot;") (Str.ofString "\"") = tx (l.flatMap (ee K3)) ∧ Txt.replace (tx (l.flatMap (ee K3))) (Str.ofString "&#10;") (Str.ofString "\n") = tx (l.flatMap (ee K4)) ∧
    Txt.replace (tx (l.flatMap (ee K4))) (Str.ofString "&#9;") (Str.ofString "\t") = tx (l.flatMap (ee K5)) ∧ Txt.replace (tx (l.flatMap (ee K5))) (Str.ofString "&#13;") (Str.ofString "\r") = tx (l.flatMap (ee [38])) := by
  have s3 : Txt.replace (tx (l.flatMap (ee [9, 13, 10, 38]))) (Str.ofString "&#10;") (Str.ofString "\n") = tx (l.flatMap (ee [9, 13, 38])) := un_b _ q10 (by decide) (by decide) (but_of (by decide) (by decide)) (.inl (by decide)) l
  have s4 : Txt.replace (tx (l.flatMap (ee [9, 13, 38]))) (Str.ofString "&#9;") (Str.ofString "\t") = tx (l.flatMap (ee [13, 38])) := un_b _ q9 (by decide) (by decide) (but_of (by decide) (by decide)) (.inl (by decide)) l
  have s5 : Txt.replace (tx (l.flatMap (ee [13, 38]))) (Str.ofString "&#13;") (Str.ofString "\r") = tx (l.flatMap (ee [38])) := un_b _ q13 (by decide) (by decide) (but_of (by decide) (by decide)) (.inl (by decide)) l
  rcases hK with rfl | rfl
  · exact ⟨[9, 13, 10, 62, 38], [9, 13, 10, 38], [9, 13, 10, 38], [9, 13, 38], [13, 38], by decide, by decide, by decide, by decide, by decide, un_6 l,
      un_b _ q62 (by decide) (by decide) (but_of (by decide) (by decide)) (.inl (by decide)) l,
      un_b _ q34 (by decide) (by decide) (but_of (by decide) (by decide)) (.inr (by decide)) l, s3, s4, s5⟩
  · exact ⟨[34, 9, 13, 10, 62, 38], [34, 9, 13, 10, 38], [9, 13, 10, 38], [9, 13, 38], [13, 38], by decide, by decide, by decide, by decide, by decide, un_7 l,
      un_b _ q62 (by decide) (by decide) (but_of (by decide) (by decide)) (.inl (by decide)) l,
      un_b _ q34 (by decide) (by decide) (but_of (by decide) (by decide)) (.inl (by decide)) l, s3, s4, s5⟩
theorem un_last (l : List Nat) : Txt.replace (tx (l.flatMap (ee [38]))) (Str.ofString "&amp;") (Str.ofString "&") = tx l := by
  have := r_bwd (K := [38]) (K' := []) q38 (by decide) (by decide) (by decide) (by intro c; simp) l
  rw [ee_nil] at this
  exact this
theorem sl_mid (m : Nat) (y : List Nat) : Txt.slice (tx (m :: (y ++ [m]))) (some 1) (some (-1)) = tx y := by
  rw [slice_neg1 _ (by rw [tx_len]; simp), slice_ij (by rw [tx_len]; simp; omega)]
  simp only [tx_len, List.length_cons, List.length_append, List.length_nil]
  congr 2
  show ((m :: (y ++ [m])).drop 1).take _ = y
  rw [List.drop_one, List.tail_cons, List.take_left' (by omega)]
theorem sl_last (m : Nat) (y : List Nat) : Txt.slice (tx (m :: (y ++ [m]))) (some (-1)) none = tx [m] := by
  rw [slice_low1 _ (by rw [tx_len]; simp), slice_from (by rw [tx_len]; simp; omega)]
  simp only [tx_len, List.length_cons, List.length_append, List.length_nil]
  congr 1
  show List.drop _ (m :: (y ++ [m])) = [m]
  have e : (((y.length + (0 + 1) + 1 : Nat) : Int) - 1).toNat = (m :: y).length := by rw [List.length_cons]; omega
  rw [e, ← List.cons_append, List.drop_left]
end Mine
end
-- part Pq
section
namespace Mine
theorem tx_ee_len {l K : List Nat} (h : l.length ≤ 1000) (hs : ∀ k ∈ K, k ∈ spc) : (tx (l.flatMap (ee K))).length ≤ 6000 := by
  rw [tx_len]
  have := ee_len hs l
  omega
theorem qok {l : List Nat} (h : l.length ≤ 1000) : QOk (tx l) := by
  have e : ∀ (K : List Nat) (_ : ∀ k ∈ K, k ∈ spc), (tx (l.flatMap (ee K))).length ≤ 6000 := fun K hs => tx_ee_len h hs
  refine ⟨by rw [tx_len]; omega, ?_, ?_, ?_, ?_⟩
  · rw [r_amp1]; exact Nat.le_trans (e _ (by decide)) (by decide)
  · rw [r_amp1, r_a2]; exact Nat.le_trans (e _ (by decide)) (by decide)
  · intro t i
    match i with
    | 0 =>
      show (amp (tx l)).length ≤ 900000
      rw [amp_is]; exact Nat.le_trans (e _ (by decide)) (by decide)
    | 1 =>
      show (Txt.replace (amp (tx l)) (Str.ofString "\n") (Str.ofString "&#10;")).length ≤ 900000
      rw [amp_is, r_a4]; exact Nat.le_trans (e _ (by decide)) (by decide)
    | 2 =>
      show (Txt.replace (Txt.replace (amp (tx l)) (Str.ofString "\n") (Str.ofString "&#10;")) (Str.ofString "\r") (Str.ofString "&#13;")).length ≤ 900000
      rw [amp_is, r_a4, r_a5]; exact Nat.le_trans (e _ (by decide)) (by decide)
    | i + 3 =>
      rw [List.take_of_length_le (by show 3 ≤ i + 3; omega)]
      show (ent3 (amp (tx l))).length ≤ 900000
      rw [amp_is, ent3_is]; exact Nat.le_trans (e _ K6s) (by decide)
  · rw [amp_is, ent3_is, r_a7]; exact Nat.le_trans (e _ K7s) (by decide)
theorem mid_clean {l : List Nat} {x : Nat} (h : x ∈ midL l) : x ∉ [60, 62, 10, 9, 13] ∧ x ≠ vM l := by
  have hs := vKs l
  rcases ee_mem hs h with h | ⟨hl, hk⟩
  · refine ⟨(show ∀ y ∈ [38, 97, 109, 112, 59, 103, 116, 108, 35, 49, 48, 51, 57, 113, 117, 111], y ∉ [60, 62, 10, 9, 13] by decide) x h, ?_⟩
    rcases vM_or l with e | e <;> rw [e]
    · exact (show ∀ y ∈ [38, 97, 109, 112, 59, 103, 116, 108, 35, 49, 48, 51, 57, 113, 117, 111], y ≠ 34 by decide) x h
    · exact (show ∀ y ∈ [38, 97, 109, 112, 59, 103, 116, 108, 35, 49, 48, 51, 57, 113, 117, 111], y ≠ 39 by decide) x h
  · have h6 : ∀ k ∈ K6, k ∈ vK l := by
      unfold vK; split
      · intro k hk; exact .tail _ hk
      · intro k hk; exact hk
    refine ⟨fun hm => hk (h6 x ((show ∀ y ∈ [60, 62, 10, 9, 13], y ∈ K6 by decide) x hm)), fun e => ?_⟩
    unfold vM at e
    by_cases c : 34 ∈ l ∧ 39 ∉ l
    · rw [if_pos c] at e
      exact c.2 (e ▸ hl)
    · rw [if_neg c] at e
      have h34 : 34 ∈ l := e ▸ hl
      have h39 : 39 ∈ l := Decidable.byContradiction fun z => c ⟨h34, z⟩
      unfold vK at hk
      rw [if_pos ⟨h34, h39⟩] at hk
      exact hk (e ▸ .head _)
theorem tokok {l : List Nat} (h : l.length ≤ 1000) : TokOk (vM l :: (midL l ++ [vM l])) (tx l) := by
  have hml : (midL l).length ≤ 6000 := by have := ee_len (vKs l) l; unfold midL; omega
  have hvK : vK l = K6 ∨ vK l = K7 := by unfold vK; split <;> simp
  obtain ⟨K1, K2, K3, K4, K5, g1, g2, g3, g4, g5, e1, e2, e3, e4, e5, e6⟩ := stages l (vK l) hvK
  have e : ∀ (K : List Nat) (_ : ∀ k ∈ K, k ∈ spc), (tx (l.flatMap (ee K))).length ≤ 1048576 := fun K hs => Nat.le_trans (tx_ee_len h hs) (by decide)
  refine ⟨?_, ?_, ?_, ?_, ?_, ?_, ?_, ?_⟩
  · intro c hc
    have hm : vM l ∉ [60, 62, 10, 9, 13] := by rcases vM_or l with e | e <;> rw [e] <;> decide
    rcases List.mem_cons.mp hc with rfl | hc
    · exact hm
    rcases List.mem_append.mp hc with hc | hc
    · exact (mid_clean hc).1
    · rw [List.mem_singleton.mp hc]; exact hm
  · rw [sl_mid]
    unfold unq
    show Txt.replace (Txt.replace (Txt.replace (Txt.replace (Txt.replace (Txt.replace (Txt.replace (tx (midL l)) _ _) _ _) _ _) _ _) _ _) _ _) _ _ = _
    unfold midL
    rw [e1, e2, e3, e4, e5, e6, un_last]
  · rw [slice_1, mkOf_is]; rfl
  · rw [sl_last, mkOf_is]
  · simp only [List.length_cons, List.length_append, List.length_nil]; omega
  · rw [sl_mid, tx_len]; omega
  · rw [sl_mid]; unfold midL; rw [e1]; exact e _ g1
  · intro t i
    rw [sl_mid]
    unfold midL
    match i with
    | 0 =>
      show (Txt.replace (Txt.replace (tx _) (Str.ofString "&lt;") (Str.ofString "<")) (Str.ofString "&gt;") (Str.ofString ">")).length ≤ 1048576
      rw [e1, e2]; exact e _ g2
    | 1 =>
      show (Txt.replace (Txt.replace (Txt.replace (tx _) (Str.ofString "&lt;") (Str.ofString "<")) (Str.ofString "&gt;") (Str.ofString ">")) (Str.ofString "&quot;") (Str.ofString "\"")).length ≤ 1048576
      rw [e1, e2, e3]; exact e _ g3
    | 2 =>
      show (Txt.replace (Txt.replace (Txt.replace (Txt.replace (tx _) (Str.ofString "&lt;") (Str.ofString "<")) (Str.ofString "&gt;") (Str.ofString ">")) (Str.ofString "&quot;") (Str.ofString "\"")) (Str.ofString "&#10;") (Str.ofString "\n")).length ≤ 1048576
      rw [e1, e2, e3, e4]; exact e _ g4
    | 3 =>
      show (Txt.replace (Txt.replace (Txt.replace (Txt.replace (Txt.replace (tx _) (Str.ofString "&lt;") (Str.ofString "<")) (Str.ofString "&gt;") (Str.ofString ">")) (Str.ofString "&quot;") (Str.ofString "\"")) (Str.ofString "&#10;") (Str.ofString "\n")) (Str.ofString "&#9;") (Str.ofString "\t")).length ≤ 1048576
      rw [e1, e2, e3, e4, e5]; exact e _ g5
    | i + 4 =>
      rw [List.take_of_length_le (by show 4 ≤ i + 4; omega)]
      show (Txt.replace (Txt.replace (Txt.replace (Txt.replace (Txt.replace (Txt.replace (tx _) (Str.ofString "&lt;") (Str.ofString "<")) (Str.ofString "&gt;") (Str.ofString ">")) (Str.ofString "&quot;") (Str.ofString "\"")) (Str.ofString "&#10;") (Str.ofString "\n")) (Str.ofString "&#9;") (Str.ofString "\t")) (Str.ofString "&#13;") (Str.ofString "\r")).length ≤ 1048576
      rw [e1, e2, e3, e4, e5, e6]; exact e _ (by decide)
end Mine
end
-- part Px
section
namespace Mine
noncomputable abbrev sl (x : Str) : List Nat := x.cps.toList
theorem lex_run : ∀ (r t W : List Nat) (ln : Int), (∀ c ∈ r, c ∈ punL) → lex .pn t (r ++ W) ln = lex .pn (t ++ r) W ln
  | [], t, W, ln, _ => by rw [List.nil_append, List.append_nil]
  | c :: r, t, W, ln, h => by
    obtain ⟨n1, n2, n3, n4, n5, n6⟩ := pun_not (h c (.head _))
    rw [List.cons_append, lex, if_neg n1, if_pos (h c (.head _)), lex_run r (t ++ [c]) W ln fun x hx => h x (.tail _ hx), List.append_assoc, List.singleton_append]
theorem lex_wd : ∀ (u t W : List Nat) (ln : Int), (∀ c ∈ u, c ∈ wordL) → lex .wd t (u ++ W) ln = lex .wd (t ++ u) W ln
  | [], t, W, ln, _ => by rw [List.nil_append, List.append_nil]
  | c :: r, t, W, ln, h => by
    obtain ⟨n1, n2, n3, n4, n5, n6⟩ := word_not (h c (.head _))
    rw [List.cons_append, lex, if_neg n1, if_neg n2, if_pos (h c (.head _)), lex_wd r (t ++ [c]) W ln fun x hx => h x (.tail _ hx), List.append_assoc, List.singleton_append]
theorem lex_qt (m : Nat) : ∀ (y t W : List Nat) (ln : Int), (∀ c ∈ y, c ≠ 10 ∧ c ≠ m) → lex (.qt m) t (y ++ W) ln = lex (.qt m) (t ++ y) W ln
  | [], t, W, ln, _ => by rw [List.nil_append, List.append_nil]
  | c :: r, t, W, ln, h => by
    rw [List.cons_append, lex, if_neg (h c (.head _)).1, if_neg (h c (.head _)).2, lex_qt m r (t ++ [c]) W ln fun x hx => h x (.tail _ hx), List.append_assoc, List.singleton_append]
noncomputable def Stop (W : List Nat) : Prop := W = [] ∨ ∃ w W', W = w :: W' ∧ (w = 10 ∨ w ∈ wordL ∨ w = 34 ∨ w = 39)
noncomputable def PF (V : List Nat) : Prop := ∃ r W, V = r ++ W ∧ (∀ c ∈ r, c ∈ punL) ∧ Stop W ∧ (60 ∈ r → ∀ W', W ≠ 10 :: W')
theorem PF.nil : PF [] := ⟨[], [], rfl, fun _ h => (nomatch h), .inl rfl, fun h => (nomatch h)⟩
theorem PF.stop {w : Nat} {V : List Nat} (h : w = 10 ∨ w ∈ wordL ∨ w = 34 ∨ w = 39) : PF (w :: V) := ⟨[], w :: V, rfl, fun _ h => (nomatch h), .inr ⟨w, V, rfl, h⟩, fun h => (nomatch h)⟩
theorem PF.cons {c : Nat} {V : List Nat} (hc : c ∈ punL) (h60 : c ≠ 60) (h : PF V) : PF (c :: V) := by
  obtain ⟨r, W, e, h1, h2, h3⟩ := h
  refine ⟨c :: r, W, by rw [e]; rfl, List.forall_mem_cons.mpr ⟨hc, h1⟩, h2, fun q => ?_⟩
  rcases List.mem_cons.mp q with q | q
  · exact absurd q.symm h60
  · exact h3 q
theorem PF.lt {w : Nat} {V : List Nat} (h : w ∈ wordL) : PF (60 :: w :: V) :=
  ⟨[60], w :: V, rfl, by decide, .inr ⟨w, V, rfl, .inr (.inl h)⟩, fun _ W' e => (word_not h).1 (List.cons.inj e).1⟩
theorem PF.ltsl {w : Nat} {V : List Nat} (h : w ∈ wordL) : PF (60 :: 47 :: w :: V) :=
  ⟨[60, 47], w :: V, rfl, by decide, .inr ⟨w, V, rfl, .inr (.inl h)⟩, fun _ W' e => (word_not h).1 (List.cons.inj e).1⟩
noncomputable def Rep (σ : Sg) (V : List Nat) (N : Int) : Prop := ∃ r W : List Nat, V = r ++ W ∧ (∀ c ∈ r, c ∈ punL) ∧ σ.back = (if r = [] then none else some r) ∧
  ((σ.fin = true ∧ W = [] ∧ σ.pb = none ∧ σ.rest = [] ∧ σ.ln = N) ∨ (σ.fin = false ∧ σ.pb.toList ++ σ.rest = W ∧ σ.ln = N) ∨ (σ.fin = false ∧ 60 ∉ r ∧ ∃ W', W = 10 :: W' ∧ σ.pb = none ∧ σ.rest = W' ∧ σ.ln = N + 1))
noncomputable def Reach (σ : Sg) (V : List Nat) (N : Int) : Prop := ∃ σ₀, (∀ t σ', Sn σ₀ t σ' → Sn σ t σ') ∧ Rep σ₀ V N
theorem Rep.reach {σ : Sg} {V : List Nat} {N : Int} (h : Rep σ V N) : Reach σ V N := ⟨σ, fun _ _ z => z, h⟩
theorem rep_plain (pb : Option Nat) (rest V : List Nat) (N : Int) (h : pb.toList ++ rest = V) : Rep ⟨none, pb, rest, N, false⟩ V N := ⟨[], V, rfl, fun _ h => (nomatch h), rfl, .inr (.inl ⟨rfl, h, rfl⟩)⟩
theorem sn_plain {pb : Option Nat} {rest : List Nat} {N : Int} {o : LexOut} (h : lex .sp [] (pb.toList ++ rest) N = some o) (hw : ¬ (o.tok.any (fun _ => true) = true ∧ (∀ c ∈ o.tok.take 1, c ∈ punL) ∧ 2 ≤ o.tok.length)) : Sn ⟨none, pb, rest, N, false⟩ o.tok ⟨none, o.pb, o.rest, o.ln, o.fin⟩ := by
  show sgn none pb rest N false = _
  unfold sgn
  show (lex .sp [] (pb.toList ++ rest) N).map _ = _
  rw [h]
  show some _ = some _
  dsimp only
  rw [if_neg hw]
theorem sn_plain2 {pb : Option Nat} {rest : List Nat} {N : Int} {o : LexOut} (h : lex .sp [] (pb.toList ++ rest) N = some o) (hw : o.tok.any (fun _ => true) = true ∧ (∀ c ∈ o.tok.take 1, c ∈ punL) ∧ 2 ≤ o.tok.length) : Sn ⟨none, pb, rest, N, false⟩ (o.tok.take 1) ⟨some (o.tok.drop 1), o.pb, o.rest, o.ln, o.fin⟩ := by
  show sgn none pb rest N false = _
  unfold sgn
  show (lex .sp [] (pb.toList ++ rest) N).map _ = _
  rw [h]
  show some _ = some _
  dsimp only
  rw [if_pos hw]
theorem sg_eta (σ : Sg) : σ = ⟨σ.back, σ.pb, σ.rest, σ.ln, σ.fin⟩ := rfl
theorem reach_skip {σ : Sg} {V : List Nat} {N N' : Int} {c : Nat} (hc : (c = 10 ∧ N' = N + 1) ∨ (c = 32 ∧ N' = N)) (h : Reach σ (c :: V) N) : Reach σ V N' := by
  obtain ⟨σ₀, h1, r, W, e, hr, hb, hs⟩ := h
  have r0 : r = [] := by
    cases r with
    | nil => rfl
    | cons a r =>
      have : a = c := (List.cons.inj e).1.symm
      subst this
      have := hr a (.head _)
      rcases hc with ⟨rfl, _⟩ | ⟨rfl, _⟩ <;> exact absurd this (by decide)
  subst r0
  rw [List.nil_append] at e
  subst e
  rw [if_pos rfl] at hb
  rcases hs with ⟨_, h2, _⟩ | ⟨f1, f2, f3⟩ | ⟨f1, _, W', f2, f3, f4, f5⟩
  · cases h2
  · refine ⟨⟨none, none, V, N', false⟩, fun t σ' hs => h1 t σ' ?_, rep_plain none V V N' rfl⟩
    show sgn σ₀.back σ₀.pb σ₀.rest σ₀.ln σ₀.fin = _
    rw [hb, f1, f3, ← hs]
    unfold sgn
    show (lex .sp [] (σ₀.pb.toList ++ σ₀.rest) N).map _ = (lex .sp [] V N').map _
    rw [f2, lex]
    rcases hc with ⟨rfl, rfl⟩ | ⟨rfl, rfl⟩
    · rw [if_pos rfl]
    · rw [if_neg (by decide), if_pos rfl]
  · obtain ⟨rfl, rfl⟩ := List.cons.inj f2
    rcases hc with ⟨_, rfl⟩ | ⟨q, _⟩
    · refine ⟨σ₀, h1, [], V, rfl, fun _ h => (nomatch h), by rw [hb]; rfl, .inr (.inl ⟨f1, by rw [f3, f4]; rfl, f5⟩)⟩
    · exact absurd q (by decide)
theorem reach_unskip {σ : Sg} {V : List Nat} {N : Int} {c : Nat} (pb : Option Nat) (rest : List Nat) (h : (c = 10 ∧ pb = none ∧ rest = V ∧ σ = ⟨none, none, V, N + 1, false⟩) ∨ (c = 32 ∧ σ = ⟨none, none, V, N, false⟩)) : Reach σ (c :: V) N := by
  refine ⟨⟨none, none, c :: V, N, false⟩, fun t σ' hs => ?_, rep_plain none _ _ N rfl⟩
  have e : sgn none none (c :: V) N false = some ⟨t, σ'.back, σ'.pb, σ'.rest, σ'.ln, σ'.fin⟩ := hs
  rcases h with ⟨rfl, _, _, rfl⟩ | ⟨rfl, rfl⟩
  · show sgn none none V (N + 1) false = _
    rw [← e]
    unfold sgn
    show (lex .sp [] V (N + 1)).map _ = (lex .sp [] (10 :: V) N).map _
    conv => rhs; rw [lex, if_pos rfl]
  · show sgn none none V N false = _
    rw [← e]
    unfold sgn
    show (lex .sp [] V N).map _ = (lex .sp [] (32 :: V) N).map _
    conv => rhs; rw [lex, if_neg (by decide), if_pos rfl]
theorem next_punct {σ : Sg} {V : List Nat} {N : Int} {c : Nat} (hc : c ∈ punL) (hV : PF (c :: V)) (h : Reach σ (c :: V) N) : ∃ σ', Sn σ [c] σ' ∧ Reach σ' V N ∧ (c = 60 → σ'.ln = N) := by
  obtain ⟨σ₀, h1, r, W, e, hr, hb, hs⟩ := h
  cases r with
  | cons a r =>
    obtain ⟨rfl, e2⟩ := List.cons.inj e
    rw [if_neg (List.cons_ne_nil _ _)] at hb
    have hg : gtok σ₀.back σ₀.pb σ₀.rest σ₀.ln σ₀.fin = some ⟨c :: r, σ₀.pb, σ₀.rest, σ₀.ln, σ₀.fin⟩ := by rw [hb]; rfl
    refine ⟨⟨if r = [] then none else some r, σ₀.pb, σ₀.rest, σ₀.ln, σ₀.fin⟩, h1 _ _ ?_, Rep.reach ⟨r, W, e2, fun x hx => hr x (.tail _ hx), rfl, ?_⟩, fun h60 => ?_⟩
    · show sgn σ₀.back σ₀.pb σ₀.rest σ₀.ln σ₀.fin = _
      unfold sgn
      rw [hg]
      show some _ = some _
      dsimp only
      by_cases hr0 : r = []
      · subst hr0
        rw [if_neg (fun z => by have := z.2.2; simp at this)]
        rfl
      · rw [if_pos ⟨rfl, fun x hx => by rw [List.mem_singleton.mp hx]; exact hc, by cases r with | nil => exact absurd rfl hr0 | cons => simp⟩, if_neg hr0]
        rfl
    · rcases hs with hs | hs | ⟨f1, f2, f3⟩
      · exact .inl hs
      · exact .inr (.inl hs)
      · exact .inr (.inr ⟨f1, fun q => f2 (.tail _ q), f3⟩)
    · rcases hs with hs | hs | ⟨f1, f2, f3⟩
      · exact hs.2.2.2.2
      · exact hs.2.2
      · exact absurd (h60 ▸ .head _) f2
  | nil =>
    rw [List.nil_append] at e
    subst e
    rw [if_pos rfl] at hb
    rcases hs with ⟨_, h2, _⟩ | ⟨f1, f2, f3⟩ | ⟨_, _, W', f2, _⟩
    · cases h2
    · obtain ⟨n1, n2, n3, n4, n5, n6⟩ := pun_not hc
      obtain ⟨r', W, e', hr', hst, h60'⟩ := hV
      have hex : ∃ r, r' = c :: r ∧ V = r ++ W := by
        cases r' with
        | nil =>
          rw [List.nil_append] at e'
          rcases hst with rfl | ⟨w, W', rfl, hw⟩
          · cases e'
          · have ew : c = w := (List.cons.inj e').1
            subst ew
            rcases hw with q | q | q
            · exact absurd q n1
            · exact absurd q n5
            · exact absurd (by rcases q with q | q <;> rw [q] <;> decide) n6
        | cons a r => exact ⟨r, by rw [(List.cons.inj e').1], (List.cons.inj e').2⟩
      obtain ⟨r, rfl, e⟩ := hex
      have hr : ∀ x ∈ r, x ∈ punL := fun x hx => hr' x (.tail _ hx)
      have hσ : σ₀ = ⟨none, σ₀.pb, σ₀.rest, N, false⟩ := by
        conv => lhs; rw [sg_eta σ₀]
        rw [hb, f1, f3]
      have hl : lex .sp [] (σ₀.pb.toList ++ σ₀.rest) N = lex .pn (c :: r) W N := by
        rw [f2, lex, if_neg n1, if_neg n2, if_neg n5, if_pos hc, e, lex_run r [c] W N hr]
        rfl
      -- the ends of the run
      have key : ∀ o, lex .pn (c :: r) W N = some o → o.tok = c :: r → ((o.fin = true ∧ W = [] ∧ o.pb = none ∧ o.rest = [] ∧ o.ln = N) ∨ (o.fin = false ∧ o.pb.toList ++ o.rest = W ∧ o.ln = N) ∨ (o.fin = false ∧ 60 ∉ r ∧ ∃ W', W = 10 :: W' ∧ o.pb = none ∧ o.rest = W' ∧ o.ln = N + 1)) →
          (c = 60 → o.ln = N) → ∃ σ', Sn σ [c] σ' ∧ Reach σ' V N ∧ (c = 60 → σ'.ln = N) := by
        intro o ho ht hcase hc60
        by_cases hr0 : r = []
        · subst hr0
          refine ⟨⟨none, o.pb, o.rest, o.ln, o.fin⟩, h1 _ _ ?_, Rep.reach ⟨[], W, e, hr, rfl, hcase⟩, hc60⟩
          rw [hσ, ← ht]
          exact sn_plain (hl.trans ho) (fun z => by have := z.2.2; rw [ht] at this; simp at this)
        · refine ⟨⟨some r, o.pb, o.rest, o.ln, o.fin⟩, h1 _ _ ?_, Rep.reach ⟨r, W, e, hr, by rw [if_neg hr0], hcase⟩, hc60⟩
          rw [hσ]
          have := sn_plain2 (hl.trans ho) ⟨by rw [ht]; rfl, by rw [ht]; intro x hx; rw [List.mem_singleton.mp hx]; exact hc, by rw [ht]; cases r with | nil => exact absurd rfl hr0 | cons => simp⟩
          rw [ht] at this
          exact this
      rcases hst with rfl | ⟨w, W', rfl, hw⟩
      · exact key ⟨c :: r, none, [], N, true⟩ rfl rfl (.inl ⟨rfl, rfl, rfl, rfl, rfl⟩) fun _ => rfl
      · by_cases hw10 : w = 10
        · subst hw10
          have h6 : 60 ∉ c :: r := fun q => h60' q W' rfl
          refine key ⟨c :: r, none, W', N + 1, false⟩ (by rw [lex, if_pos rfl]) rfl (.inr (.inr ⟨rfl, fun q => h6 (.tail _ q), W', rfl, rfl, rfl, rfl⟩)) fun q => absurd (q ▸ .head _) h6
        · have hw' : w ∈ wordL ∨ w = 34 ∨ w = 39 := hw.resolve_left hw10
          have hwp : w ∉ punL := by
            rcases hw' with q | q
            · exact (word_not q).2.2.2.2.1
            · exact (quo_not q).2.2.2.2.2.1
          exact key ⟨c :: r, some w, W', N, false⟩ (by rw [lex, if_neg hw10, if_neg hwp, if_pos hw']) rfl (.inr (.inl ⟨rfl, rfl, rfl⟩)) fun _ => rfl
    · exact absurd hc (by rw [(List.cons.inj f2).1]; decide)
end Mine
end
-- part Py
section
namespace Mine
theorem reach_plain {σ : Sg} {V : List Nat} {N : Int} {c : Nat} (hc : c ∉ punL) (h10 : c ≠ 10) (h : Reach σ (c :: V) N) : ∃ pb rest, pb.toList ++ rest = c :: V ∧ ∀ t σ', Sn ⟨none, pb, rest, N, false⟩ t σ' → Sn σ t σ' := by
  obtain ⟨σ₀, h1, r, W, e, hr, hb, hs⟩ := h
  have r0 : r = [] := by
    cases r with
    | nil => rfl
    | cons a r =>
      have : a = c := (List.cons.inj e).1.symm
      subst this
      exact absurd (hr a (.head _)) hc
  subst r0
  rw [List.nil_append] at e
  subst e
  rw [if_pos rfl] at hb
  rcases hs with ⟨_, h2, _⟩ | ⟨f1, f2, f3⟩ | ⟨_, _, W', f2, _⟩
  · cases h2
  · refine ⟨σ₀.pb, σ₀.rest, f2, fun t σ' hs => h1 t σ' ?_⟩
    have hσ : σ₀ = ⟨none, σ₀.pb, σ₀.rest, N, false⟩ := by
      conv => lhs; rw [sg_eta σ₀]
      rw [hb, f1, f3]
    rw [hσ]
    exact hs
  · exact absurd (List.cons.inj f2).1 h10
theorem next_word {σ : Sg} {w V : List Nat} {N : Int} {d : Nat} (h0 : w ≠ []) (hw : ∀ c ∈ w, c ∈ wordL) (hd : d ∈ punL ∨ d = 10 ∨ d = 32) (h : Reach σ (w ++ d :: V) N) : ∃ σ', Sn σ w σ' ∧ Reach σ' (d :: V) N := by
  cases w with
  | nil => exact absurd rfl h0
  | cons c u =>
    obtain ⟨n1, n2, n3, n4, n5, n6⟩ := word_not (hw c (.head _))
    rw [List.cons_append] at h
    obtain ⟨pb, rest, hp, hS⟩ := reach_plain n5 n1 h
    have hl : lex .sp [] (pb.toList ++ rest) N = lex .wd (c :: u) (d :: V) N := by
      rw [hp, lex, if_neg n1, if_neg n2, if_pos (hw c (.head _)), lex_wd u [c] _ N fun x hx => hw x (.tail _ hx)]
      rfl
    have hno : ¬ ((c :: u).any (fun _ => true) = true ∧ (∀ x ∈ (c :: u).take 1, x ∈ punL) ∧ 2 ≤ (c :: u).length) := fun z => n5 (z.2.1 c (.head _))
    rcases hd with hd | rfl | rfl
    · obtain ⟨m1, m2, m3, m4, m5, m6⟩ := pun_not hd
      have ho : lex .wd (c :: u) (d :: V) N = some ⟨c :: u, some d, V, N, false⟩ := by rw [lex, if_neg m1, if_neg m2, if_neg m5, if_pos hd]
      exact ⟨⟨none, some d, V, N, false⟩, hS _ _ (sn_plain (hl.trans ho) hno), Rep.reach (rep_plain (some d) V (d :: V) N rfl)⟩
    · have ho : lex .wd (c :: u) (10 :: V) N = some ⟨c :: u, none, V, N + 1, false⟩ := by rw [lex, if_pos rfl]
      exact ⟨⟨none, none, V, N + 1, false⟩, hS _ _ (sn_plain (hl.trans ho) hno), reach_unskip none V (.inl ⟨rfl, rfl, rfl, rfl⟩)⟩
    · have ho : lex .wd (c :: u) (32 :: V) N = some ⟨c :: u, none, V, N, false⟩ := by rw [lex, if_neg (by decide), if_pos rfl]
      exact ⟨⟨none, none, V, N, false⟩, hS _ _ (sn_plain (hl.trans ho) hno), reach_unskip none V (.inr ⟨rfl, rfl⟩)⟩
theorem next_quote {σ : Sg} {y V : List Nat} {N : Int} {m : Nat} (hm : m = 34 ∨ m = 39) (hy : ∀ c ∈ y, c ≠ 10 ∧ c ≠ m) (h : Reach σ (m :: (y ++ m :: V)) N) : ∃ σ', Sn σ (m :: (y ++ [m])) σ' ∧ Reach σ' V N := by
  obtain ⟨n1, n2, n3, n4, n5, n6, n7⟩ := quo_not hm
  obtain ⟨pb, rest, hp, hS⟩ := reach_plain n6 n1 h
  have ho : lex .sp [] (pb.toList ++ rest) N = some ⟨m :: (y ++ [m]), none, V, N, false⟩ := by
    rw [hp, lex, if_neg n1, if_neg n2, if_neg n5, if_neg n6, if_pos hm, lex_qt m y [m] _ N hy, lex, if_neg n1, if_pos rfl]
    rfl
  refine ⟨⟨none, none, V, N, false⟩, hS _ _ (sn_plain ho (fun z => n6 (z.2.1 m (.head _)))), Rep.reach (rep_plain none V V N rfl)⟩
theorem next_eof {σ : Sg} {N : Int} (h : Reach σ [] N) : ∃ σ', Sn σ [] σ' := by
  obtain ⟨σ₀, h1, r, W, e, hr, hb, hs⟩ := h
  obtain ⟨rfl, rfl⟩ := List.append_eq_nil_iff.mp e.symm
  rw [if_pos rfl] at hb
  have key : ∀ o : LexOut, lex (finMd σ₀.fin) [] (σ₀.pb.toList ++ σ₀.rest) σ₀.ln = some o → o.tok = [] → ∃ σ', Sn σ [] σ' := by
    intro o ho ht
    refine ⟨⟨none, o.pb, o.rest, o.ln, o.fin⟩, h1 _ _ ?_⟩
    show sgn σ₀.back σ₀.pb σ₀.rest σ₀.ln σ₀.fin = _
    rw [hb]
    unfold sgn
    show (lex (finMd σ₀.fin) [] (σ₀.pb.toList ++ σ₀.rest) σ₀.ln).map _ = _
    rw [ho]
    show some _ = some _
    dsimp only
    rw [if_neg (fun z => by have := z.2.2; rw [ht] at this; simp at this), ht]
  rcases hs with ⟨f1, _, f3, f4, f5⟩ | ⟨f1, f2, f3⟩ | ⟨_, _, W', f2, _⟩
  · exact key ⟨[], none, [], σ₀.ln, true⟩ (by rw [f1, f3, f4]; rfl) rfl
  · exact key ⟨[], none, [], σ₀.ln, true⟩ (by rw [f1, f2]; rfl) rfl
  · cases f2
noncomputable def WordS (x : Str) : Prop := sl x ≠ [] ∧ ∀ c ∈ sl x, c ∈ wordL
noncomputable def Fo.Good : Fo → Prop
  | .nil => True
  | .cons nm ps k r => WordS nm ∧ (∀ p ∈ ps, WordS p.1 ∧ p.2.length ≤ 1000) ∧ (∀ p, ps.head? = some p → p.1 = Str.ofString "k") ∧ k.Good ∧ r.Good
theorem sl_app (a b : Str) : sl (a ++ b) = sl a ++ sl b := by
  show (a ++ b).cps.toList = _
  rw [Str.cps_append, Array.toList_append]
theorem sl_e : sl Str.empty = [] := rfl
theorem sl_nl : sl (Str.ofString "\n") = [10] := by decide +kernel
theorem sl_sp : sl (Str.ofString " ") = [32] := by decide +kernel
theorem sl_eq : sl (Str.ofString "=") = [61] := by decide +kernel
theorem sl_lt : sl (Str.ofString "<") = [60] := by decide +kernel
theorem sl_gt : sl (Str.ofString ">") = [62] := by decide +kernel
theorem sl_sg : sl (Str.ofString "/>") = [47, 62] := by decide +kernel
theorem sl_ls : sl (Str.ofString "</") = [60, 47] := by decide +kernel
theorem tx_sl (x : Str) : tx (sl x) = x := (tx_of x).symm
noncomputable def sepL (p : Str × Str) : List Nat := if p.2.length % 2 = 1 then [10] else if p.1 = Str.ofString "k" then [32] else []
theorem outA_L (p : Str × Str) : sl (outA p) = sepL p ++ (sl p.1 ++ (61 :: (vM (sl p.2) :: (midL (sl p.2) ++ [vM (sl p.2)])))) := by
  have hq : sl (qv p.2) = vM (sl p.2) :: (midL (sl p.2) ++ [vM (sl p.2)]) := by
    conv => lhs; rw [← tx_sl p.2]
    rw [qv_is]
  unfold outA sepL
  rw [sl_app, sl_app, sl_app, hq, sl_eq]
  split
  · rw [sl_nl]; simp
  · split
    · rw [sl_sp]; simp
    · rw [sl_e]; simp
theorem at_ok : ∀ (ps : List (Str × Str)) (σ : Sg) (d : Nat) (V : List Nat) (N : Int), (∀ p ∈ ps, WordS p.1 ∧ p.2.length ≤ 1000) → (d = 62 ∨ d = 47) → PF (d :: V) → Reach σ (sl (outPs ps) ++ d :: V) N →
    ∃ σ3 k σ4, Sn σ k σ3 ∧ At σ3 k ps σ4 [d] ∧ Reach σ4 V (N + nlPs ps)
  | [], σ, d, V, N, _, hd, hV, h => by
    have hdp : d ∈ punL := by rcases hd with rfl | rfl <;> decide
    obtain ⟨σ', s1, h1, _⟩ := next_punct hdp hV h
    refine ⟨σ', [d], σ', s1, .nil (by rcases hd with rfl | rfl <;> decide), ?_⟩
    rw [show nlPs ([] : List (Str × Str)) = 0 from rfl, Int.add_zero]
    exact h1
  | p :: ps, σ, d, V, N, hp, hd, hV, h => by
    obtain ⟨⟨hw0, hw⟩, hl⟩ := hp p (.head _)
    have hl' : (sl p.2).length ≤ 1000 := by rw [Array.length_toList]; exact hl
    have e : sl (outPs (p :: ps)) ++ d :: V = sepL p ++ (sl p.1 ++ 61 :: (vM (sl p.2) :: (midL (sl p.2) ++ vM (sl p.2) :: (sl (outPs ps) ++ d :: V)))) := by
      show sl (outA p ++ outPs ps) ++ d :: V = _
      rw [sl_app, outA_L]
      simp
    rw [e] at h
    have h2 : Reach σ (sl p.1 ++ 61 :: (vM (sl p.2) :: (midL (sl p.2) ++ vM (sl p.2) :: (sl (outPs ps) ++ d :: V)))) (N + nlA p) := by
      unfold sepL at h
      unfold nlA
      by_cases c1 : p.2.length % 2 = 1
      · rw [if_pos c1] at h ⊢
        exact reach_skip (.inl ⟨rfl, rfl⟩) h
      · rw [if_neg c1] at h ⊢
        rw [Int.add_zero]
        by_cases c2 : p.1 = Str.ofString "k"
        · rw [if_pos c2] at h
          exact reach_skip (.inr ⟨rfl, rfl⟩) h
        · rw [if_neg c2] at h
          exact h
    obtain ⟨σ1, s1, h3⟩ := next_word hw0 hw (.inl (by decide)) h2
    have hm := vM_or (sl p.2)
    obtain ⟨σ2, s2, h4, _⟩ := next_punct (by decide) (PF.cons (by decide) (by decide) (PF.stop (by rcases hm with q | q <;> rw [q] <;> simp))) h3
    obtain ⟨σ3, s3, h5⟩ := next_quote hm (fun c hc => ⟨fun q => (mid_clean hc).1 (by rw [q]; decide), (mid_clean hc).2⟩) h4
    obtain ⟨σ5, k, σ4, s5, hA, h6⟩ := at_ok ps σ3 d V (N + nlA p) (fun q hq => hp q (.tail _ hq)) hd hV h5
    refine ⟨σ1, sl p.1, σ4, s1, ?_, ?_⟩
    · have hk : sl p.1 ∉ stops := fun z => by
        have hword : ∀ c ∈ sl p.1, c ∈ wordL := hw
        simp only [stops, List.mem_cons, List.not_mem_nil, or_false] at z
        rcases z with z | z | z | z | z
        · exact absurd (hword 60 (by rw [z]; exact .head _)) (by decide)
        · exact absurd (hword 62 (by rw [z]; exact .head _)) (by decide)
        · exact absurd (hword 47 (by rw [z]; exact .head _)) (by decide)
        · exact absurd (hword 61 (by rw [z]; exact .head _)) (by decide)
        · exact hw0 z
      have := At.cons hk s2 s3 (tokok hl') s5 hA
      rw [tx_sl, tx_sl] at this
      exact this
    · rw [show nlPs (p :: ps) = nlA p + nlPs ps from rfl, ← Int.add_assoc]
      exact h6
noncomputable def Tail (V : List Nat) : Prop := V = [] ∨ ∃ w V2, w ∈ wordL ∧ V = 60 :: 47 :: w :: V2
theorem pf_rest {V : List Nat} (hT : Tail V) : ∀ r : Fo, r.Good → PF (sl (outF r) ++ V)
  | .nil, _ => by
    show PF ([] ++ V)
    rw [List.nil_append]
    rcases hT with rfl | ⟨w, V2, hw, rfl⟩
    · exact PF.nil
    · exact PF.ltsl hw
  | .cons nm ps k r, ⟨⟨h0, hw⟩, _⟩ => by
    show PF (sl (outN nm ps k.isNil (outF k) ++ outF r) ++ V)
    unfold outN
    simp only [sl_app, sl_lt, List.append_assoc, List.cons_append, List.nil_append]
    cases hn : sl nm with
    | nil => exact absurd hn h0
    | cons c u => exact PF.lt (hw c (by rw [hn]; exact .head _))
theorem rdr_ok : ∀ (f : Fo) (σ : Sg) (V : List Nat) (N : Int), f.Good → Tail V → Reach σ (sl (outF f) ++ V) N →
    ∃ σ', Rdr σ (rowsF f N) f σ' ∧ ∀ w V2, V = 60 :: 47 :: w :: V2 → Reach σ' (w :: V2) (N + nlF f)
  | .nil, σ, V, N, _, hT, h => by
    have h : Reach σ ([] ++ V) N := h
    rw [List.nil_append] at h
    rcases hT with rfl | ⟨w, V2, hw, rfl⟩
    · obtain ⟨σ', s1⟩ := next_eof h
      exact ⟨σ', .fin s1 (by decide), fun w V2 e => by cases e⟩
    · obtain ⟨σ1, s1, h1, _⟩ := next_punct (by decide) (PF.ltsl hw) h
      obtain ⟨σ2, s2, h2, _⟩ := next_punct (by decide) (PF.cons (by decide) (by decide) (PF.stop (.inr (.inl hw)))) h1
      refine ⟨σ2, .close s1 s2, fun w' V2' e => ?_⟩
      have e2 := (List.cons.inj (List.cons.inj e).2).2
      rw [← e2, show nlF .nil = 0 from rfl, Int.add_zero]
      exact h2
  | .cons nm ps k r, σ, V, N, ⟨⟨h0, hw⟩, hps, hk0, hgk, hgr⟩, hT, h => by
    have hnm : sl nm ≠ [47] := fun z => absurd (hw 47 (by rw [z]; exact .head _)) (by decide)
    have hPR : PF (sl (outF r) ++ V) := pf_rest hT r hgr
    have hPD : PF ((if ps.length = 1 then [10] else []) ++ (sl (outF r) ++ V)) := by
      split
      · exact PF.stop (.inl rfl)
      · exact hPR
    have hD : ∀ {σ : Sg} {M : Int}, Reach σ ((if ps.length = 1 then [10] else []) ++ (sl (outF r) ++ V)) M → Reach σ (sl (outF r) ++ V) (M + (if ps.length = 1 then 1 else 0)) := by
      intro σ M h
      by_cases c : ps.length = 1
      · rw [if_pos c] at h ⊢
        exact reach_skip (.inl ⟨rfl, rfl⟩) h
      · rw [if_neg c] at h ⊢
        rw [Int.add_zero]; exact h
    have hDL : sl (if ps.length = 1 then Str.ofString "\n" else Str.empty) = (if ps.length = 1 then [10] else []) := by
      split
      · exact sl_nl
      · rfl
    -- ahead of the name's end stands a line end, a blank or punctuation
    have hhead : ∀ (d : Nat) (W : List Nat), d = 62 ∨ d = 47 → ∃ d' W', sl (outPs ps) ++ d :: W = d' :: W' ∧ (d' ∈ punL ∨ d' = 10 ∨ d' = 32) := by
      intro d W hd
      cases ps with
      | nil => exact ⟨d, W, rfl, .inl (by rcases hd with rfl | rfl <;> decide)⟩
      | cons p q =>
        have hp1 : p.1 = Str.ofString "k" := hk0 p rfl
        have e : sl (outPs (p :: q)) = sepL p ++ (sl p.1 ++ (61 :: (vM (sl p.2) :: (midL (sl p.2) ++ [vM (sl p.2)])))) ++ sl (outPs q) := by
          show sl (outA p ++ outPs q) = _
          rw [sl_app, outA_L]
        rw [e]
        unfold sepL
        by_cases c : p.2.length % 2 = 1
        · rw [if_pos c]
          exact ⟨10, _, rfl, .inr (.inl rfl)⟩
        · rw [if_neg c, if_pos hp1]
          exact ⟨32, _, rfl, .inr (.inr rfl)⟩
    by_cases hc : k.isNil = true ∧ ps.length < 2
    · have e : sl (outF (.cons nm ps k r)) ++ V = 60 :: (sl nm ++ (sl (outPs ps) ++ 47 :: (62 :: ((if ps.length = 1 then [10] else []) ++ (sl (outF r) ++ V))))) := by
        show sl (outN nm ps k.isNil (outF k) ++ outF r) ++ V = _
        unfold outN
        rw [if_pos hc]
        simp only [sl_app, sl_lt, sl_sg, hDL, List.append_assoc, List.cons_append, List.nil_append]
      rw [e] at h
      have hlt : PF (60 :: (sl nm ++ (sl (outPs ps) ++ 47 :: (62 :: ((if ps.length = 1 then [10] else []) ++ (sl (outF r) ++ V)))))) := by
        cases hn : sl nm with
        | nil => exact absurd hn h0
        | cons c u => exact PF.lt (hw c (by rw [hn]; exact .head _))
      obtain ⟨σ1, s1, h1, hN⟩ := next_punct (by decide) hlt h
      have hN := hN rfl
      obtain ⟨d', W', e1, hd'⟩ := hhead 47 (62 :: ((if ps.length = 1 then [10] else []) ++ (sl (outF r) ++ V))) (.inr rfl)
      rw [e1] at h1
      obtain ⟨σ2, s2, h2⟩ := next_word h0 hw hd' h1
      rw [← e1] at h2
      have hP62 : PF (62 :: ((if ps.length = 1 then [10] else []) ++ (sl (outF r) ++ V))) := PF.cons (by decide) (by decide) hPD
      obtain ⟨σ3, k3, σ4, s3, hA, h4⟩ := at_ok ps σ2 47 _ N hps (.inr rfl) (PF.cons (by decide) (by decide) hP62) h2
      obtain ⟨σ5, s5, h5, _⟩ := next_punct (by decide) hP62 h4
      obtain ⟨σ6, hR, hV⟩ := rdr_ok r σ5 V _ hgr hT (hD h5)
      obtain ⟨_, z2, z3⟩ := outF_nil hc.1
      have knil : k = .nil := by cases k with | nil => rfl | cons => cases hc.1
      subst knil
      have eN : N + nlPs ps + (if ps.length = 1 then 1 else 0) = N + nlN ps (nlF .nil) := by unfold nlN; rw [z2]; omega
      rw [eN] at hR hV
      refine ⟨σ6, ?_, fun w V2 e2 => ?_⟩
      · have R := Rdr.one s1 s2 hnm s3 hA (by decide) s5 hR
        rw [hN, tx_sl] at R
        exact R
      · rw [show nlF (.cons nm ps .nil r) = nlN ps (nlF .nil) + nlF r from rfl, ← Int.add_assoc]
        exact hV w V2 e2
    · have e : sl (outF (.cons nm ps k r)) ++ V = 60 :: (sl nm ++ (sl (outPs ps) ++ 62 :: (sl (outF k) ++ (60 :: 47 :: (sl nm ++ 62 :: ((if ps.length = 1 then [10] else []) ++ (sl (outF r) ++ V))))))) := by
        show sl (outN nm ps k.isNil (outF k) ++ outF r) ++ V = _
        unfold outN
        rw [if_neg hc]
        simp only [sl_app, sl_lt, sl_gt, sl_ls, hDL, List.append_assoc, List.cons_append, List.nil_append]
      rw [e] at h
      cases hn : sl nm with
      | nil => exact absurd hn h0
      | cons c u =>
      have hcw : c ∈ wordL := hw c (by rw [hn]; exact .head _)
      have hTk : Tail (60 :: 47 :: (sl nm ++ 62 :: ((if ps.length = 1 then [10] else []) ++ (sl (outF r) ++ V)))) := .inr ⟨c, _, hcw, by rw [hn]; rfl⟩
      have hlt : PF (60 :: (sl nm ++ (sl (outPs ps) ++ 62 :: (sl (outF k) ++ (60 :: 47 :: (sl nm ++ 62 :: ((if ps.length = 1 then [10] else []) ++ (sl (outF r) ++ V)))))))) := by
        rw [hn]; exact PF.lt hcw
      obtain ⟨σ1, s1, h1, hN⟩ := next_punct (by decide) hlt h
      have hN := hN rfl
      obtain ⟨d', W', e1, hd'⟩ := hhead 62 (sl (outF k) ++ (60 :: 47 :: (sl nm ++ 62 :: ((if ps.length = 1 then [10] else []) ++ (sl (outF r) ++ V))))) (.inl rfl)
      rw [e1] at h1
      obtain ⟨σ2, s2, h2⟩ := next_word h0 hw hd' h1
      rw [← e1] at h2
      obtain ⟨σ3, k3, σ4, s3, hA, h4⟩ := at_ok ps σ2 62 _ N hps (.inl rfl) (PF.cons (by decide) (by decide) (pf_rest hTk k hgk)) h2
      obtain ⟨σ5, hRk, hVk⟩ := rdr_ok k σ4 _ (N + nlPs ps) hgk hTk h4
      have h5 : Reach σ5 (sl nm ++ 62 :: ((if ps.length = 1 then [10] else []) ++ (sl (outF r) ++ V))) (N + nlPs ps + nlF k) := by
        have := hVk c (u ++ 62 :: ((if ps.length = 1 then [10] else []) ++ (sl (outF r) ++ V))) (by rw [hn]; rfl)
        rw [hn]
        exact this
      obtain ⟨σ6, s6, h6⟩ := next_word h0 hw (.inl (by decide)) h5
      obtain ⟨σ7, s7, h7, _⟩ := next_punct (by decide) (PF.cons (by decide) (by decide) hPD) h6
      obtain ⟨σ8, hR, hV⟩ := rdr_ok r σ7 V _ hgr hT (hD h7)
      have eN : N + nlPs ps + nlF k + (if ps.length = 1 then 1 else 0) = N + nlN ps (nlF k) := by unfold nlN; omega
      rw [eN] at hR hV
      refine ⟨σ8, ?_, fun w V2 e2 => ?_⟩
      · have R := Rdr.two s1 s2 hnm s3 hA hRk s6 s7 hR
        rw [hN, tx_sl] at R
        exact R
      · rw [show nlF (.cons nm ps k r) = nlN ps (nlF k) + nlF r from rfl, ← Int.add_assoc]
        exact hV w V2 e2
theorem page_ok (f : Fo) (hg : f.Good) : ∃ σ', Rdr ⟨none, none, sl (outF f), 1, false⟩ (rowsF f 1) f σ' := by
  obtain ⟨σ', h, _⟩ := rdr_ok f ⟨none, none, sl (outF f), 1, false⟩ [] 1 hg (.inl rfl) (by rw [List.append_nil]; exact Rep.reach (rep_plain none _ _ 1 rfl))
  exact ⟨σ', h⟩
end Mine
end
-- part Pt
section
namespace Mine
noncomputable def Fo.Every (P : Str → List (Str × Str) → Prop) : Fo → Prop
  | .nil => True
  | .cons nm ps k r => P nm ps ∧ k.Every P ∧ r.Every P
theorem Fo.Every.app {P : Str → List (Str × Str) → Prop} : ∀ {f g : Fo}, f.Every P → g.Every P → (f.app g).Every P
  | .nil, _, _, h => h
  | .cons _ _ _ _, _, ⟨h1, h2, h3⟩, h => ⟨h1, h2, h3.app h⟩
theorem Fo.size_app : ∀ f g : Fo, (f.app g).size = f.size + g.size
  | .nil, g => by simp [Fo.app, Fo.size]
  | .cons _ _ k r, g => by simp only [Fo.app, Fo.size, Fo.size_app r g]; omega
noncomputable def stkSize : TStk → Nat
  | [] => 0
  | (g, _, _) :: r => g.size + 1 + stkSize r
theorem close_every {P : Str → List (Str × Str) → Prop} : ∀ {stk : TStk} {f : Fo}, (∀ q ∈ stk, q.1.Every P ∧ P q.2.1 q.2.2) → f.Every P → (tClose stk f).Every P
  | [], _, _, h => h
  | (g, nm, ps) :: r, f, hs, h => by
    have h1 := hs (g, nm, ps) (.head _)
    have h2 : (Fo.cons nm ps f .nil).Every P := ⟨h1.2, h, trivial⟩
    exact close_every (stk := r) (fun q hq => hs q (.tail _ hq)) (h1.1.app h2)
theorem close_size : ∀ (stk : TStk) (f : Fo), (tClose stk f).size = stkSize stk + f.size
  | [], f => by simp [tClose, stkSize]
  | (g, nm, ps) :: r, f => by
    rw [tClose, close_size r, Fo.size_app]
    simp only [Fo.size, stkSize]; omega
theorem step_ok {P : Str → List (Str × Str) → Prop} (hP : ∀ x, P (elN x) (elP x)) (st : TStk × Fo) (x : Int) (h1 : ∀ q ∈ st.1, q.1.Every P ∧ P q.2.1 q.2.2) (h2 : st.2.Every P) :
    (∀ q ∈ (tStep st x).1, q.1.Every P ∧ P q.2.1 q.2.2) ∧ (tStep st x).2.Every P ∧ stkSize (tStep st x).1 + (tStep st x).2.size = stkSize st.1 + st.2.size + 1 := by
  obtain ⟨stk, cur⟩ := st
  have e1 : (Fo.cons (elN x) (elP x) .nil .nil).Every P := ⟨hP x, trivial, trivial⟩
  unfold tStep
  by_cases c0 : x.fmod 3 = 0
  · rw [if_pos c0]
    exact ⟨List.forall_mem_cons.mpr ⟨⟨h2, hP x⟩, h1⟩, trivial, by simp only [stkSize, Fo.size]; omega⟩
  · rw [if_neg c0]
    by_cases c2 : x.fmod 3 = 2
    · rw [if_pos c2]
      cases stk with
      | nil => exact ⟨h1, h2.app e1, by simp only [stkSize, Fo.size_app, Fo.size]; omega⟩
      | cons q r =>
        obtain ⟨g, nm, ps⟩ := q
        exact ⟨fun q hq => h1 q (.tail _ hq), (h1 _ (.head _)).1.app ⟨(h1 _ (.head _)).2, h2.app e1, trivial⟩, by simp only [stkSize, Fo.size_app, Fo.size]; omega⟩
    · rw [if_neg c2]
      exact ⟨h1, h2.app e1, by simp only [Fo.size_app, Fo.size]; omega⟩
theorem fold_ok {P : Str → List (Str × Str) → Prop} (hP : ∀ x, P (elN x) (elP x)) : ∀ (ns : List Int) (st : TStk × Fo), (∀ q ∈ st.1, q.1.Every P ∧ P q.2.1 q.2.2) → st.2.Every P →
    (∀ q ∈ (ns.foldl tStep st).1, q.1.Every P ∧ P q.2.1 q.2.2) ∧ (ns.foldl tStep st).2.Every P ∧ stkSize (ns.foldl tStep st).1 + (ns.foldl tStep st).2.size = stkSize st.1 + st.2.size + ns.length
  | [], st, h1, h2 => ⟨h1, h2, rfl⟩
  | x :: ns, st, h1, h2 => by
    obtain ⟨a, b, c⟩ := step_ok hP st x h1 h2
    obtain ⟨a', b', c'⟩ := fold_ok hP ns (tStep st x) a b
    exact ⟨a', b', by rw [List.foldl_cons, c', c, List.length_cons]; omega⟩
theorem tree_every {P : Str → List (Str × Str) → Prop} (hP : ∀ x, P (elN x) (elP x)) (ns : List Int) : (treeOf ns).Every P ∧ (treeOf ns).size = ns.length := by
  obtain ⟨a, b, c⟩ := fold_ok hP ns ([], .nil) (fun _ h => nomatch h) trivial
  refine ⟨close_every a b, ?_⟩
  show (tClose _ _).size = _
  rw [close_size, c]
  simp [stkSize, Fo.size]
theorem piece_ok (c : Nat) : (piece c).length ≤ 4 ∧ ∀ x ∈ sl (piece c), x < 128 := by
  have key : ∀ p ∈ pieceL, p.length ≤ 4 ∧ ∀ x ∈ sl p, x < 128 := by decide +kernel
  unfold piece
  rw [List.getD_eq_getElem?_getD]
  cases h : pieceL[c - 48]? with
  | none => exact ⟨by decide +kernel, fun x hx => by rw [show sl ((none : Option Str).getD (Str.ofString "")) = [] by decide +kernel] at hx; cases hx⟩
  | some p => exact key p (List.mem_of_getElem? h)
theorem joinL_ok : ∀ ps : List Str, (∀ p ∈ ps, p.length ≤ 4 ∧ ∀ x ∈ sl p, x < 128) → (joinL [] ps).length ≤ 4 * ps.length ∧ ∀ x ∈ joinL [] ps, x < 128
  | [], _ => ⟨Nat.le_refl _, fun _ h => nomatch h⟩
  | [p], h => ⟨by have := (h p (.head _)).1; show p.cps.toList.length ≤ 4; rw [Array.length_toList]; exact this, (h p (.head _)).2⟩
  | p :: q :: r, h => by
    obtain ⟨i1, i2⟩ := joinL_ok (q :: r) fun x hx => h x (.tail _ hx)
    have h1 : p.cps.toList.length ≤ 4 := by have := (h p (.head _)).1; rw [Array.length_toList]; exact this
    show (p.cps.toList ++ [] ++ joinL [] (q :: r)).length ≤ _ ∧ ∀ x ∈ p.cps.toList ++ [] ++ joinL [] (q :: r), x < 128
    rw [List.append_nil]
    refine ⟨by rw [List.length_append, List.length_cons]; omega, fun x hx => ?_⟩
    rcases List.mem_append.mp hx with hx | hx
    · exact (h p (.head _)).2 x hx
    · exact i2 x hx
theorem text_ok (n : Int) : (lawText n).length ≤ 12 ∧ PyData.strOk (lawText n) = true := by
  unfold lawText
  have e : sl (Txt.join (Str.ofString "") ((Str.ofString (toString ((if n < 0 then -n else n).fmod 1000))).cps.toList.map piece)) = joinL [] ((Str.ofString (toString ((if n < 0 then -n else n).fmod 1000))).cps.toList.map piece) := by
    rw [show Str.ofString "" = ⟨([] : List Nat).toArray⟩ by decide +kernel]
    show (Builtin.Str.glued ⟨([] : List Nat).toArray⟩ _).cps.toList = _
    rw [StrLaws.glued_eq_join]
    exact join_L [] _
  have hd := (dig_ok n).2
  obtain ⟨j1, j2⟩ := joinL_ok ((Str.ofString (toString ((if n < 0 then -n else n).fmod 1000))).cps.toList.map piece) (fun p hp => by obtain ⟨c, _, rfl⟩ := List.mem_map.mp hp; exact piece_ok c)
  rw [List.length_map] at j1
  have hd' : (Str.ofString (toString ((if n < 0 then -n else n).fmod 1000))).cps.toList.length ≤ 3 := by rw [Array.length_toList]; exact hd
  constructor
  · show Array.size _ ≤ 12
    rw [← Array.length_toList]
    have e' := congrArg List.length e
    exact Nat.le_trans (Nat.le_of_eq e') (by omega)
  · unfold PyData.strOk
    rw [Array.all_eq_true_iff_forall_mem]
    intro x hx
    have hx' : x ∈ sl (Txt.join (Str.ofString "") ((Str.ofString (toString ((if n < 0 then -n else n).fmod 1000))).cps.toList.map piece)) := Array.mem_toList_iff.mpr hx
    rw [e] at hx'
    have := j2 x hx'
    exact decide_eq_true (by omega)
noncomputable def ElOk (nm : Str) (ps : List (Str × Str)) : Prop := WordS nm ∧ nm.length ≤ 3 ∧ PyData.strOk nm = true ∧ ps.length ≤ 2 ∧ (∀ p ∈ ps, WordS p.1 ∧ p.1.length ≤ 3 ∧ PyData.strOk p.1 = true ∧ p.2.length ≤ 12 ∧ PyData.strOk p.2 = true) ∧ (∀ p, ps.head? = some p → p.1 = Str.ofString "k")
theorem names_ok : ∀ nm ∈ [Str.ofString "a", Str.ofString "b-c", Str.ofString "_.9", Str.ofString "k", Str.ofString "l~2"], (sl nm ≠ [] ∧ ∀ c ∈ sl nm, c ∈ wordL) ∧ nm.length ≤ 3 ∧ PyData.strOk nm = true := by decide +kernel
theorem el_ok (x : Int) : ElOk (elN x) (elP x) := by
  have hn : elN x ∈ [Str.ofString "a", Str.ofString "b-c", Str.ofString "_.9", Str.ofString "k", Str.ofString "l~2"] := by
    unfold elN
    rcases fmod3 ((x.fdiv 3).fdiv 2) with h | h | h <;> rw [h]
    · exact .head _
    · exact .tail _ (.head _)
    · exact .tail _ (.tail _ (.head _))
  obtain ⟨n1, n2, n3⟩ := names_ok _ hn
  refine ⟨n1, n2, n3, ?_, ?_, ?_⟩
  · unfold elP
    rw [List.length_take]
    exact Nat.min_le_right _ _
  · intro p hp
    have hp' := List.mem_of_mem_take hp
    simp only [List.mem_cons, List.not_mem_nil, or_false] at hp'
    rcases hp' with rfl | rfl
    · obtain ⟨m1, m2, m3⟩ := names_ok (Str.ofString "k") (by decide +kernel)
      exact ⟨m1, m2, m3, (text_ok _).1, (text_ok _).2⟩
    · obtain ⟨m1, m2, m3⟩ := names_ok (Str.ofString "l~2") (by decide +kernel)
      exact ⟨m1, m2, m3, (text_ok _).1, (text_ok _).2⟩
  · intro p hp
    unfold elP at hp
    cases hk : ((x.fdiv 3 + 1).fmod 3).toNat with
    | zero => rw [hk] at hp; cases hp
    | succ j =>
      rw [hk, List.take_succ_cons] at hp
      obtain rfl := Option.some.inj hp
      rfl
theorem every_good : ∀ {f : Fo}, f.Every ElOk → f.Good ∧ f.Two ∧ f.All (fun n => PyData.strOk n = true) POk ∧ f.All (fun _ => True) (fun p => QOk p.2)
  | .nil, _ => ⟨trivial, trivial, trivial, trivial⟩
  | .cons nm ps k r, ⟨⟨h1, h2, h3, h4, h5, h6⟩, hk, hr⟩ => by
    obtain ⟨a1, a2, a3, a4⟩ := every_good hk
    obtain ⟨b1, b2, b3, b4⟩ := every_good hr
    refine ⟨⟨h1, fun p hp => ⟨(h5 p hp).1, Nat.le_trans (h5 p hp).2.2.2.1 (by decide)⟩, h6, a1, b1⟩, ⟨h4, a2, b2⟩, ⟨h3, fun p hp => ⟨(h5 p hp).2.2.1, (h5 p hp).2.2.2.2⟩, a3, b3⟩, ⟨trivial, fun p hp => ?_, a4, b4⟩⟩
    have := qok (l := sl p.2) (by rw [Array.length_toList]; exact Nat.le_trans (h5 p hp).2.2.2.1 (by decide))
    rw [tx_sl] at this
    exact this
theorem outA_len {p : Str × Str} (h1 : p.1.length ≤ 3) (h2 : p.2.length ≤ 12) : (outA p).length ≤ 100 := by
  have e := outA_L p
  have e2 : (outA p).length = (sl (outA p)).length := by rw [Array.length_toList]; rfl
  have hm := ee_len (vKs (sl p.2)) (sl p.2)
  have l1 : (sl p.1).length ≤ 3 := by rw [Array.length_toList]; exact h1
  have l2 : (sl p.2).length ≤ 12 := by rw [Array.length_toList]; exact h2
  have hs : (sepL p).length ≤ 1 := by
    unfold sepL
    split
    · decide
    · split <;> decide
  rw [e2, e]
  unfold midL
  simp only [List.length_append, List.length_cons, List.length_nil]
  omega
theorem outPs_len : ∀ {ps : List (Str × Str)}, (∀ p ∈ ps, p.1.length ≤ 3 ∧ p.2.length ≤ 12) → (outPs ps).length ≤ 100 * ps.length
  | [], _ => Nat.le_refl _
  | p :: r, h => by
    have h1 := outA_len (h p (.head _)).1 (h p (.head _)).2
    have h2 := outPs_len fun q hq => h q (.tail _ hq)
    rw [outPs, Str.length_append, List.length_cons]; omega
theorem outF_len : ∀ {f : Fo}, f.Every ElOk → (outF f).length ≤ 300 * f.size
  | .nil, _ => Nat.le_refl _
  | .cons nm ps k r, ⟨⟨h1, h2, h3, h4, h5, h6⟩, hk, hr⟩ => by
    have i1 := outF_len hk
    have i2 := outF_len hr
    have i3 := outPs_len (ps := ps) fun p hp => ⟨(h5 p hp).2.1, (h5 p hp).2.2.2.1⟩
    have l0 : Str.length Str.empty = 0 := rfl
    rw [outF, outN]
    simp only [Str.length_append, Fo.size]
    split <;> split <;> simp only [Str.length_append, ll_lt, ll_gt, ll_sg, ll_ls, ll_nl, l0] <;> omega
theorem tree_good (ns : List Int) : (treeOf ns).Good ∧ (treeOf ns).Two ∧ (treeOf ns).All (fun n => PyData.strOk n = true) POk ∧ (treeOf ns).All (fun _ => True) (fun p => QOk p.2) ∧ (treeOf ns).size = ns.length ∧ (outF (treeOf ns)).length ≤ 300 * ns.length := by
  obtain ⟨h1, h2⟩ := tree_every el_ok ns
  obtain ⟨a1, a2, a3, a4⟩ := every_good h1
  exact ⟨a1, a2, a3, a4, h2, h2 ▸ outF_len h1⟩
end Mine
end
-- part Lw
section
namespace Mine
local macro_rules | `(tactic| k_upd) => `(tactic| first | (refine' Rw.tl5 ?tl5 ?tl6; (case tl5 | tl6 => with_reducible assumption)) | fail "no tail")
theorem nq_inc {a : LA} {p : Addr} (h : @LT.lt Nat _ p a.d) (h1 : @LT.lt Nat _ a.d a.x) (h2 : @LT.lt Nat _ a.x a.e) (h3 : @LT.lt Nat _ a.e a.b) (h4 : @LT.lt Nat _ a.b a.q1) (h5 : @LT.lt Nat _ a.q1 a.q2) (h6 : @LT.lt Nat _ a.q2 a.q3) : a.Nq p := by
  have e1 := Nat.lt_trans h h1
  have e2 := Nat.lt_trans e1 h2
  have e3 := Nat.lt_trans e2 h3
  have e4 := Nat.lt_trans e3 h4
  have e5 := Nat.lt_trans e4 h5
  exact ⟨Nat.ne_of_lt e1, Nat.ne_of_lt h, Nat.ne_of_lt e3, Nat.ne_of_lt e2, Nat.ne_of_lt e4, Nat.ne_of_lt (Nat.lt_trans e5 h6), Nat.ne_of_lt e5⟩
theorem nd_inc {a : LA} (h1 : @LT.lt Nat _ a.d a.x) (h2 : @LT.lt Nat _ a.x a.e) (h3 : @LT.lt Nat _ a.e a.b) (h4 : @LT.lt Nat _ a.b a.q1) (h5 : @LT.lt Nat _ a.q1 a.q2) (h6 : @LT.lt Nat _ a.q2 a.q3) : a.Nd := by
  have c1 := Nat.lt_trans h1 h2
  have c2 := Nat.lt_trans c1 h3
  have c3 := Nat.lt_trans c2 h4
  have c4 := Nat.lt_trans c3 h5
  have c5 := Nat.lt_trans c4 h6
  have x2 := Nat.lt_trans h2 h3
  have x3 := Nat.lt_trans x2 h4
  have x4 := Nat.lt_trans x3 h5
  have x5 := Nat.lt_trans x4 h6
  have y3 := Nat.lt_trans h3 h4
  have y4 := Nat.lt_trans y3 h5
  have y5 := Nat.lt_trans y4 h6
  have z4 := Nat.lt_trans h4 h5
  have z5 := Nat.lt_trans z4 h6
  have w5 := Nat.lt_trans h5 h6
  constructor <;> first | exact Nat.ne_of_lt (by with_reducible assumption) | exact Nat.ne_of_gt (by with_reducible assumption)
section
variable {w : World} {dp un : Nat} {gd : Option (List Code)} {A₀ : Around} {base h₀ : Heap} {L : Addr} {m : Str → Option Value} {s : Shared} {p : Program} {loose : List Str} {mean : ExcName → Option Value} {mg mb : Str → Option Value} {outer : List Env} {Q : Flow → Shared → Prop} {E : Value → Shared → Prop}
theorem law_end {to du T0 fa : Addr} {cd : Value} {page : Str} {tp : Tok} {la : Option Value} {f : Str → Option Value} {fo : Fo} {vs rv : List Value} {n0 nr : Nat} {CL : List (Addr × Obj)} (B : Below A₀ base outer h₀)
  (F : Fr h₀ L s.heap (fun y => if y = Str.ofString "told" then some (.ref to) else if y = Str.ofString "last" then la else if y = Str.ofString "page" then some (.str page tp) else if y = Str.ofString "due" then some (.ref du) else if y = Str.ofString "drawn" then some (.ref T0) else f y)) (X : (Mine.KK w.params).In h₀)
  (N : News h₀ L s.heap ((to, listOf #[] 0) :: (du, listOf rv.toArray nr) :: CL)) (T : Top p loose mean mg mb h₀) (hd : dp + 80 + fo.size < 1000) (hu : un + 600 + 4 * fo.size < 9900) (hpg : page = outF fo)
  (l1 : @LT.lt Nat _ du to ∧ AllLt to CL) (hdu : AllLt du CL) (hT0 : (T0, listOf vs.toArray n0) ∈ CL) (hR0 : RdFo (fun a o => (a, o) ∈ CL) fo vs) (hrv : IntsAre rv (rowsF fo 1))
  (g1 : fo.Good) (g2 : fo.Two) (g3 : fo.All (fun n => PyData.strOk n = true) POk) (g4 : fo.size ≤ 30) (g5 : (outF fo).length ≤ 100000)
  (hQ : ∀ h' k' m' news', Fr h₀ L h' m' → News h₀ L h' news' → Q (.ret (.bool true)) { s with heap := h', toks := k' }) :
  wpAny (model PG w) (Around.mk none dp (some (envOf (Str.ofString "law") lawScope L fa cd :: outer)) gd un) (execs (lawBody.drop 4) (envOf (Str.ofString "law") lawScope L fa cd)) Q E s := by
  show wpAny _ _ (execs (List.cons _ _) _) _ _ _
  rw [show lawScope = Scope.mk _ _ _ _ _ from rfl]
  (try k_fold)
  have hpl : page.length ≤ 1048576 := by rw [hpg]; omega
  repeat' ((fail_if_success (with_reducible show wpAny _ _ (call (Value.ref _) _ _) _ _ _)); (first | walk_at "one step"))
  show wpAny _ _ (call (.ref 756) [_] [(Str.ofString "posix", .bool false), (Str.ofString "punctuation_chars", .str (Str.ofString "<>/=") _)]) _ _ _
  rename News h₀ _ _ _ => N3
  rename Fr h₀ _ _ _ => F3
  with_reducible refine' shx_ct (s := { s with heap := _, toks := _ }) B F3 X N3 T rfl rfl ?sd hpl ?_
  case sd => ((try dsimp only [Around.deeper]); omega)
  intro x d b e q1 q2 q3 h5 k5 tt u1 u2 u3 u4 u5 u6 ts tl tk F5 N5 o1 o2 o3 o4 o5 o6 o7
  clear N3 F3
  (try dsimp only)
  obtain ⟨σ', hrd⟩ := page_ok fo g1
  have hto : @LT.lt Nat _ to d := o1 _ (.head _)
  have hdd : @LT.lt Nat _ du d := o1 _ (.tail _ (.head _))
  have hcl : ∀ q ∈ CL, @LT.lt Nat _ q.1 d := fun q hq => o1 q (.tail _ (.tail _ hq))
  have nd : LA.Nd ⟨x, d, b, e, q1, q2, q3, tt, u1, u2, u3, u4, u5, page⟩ := nd_inc o2 o3 o4 o5 o6 o7
  repeat' ((fail_if_success (with_reducible show wpAny _ _ (call (Value.ref _) _ _) _ _ _)); (first | walk_at "one step"))
  have R : RdC w ⟨none, none, sl (outF fo), 1, false⟩ (rowsF fo 1) fo σ' := rd_ct hrd
  unfold RdC at R
  rename News h₀ _ _ _ => N5
  rename Fr h₀ _ _ _ => F5
  have hNq : LA.Nq ⟨x, d, b, e, q1, q2, q3, tt, u1, u2, u3, u4, u5, page⟩ to := by
    exact nq_inc hto o2 o3 o4 o5 o6 o7
  have hCq : ∀ p ∈ CL, LA.Nq ⟨x, d, b, e, q1, q2, q3, tt, u1, u2, u3, u4, u5, page⟩ p.1 := by
    intro q hq
    exact nq_inc (hcl q hq) o2 o3 o4 o5 o6 o7
  have c1 := tb_lt l1.2
  have hCt : ∀ p ∈ CL, p.1 ≠ to := fun q hq => Nat.ne_of_lt (c1 q hq)
  have hI0 : Inp page none 0 (sl (outF fo)) := .rd (Nat.zero_le _) (by rw [List.drop_zero, hpg])
  with_reducible refine' R (s := { s with heap := _, toks := _ }) (a := ⟨x, d, b, e, q1, q2, q3, tt, u1, u2, u3, u4, u5, page⟩) (rw := to) (rv := []) (nr := 0) (rs0 := []) (ts := ts) (tl := tl) (tk := tk) (tc := u1) (u6 := u6) (tb := u1) (pos := 0) (k1 := 0) (k3 := 0) nd B F5 X N5 ?rs T rfl rfl ?rd ?ru ?rz ?rI ?rb hNq .nil ?rl g2 ?_
  case rs => exact List.forall_mem_cons.mpr ⟨by k_mem, List.forall_mem_cons.mpr ⟨by k_mem, List.forall_mem_cons.mpr ⟨by k_mem, List.forall_mem_cons.mpr ⟨by k_mem, List.forall_mem_cons.mpr ⟨by k_mem, List.forall_mem_cons.mpr ⟨by k_mem, List.forall_mem_cons.mpr ⟨by k_mem, List.forall_mem_cons.mpr ⟨by k_mem, List.forall_mem_nil _⟩⟩⟩⟩⟩⟩⟩⟩
  case rd => ((try dsimp only [Around.deeper]); omega)
  case ru => ((try dsimp only [Around.deeper]); omega)
  case rz => exact hpl
  case rI => exact hI0
  case rb => exact fun t z => (nomatch z)
  case rl => (rw [List.length_nil]; omega)
  intro h6 k6 T' vs6 nt6 CK rv6 nr6 ts6 tl6 tk6 tc6 u66 tb6 pos6 k16 k36 F6 HN6 hT6 hR6 hC6 I6 hb6 hrv6
  (try dsimp only at HN6)
  have N6 := HN6 _ (by k_upd)
  clear HN6 R hrd I6 hb6
  have N7 : News h₀ L h6 ((to, listOf rv6.toArray nr6) :: (du, listOf rv.toArray nr) :: (CK ++ CL)) := by
    refine List.forall_mem_cons.mpr ⟨N6 _ (List.mem_append_right _ (by k_mem)), List.forall_mem_cons.mpr ⟨N6 _ (List.mem_append_right _ (by k_mem)), fun q hq => ?_⟩⟩
    rcases List.mem_append.mp hq with hq | hq
    · exact N6 q (List.mem_append_left _ hq)
    · exact N6 q (List.mem_append_right _ (.tail _ (.tail _ (.tail _ (.tail _ (.tail _ (.tail _ (.tail _ (.tail _ (.tail _ hq))))))))))
  clear N6 N5 F5
  rw [List.nil_append] at hrv6
  (try dsimp only)
  repeat' ((fail_if_success (with_reducible show wpAny _ _ (compareOp _ _ _) _ _ _)); (first | walk_at "one step"))
  rename News h₀ _ _ _ => N8
  with_reducible refine' eq_forests (G := fun a o => (a, o) ∈ CK) (G' := fun a o => (a, o) ∈ CL) ?ea ?eb hR6 ?ec hR0 ?ed g3 g4 ?eu ?_
  case ea => exact (N8 _ (.tail _ (.tail _ (List.mem_append_left _ hT6)))).1
  case eb => exact (N8 _ (.tail _ (.tail _ (List.mem_append_right _ hT0)))).1
  case ec => exact fun a o z => (N8 _ (.tail _ (.tail _ (List.mem_append_left _ z)))).1
  case ed => exact fun a o z => (N8 _ (.tail _ (.tail _ (List.mem_append_right _ z)))).1
  case eu => ((simp only [cLine_is]); (try dsimp only); omega)
  repeat' ((fail_if_success (with_reducible show wpAny _ _ (compareOp _ _ _) _ _ _)); (first | walk_at "one step"))
  rename News h₀ _ _ _ => N9
  with_reducible refine' ke_eq_ints ?ia ?ib hrv6 hrv ?iu ?_
  case ia => exact News.isList N9 (.head _)
  case ib => exact News.isList N9 (.tail _ (.head _))
  case iu => ((simp only [cLine_is]); (try dsimp only); omega)
  rw [decide_eq_true rfl]
  repeat' ((fail_if_success (with_reducible show Q _ _)); (first | walk_at "one step"))
  refine' hQ _ _ _ _ ?qF ?qN
  case qF => assumption
  case qN => assumption
end
section
variable {w : World} {dp un : Nat} {gd : Option (List Code)} {A₀ : Around} {base h₀ : Heap} {L : Addr} {m : Str → Option Value} {s : Shared} {p : Program} {loose : List Str} {mean : ExcName → Option Value} {mg mb : Str → Option Value} {outer : List Env} {Q : Flow → Shared → Prop} {E : Value → Shared → Prop}
theorem law_walk {sa fa : Addr} {cd : Value} {nv : List Value} {ns : List Int} (B : Below A₀ base outer h₀) (F : Fr h₀ L s.heap (fun x => List.lookup x [(Str.ofString "script", Value.ref sa)].reverse)) (X : (Mine.KK w.params).In h₀) (N : News h₀ L s.heap [])
  (T : Top p loose mean mg mb h₀) (hlst : h₀.IsList sa nv.toArray) (hns : IntsAre nv ns) (hl : ns.length ≤ 63) (hmul : ∀ x ∈ ns, IntMulOk 7 (x.fdiv 3)) (hd : dp + 90 < 1000) (hu : un + 700 < 9900)
  (hQ : ∀ h' k' m' news', Fr h₀ L h' m' → News h₀ L h' news' → Q (.ret (.bool true)) { s with heap := h', toks := k' }) :
  wpAny (model PG w) (Around.mk none dp (some (envOf (Str.ofString "law") lawScope L fa cd :: outer)) gd un) (execs lawBody (envOf (Str.ofString "law") lawScope L fa cd)) Q E s := by
  show wpAny _ _ (execs (List.cons _ _) _) _ _ _
  rw [show lawScope = Scope.mk _ _ _ _ _ from rfl]
  (try k_fold)
  have hnl : nv.length ≤ 63 := by rw [hns.length]; exact hl
  repeat' ((fail_if_success (with_reducible show wpAny _ _ (call (Value.ref _) _ _) _ _ _)); (first | walk_at "one step"))
  rename News h₀ _ _ _ => N1
  rename Fr h₀ _ _ _ => F1
  rename IntsAre _ (List.take 3 ns ++ [120, 4]) => I1
  have hfl : (List.take 3 ns ++ [120, 4]).length ≤ 5 := by rw [List.length_append, List.length_take]; simp; omega
  have hmu : ∀ x ∈ List.take 3 ns ++ [120, 4], IntMulOk 7 (x.fdiv 3) := by
    intro x hx
    rcases List.mem_append.mp hx with hx | hx
    · exact hmul x (List.mem_of_mem_take hx)
    · simp only [List.mem_cons, List.not_mem_nil, or_false] at hx
      rcases hx with rfl | rfl <;> exact IntMulOk.of_bits (by decide +kernel) (by decide +kernel)
  obtain ⟨t1, t2, t3, t4, t5, t6⟩ := tree_good (List.take 3 ns ++ [120, 4])
  with_reducible refine' tree_ct (s := { s with heap := _, toks := _ }) B F1 X N1 ?hax I1 ?nl hmu T rfl rfl ?hd1 ?_
  case hax => exact List.Mem.head _
  case nl => rw [I1.length]; omega
  case hd1 => ((try dsimp only [Around.deeper]); omega)
  generalize hfo : treeOf (List.take 3 ns ++ [120, 4]) = fo at *
  intro h2 k2 T0 vs n0 CL F2 N2 hT0 hR0
  replace N2 : News h₀ L h2 CL := news_sub N2 fun p hp => List.mem_append_left _ hp
  clear N1 F1
  (try dsimp only)
  repeat' ((fail_if_success (with_reducible show wpAny _ _ (call (Value.ref _) _ _) _ _ _)); (first | walk_at "one step"))
  rename News h₀ _ _ _ => N3
  rename Fr h₀ _ _ _ => F3
  rename (∀ p ∈ CL, p.1 < _) => c3
  have W : WrC w fo := wr_ct w 31 fo (by omega)
  unfold WrC at W
  with_reducible refine' W (s := { s with heap := _, toks := _ }) B F3 X N3 ?wra ?wta ?wrd .nil T rfl rfl ?wd ?wu t3 t4 t2 ?wsz ?wl ?w0 ?w1 ?wv ?_
  case wra => exact List.Mem.head _
  case wta => exact .inr ⟨.tail _ hT0, Nat.ne_of_lt (c3 _ hT0)⟩
  case wrd => exact hR0.mono fun a o z => .inr ⟨.tail _ z, Nat.ne_of_lt (c3 _ z)⟩
  case wd => ((try dsimp only [Around.deeper]); omega)
  case wu => ((try dsimp only [Around.deeper]); omega)
  case wsz => omega
  case wl => (rw [show (Str.ofString "").length = 0 by decide +kernel]; omega)
  case w0 => omega
  case w1 => omega
  case wv => (rw [List.length_nil]; omega)
  intro h4 k4 T4 rv4 nr4 tt4 tr4 F4 hT4 hrv4 HN4
  have N4 := HN4 _ (Rw.hit (.head _) (Rw.same fun q hq => List.forall_mem_cons.mpr ⟨Nat.ne_of_gt (c3 q hq), List.forall_mem_nil _⟩))
  clear HN4 N3 F3
  rw [List.nil_append] at hrv4
  (try dsimp only at hT4 ⊢)
  repeat' ((fail_if_success (with_reducible show wpAny _ _ (execs (List.cons (Stmt.Assign [Expr.Name (Str.ofString "found") _] _ _) _) _) _ _ _)); (first | walk_at "one step"))
  rename News h₀ _ _ _ => N5
  rename Fr h₀ _ _ _ => F5
  rename (@LT.lt Nat _ _ _ ∧ _) => l5
  show wpAny _ (Around.mk none _ (some (envOf _ lawScope _ _ _ :: _)) _ _) (execs (lawBody.drop 4) (envOf (Str.ofString "law") lawScope L fa cd)) _ _ _
  have hpg : Str.ofString "" ++ outF fo = outF fo := by rw [show Str.ofString "" = Str.empty by decide +kernel, Str.empty_append]
  with_reducible refine law_end (s := { s with heap := _, toks := _ }) B F5 X N5 T ?e1 ?e2 hpg l5 ?e3 hT0 hR0 hrv4 t1 t2 t3 ?e4 ?e5 ?_
  case e1 => omega
  case e2 => omega
  case e3 => exact allLt_of c3
  case e4 => omega
  case e5 => omega
  exact hQ
end
end Mine
end
-- part Fin
section
namespace Mine
section
theorem o1 : (chainsOk vwL && opensWell rowL.prog && (frees rowL.toRowW && rowL.within.isEmpty)) = true := by decide +kernel
local macro_rules | `(tactic| k_qdec) => `(tactic| decide +kernel)
theorem hd1 (k1 : rowL.wellSaid = true) (o1 : (chainsOk vwL && opensWell rowL.prog && (frees rowL.toRowW && rowL.within.isEmpty)) = true) : rowL.Holds := by
  refine holds_open (q := vwL) (loose := looseN) (Xt := XtM) (XP := XL vwL []) (Yf := Hook.obs hookM) (Ya := Hook.val hookM) (YP := Hook.says hookM) (N := 10000) left_M (Hook.of hookM) (Hook.keeps hookM) (fun s e => xl_of s (Bool.and_eq_true_iff.mp e).1) XL.keeps (by rfl) (by rfl) (by rfl) (fun s e => recFacts_of (Bool.and_eq_true_iff.mp e).2) (by first | rfl | fail "open_line: no head takes a call that writes beside a table") k1 o1 ⟨rfl, rfl, rfl, rfl, rfl, by decide +kernel⟩ ?hw ?hc
  case hw => w_witness2
  case hc =>
    w_strict k_go0
    rename Fr _ _ _ _ => F
    rename News _ _ _ [] => N
    rename (KK _).In _ => X
    rename Top _ _ _ _ _ _ => T
    rename IntsAre _ _ => hI
    rename Heap.IsList _ _ _ => hL
    show wpAny (model PG _) (Around.mk none _ (some (envOf _ lawScope _ _ _ :: _)) _ _) (execs lawBody (envOf (Str.ofString "law") lawScope _ _ _)) _ _ _
    with_reducible refine' law_walk (s := { heap := _, gens := _, drawn := _, toks := _, os := _ }) (below_caller _) F X N T hL hI ?hl ?hm ?hd ?hu ?hQ
    case hl => omega
    case hm =>
      intro x hx
      exact IntMulOk.of_bits (by decide +kernel) (intBits_fdiv_le (intBits_le_of_item hx (by assumption)))
    case hd => decide
    case hu => decide
    case hQ =>
      intro h' k' m' news' F' N'
      k_end; wrow_close
end
end Mine
end
end
open PySem PySem.W PyProof.Rows
theorem PySem.Challenge.cw_ij0056_01_holds : PySem.Challenge.rw_ij0056_01.Holds := by
  exact ⟨Mine.sd2, Mine.hd1 Mine.sd1 Mine.o1⟩
