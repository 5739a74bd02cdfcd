import PyProof.Rows.All
import Wide.All
import OpenK.AllK
import Wide.FinOn
import PyProof.WalksMore
import KE.KIntText
import PyProof.Rows.StrBin
import PyProof.Rows.StrStep
import KE.KMethU
import KE.KCallOwn
import KE.KIsAll
import KE.RegKIsAll
import KE.KSuper
import KE.KFromBytes
import KE.KToBytes
import KE.KBytesCut
import KE.BytesMake
import Wide.BytesRules
import KE.KRevIter
import KE.KAnyBase
import KE.KBits
import PyProof.Rows.MatchSeqLen
import PyProof.ListNew
import PyProof.GenQ
import KE.KNestM
import KE.KxBytes
import KE.KxDecode
import OpenK.KRaise
import KE.KLam
import OpenK.KEqL
import PyProof.EqKinds
import PyProof.Rows.SeqMore
import PyProof.Rows.ChunkEnd
import PyProof.Rows.SeqSliceW
import KE.RegKSuper
import Lean
import PySem.Challenge.RW_bn0016_01
open PySem PySem.W PyProof.Rows
set_option Elab.async false
section
set_option maxRecDepth 100000
set_option maxHeartbeats 0
/-- the tables (of code made within a def) that the law may fill: the law's own, and those of the defs with a generator expression -/
def Mine.tabs : List PySem.Addr := [986, 782, 789, 796, 803, 810]
namespace Mine.hd
open PySem PySem.W PySem.Calls PyProof.Rows
abbrev p : Program := PySem.Challenge.pw_bn0016_01
def body : List Stmt := p.main.body
def nth (l : List Stmt) (n : Nat) : Stmt := l.getD n (.Pass ⟨0, 0, 0, 0⟩)
def inner (s : Stmt) : List Stmt := match s with
  | .ClassDef _ _ _ b _ _ _ _ _ _ _ => b
  | _ => []
def fnO (ty : Value) (d : Option Addr) (sl : Array (Option Value)) (s : Stmt) (qual : Str) (gl : Addr) (cl : List (Str × Addr)) (dV kV doc pm : Value) (an : Option Addr) (cd ct : Value) (bs : Addr) : Obj := match s with
  | .FunctionDef n a b _ _ _ sc _ _ _ => ⟨ty, d, .func { name := n, qualname := qual, params := a, body := .stmts b, scope := sc, globals := gl, closure := cl, defaults := dV, kwdefaults := kV, doc := doc, pyModule := pm, annotations := an, code := cd, closureTuple := ct, builtins := bs }, sl⟩
  | _ => default
abbrev Lit {α : Type} (a : α) : Type := { x : α // x = a }
abbrev kh := PyData.keyHash
def life : Life := {}
abbrev q : Pos := ⟨0, 0, 0, 0⟩
abbrev ann : Option Value := some (.ref 6)
def env : Env := { scope := p.main.scope, locals := mainNs, globals := mainNs, cells := [], code := .ref 13, frame := some 14 }
abbrev code : Code := .body (behindTheImports p) env
def o0 (P : Params) : Obj := ⟨.type "dict", none, .dict #[⟨kh P "__name__", .str "__name__" 1, .str "builtins" 160⟩, ⟨kh P "__doc__", .str "__doc__" 2, .builtin "builtins.__doc__:str#opaque"⟩, ⟨kh P "__package__", .str "__package__" 3, .builtin "builtins.__package__:str#opaque"⟩, ⟨kh P "__loader__", .str "__loader__" 4, .builtin "builtins.__loader__:shared#opaque"⟩, ⟨kh P "__spec__", .str "__spec__" 5, .builtin "builtins.__spec__#opaque"⟩, ⟨kh P "__build_class__", .str "__build_class__" 6, .builtin "__build_class__"⟩, ⟨kh P "__import__", .str "__import__" 7, .builtin "__import__"⟩, ⟨kh P "abs", .str "abs" 8, .builtin "abs"⟩, ⟨kh P "all", .str "all" 9, .builtin "all"⟩, ⟨kh P "any", .str "any" 10, .builtin "any"⟩, ⟨kh P "ascii", .str "ascii" 11, .builtin "ascii"⟩, ⟨kh P "bin", .str "bin" 12, .builtin "bin"⟩, ⟨kh P "breakpoint", .str "breakpoint" 13, .builtin "breakpoint"⟩, ⟨kh P "callable", .str "callable" 14, .builtin "callable"⟩, ⟨kh P "chr", .str "chr" 15, .builtin "chr"⟩, ⟨kh P "compile", .str "compile" 16, .builtin "compile"⟩, ⟨kh P "delattr", .str "delattr" 17, .builtin "delattr"⟩, ⟨kh P "dir", .str "dir" 18, .builtin "dir"⟩, ⟨kh P "divmod", .str "divmod" 19, .builtin "divmod"⟩, ⟨kh P "eval", .str "eval" 20, .builtin "eval"⟩, ⟨kh P "exec", .str "exec" 21, .builtin "exec"⟩, ⟨kh P "format", .str "format" 22, .builtin "format"⟩, ⟨kh P "getattr", .str "getattr" 23, .builtin "getattr"⟩, ⟨kh P "globals", .str "globals" 24, .builtin "globals"⟩, ⟨kh P "hasattr", .str "hasattr" 25, .builtin "hasattr"⟩, ⟨kh P "hash", .str "hash" 26, .builtin "hash"⟩, ⟨kh P "hex", .str "hex" 27, .builtin "hex"⟩, ⟨kh P "id", .str "id" 28, .builtin "id"⟩, ⟨kh P "input", .str "input" 29, .builtin "input"⟩, ⟨kh P "isinstance", .str "isinstance" 30, .builtin "isinstance"⟩, ⟨kh P "issubclass", .str "issubclass" 31, .builtin "issubclass"⟩, ⟨kh P "iter", .str "iter" 32, .builtin "iter"⟩, ⟨kh P "aiter", .str "aiter" 33, .builtin "aiter"⟩, ⟨kh P "len", .str "len" 34, .builtin "len"⟩, ⟨kh P "locals", .str "locals" 35, .builtin "locals"⟩, ⟨kh P "max", .str "max" 36, .builtin "max"⟩, ⟨kh P "min", .str "min" 37, .builtin "min"⟩, ⟨kh P "next", .str "next" 38, .builtin "next"⟩, ⟨kh P "anext", .str "anext" 39, .builtin "anext"⟩, ⟨kh P "oct", .str "oct" 40, .builtin "oct"⟩, ⟨kh P "ord", .str "ord" 41, .builtin "ord"⟩, ⟨kh P "pow", .str "pow" 42, .builtin "pow"⟩, ⟨kh P "print", .str "print" 43, .builtin "print"⟩, ⟨kh P "repr", .str "repr" 44, .builtin "repr"⟩, ⟨kh P "round", .str "round" 45, .builtin "round"⟩, ⟨kh P "setattr", .str "setattr" 46, .builtin "setattr"⟩, ⟨kh P "sorted", .str "sorted" 47, .builtin "sorted"⟩, ⟨kh P "sum", .str "sum" 48, .builtin "sum"⟩, ⟨kh P "vars", .str "vars" 49, .builtin "vars"⟩, ⟨kh P "None", .str "None" 50, .none⟩, ⟨kh P "Ellipsis", .str "Ellipsis" 51, .ellipsis⟩, ⟨kh P "NotImplemented", .str "NotImplemented" 52, .notImplemented⟩, ⟨kh P "False", .str "False" 53, .bool false⟩, ⟨kh P "True", .str "True" 54, .bool true⟩, ⟨kh P "bool", .str "bool" 55, .type "bool"⟩, ⟨kh P "memoryview", .str "memoryview" 56, .type "memoryview"⟩, ⟨kh P "bytearray", .str "bytearray" 57, .type "bytearray"⟩, ⟨kh P "bytes", .str "bytes" 58, .type "bytes"⟩, ⟨kh P "classmethod", .str "classmethod" 59, .type "classmethod"⟩, ⟨kh P "complex", .str "complex" 60, .type "complex"⟩, ⟨kh P "dict", .str "dict" 61, .type "dict"⟩, ⟨kh P "enumerate", .str "enumerate" 62, .type "enumerate"⟩, ⟨kh P "filter", .str "filter" 63, .type "filter"⟩, ⟨kh P "float", .str "float" 64, .type "float"⟩, ⟨kh P "frozenset", .str "frozenset" 65, .type "frozenset"⟩, ⟨kh P "property", .str "property" 66, .type "property"⟩, ⟨kh P "int", .str "int" 67, .type "int"⟩, ⟨kh P "list", .str "list" 68, .type "list"⟩, ⟨kh P "map", .str "map" 69, .type "map"⟩, ⟨kh P "object", .str "object" 70, .type "object"⟩, ⟨kh P "range", .str "range" 71, .type "range"⟩, ⟨kh P "reversed", .str "reversed" 72, .type "reversed"⟩, ⟨kh P "set", .str "set" 73, .type "set"⟩, ⟨kh P "slice", .str "slice" 74, .type "slice"⟩, ⟨kh P "staticmethod", .str "staticmethod" 75, .type "staticmethod"⟩, ⟨kh P "str", .str "str" 76, .type "str"⟩, ⟨kh P "super", .str "super" 77, .type "super"⟩, ⟨kh P "tuple", .str "tuple" 78, .type "tuple"⟩, ⟨kh P "type", .str "type" 79, .type "type"⟩, ⟨kh P "zip", .str "zip" 80, .type "zip"⟩, ⟨kh P "__debug__", .str "__debug__" 81, .bool true⟩, ⟨kh P "BaseException", .str "BaseException" 82, .type "BaseException"⟩, ⟨kh P "BaseExceptionGroup", .str "BaseExceptionGroup" 83, .type "BaseExceptionGroup"⟩, ⟨kh P "Exception", .str "Exception" 84, .type "Exception"⟩, ⟨kh P "GeneratorExit", .str "GeneratorExit" 85, .type "GeneratorExit"⟩, ⟨kh P "KeyboardInterrupt", .str "KeyboardInterrupt" 86, .type "KeyboardInterrupt"⟩, ⟨kh P "SystemExit", .str "SystemExit" 87, .type "SystemExit"⟩, ⟨kh P "ArithmeticError", .str "ArithmeticError" 88, .type "ArithmeticError"⟩, ⟨kh P "AssertionError", .str "AssertionError" 89, .type "AssertionError"⟩, ⟨kh P "AttributeError", .str "AttributeError" 90, .type "AttributeError"⟩, ⟨kh P "BufferError", .str "BufferError" 91, .type "BufferError"⟩, ⟨kh P "EOFError", .str "EOFError" 92, .type "EOFError"⟩, ⟨kh P "ImportError", .str "ImportError" 93, .type "ImportError"⟩, ⟨kh P "LookupError", .str "LookupError" 94, .type "LookupError"⟩, ⟨kh P "MemoryError", .str "MemoryError" 95, .type "MemoryError"⟩, ⟨kh P "NameError", .str "NameError" 96, .type "NameError"⟩, ⟨kh P "OSError", .str "OSError" 97, .type "OSError"⟩, ⟨kh P "ReferenceError", .str "ReferenceError" 98, .type "ReferenceError"⟩, ⟨kh P "RuntimeError", .str "RuntimeError" 99, .type "RuntimeError"⟩, ⟨kh P "StopAsyncIteration", .str "StopAsyncIteration" 100, .type "StopAsyncIteration"⟩, ⟨kh P "StopIteration", .str "StopIteration" 101, .type "StopIteration"⟩, ⟨kh P "SyntaxError", .str "SyntaxError" 102, .type "SyntaxError"⟩, ⟨kh P "SystemError", .str "SystemError" 103, .type "SystemError"⟩, ⟨kh P "TypeError", .str "TypeError" 104, .type "TypeError"⟩, ⟨kh P "ValueError", .str "ValueError" 105, .type "ValueError"⟩, ⟨kh P "Warning", .str "Warning" 106, .type "Warning"⟩, ⟨kh P "FloatingPointError", .str "FloatingPointError" 107, .type "FloatingPointError"⟩, ⟨kh P "OverflowError", .str "OverflowError" 108, .type "OverflowError"⟩, ⟨kh P "ZeroDivisionError", .str "ZeroDivisionError" 109, .type "ZeroDivisionError"⟩, ⟨kh P "BytesWarning", .str "BytesWarning" 110, .type "BytesWarning"⟩, ⟨kh P "DeprecationWarning", .str "DeprecationWarning" 111, .type "DeprecationWarning"⟩, ⟨kh P "EncodingWarning", .str "EncodingWarning" 112, .type "EncodingWarning"⟩, ⟨kh P "FutureWarning", .str "FutureWarning" 113, .type "FutureWarning"⟩, ⟨kh P "ImportWarning", .str "ImportWarning" 114, .type "ImportWarning"⟩, ⟨kh P "PendingDeprecationWarning", .str "PendingDeprecationWarning" 115, .type "PendingDeprecationWarning"⟩, ⟨kh P "ResourceWarning", .str "ResourceWarning" 116, .type "ResourceWarning"⟩, ⟨kh P "RuntimeWarning", .str "RuntimeWarning" 117, .type "RuntimeWarning"⟩, ⟨kh P "SyntaxWarning", .str "SyntaxWarning" 118, .type "SyntaxWarning"⟩, ⟨kh P "UnicodeWarning", .str "UnicodeWarning" 119, .type "UnicodeWarning"⟩, ⟨kh P "UserWarning", .str "UserWarning" 120, .type "UserWarning"⟩, ⟨kh P "BlockingIOError", .str "BlockingIOError" 121, .type "BlockingIOError"⟩, ⟨kh P "ChildProcessError", .str "ChildProcessError" 122, .type "ChildProcessError"⟩, ⟨kh P "ConnectionError", .str "ConnectionError" 123, .type "ConnectionError"⟩, ⟨kh P "FileExistsError", .str "FileExistsError" 124, .type "FileExistsError"⟩, ⟨kh P "FileNotFoundError", .str "FileNotFoundError" 125, .type "FileNotFoundError"⟩, ⟨kh P "InterruptedError", .str "InterruptedError" 126, .type "InterruptedError"⟩, ⟨kh P "IsADirectoryError", .str "IsADirectoryError" 127, .type "IsADirectoryError"⟩, ⟨kh P "NotADirectoryError", .str "NotADirectoryError" 128, .type "NotADirectoryError"⟩, ⟨kh P "PermissionError", .str "PermissionError" 129, .type "PermissionError"⟩, ⟨kh P "ProcessLookupError", .str "ProcessLookupError" 130, .type "ProcessLookupError"⟩, ⟨kh P "TimeoutError", .str "TimeoutError" 131, .type "TimeoutError"⟩, ⟨kh P "IndentationError", .str "IndentationError" 132, .type "IndentationError"⟩, ⟨kh P "_IncompleteInputError", .str "_IncompleteInputError" 133, .type "_IncompleteInputError"⟩, ⟨kh P "IndexError", .str "IndexError" 134, .type "IndexError"⟩, ⟨kh P "KeyError", .str "KeyError" 135, .type "KeyError"⟩, ⟨kh P "ModuleNotFoundError", .str "ModuleNotFoundError" 136, .type "ModuleNotFoundError"⟩, ⟨kh P "NotImplementedError", .str "NotImplementedError" 137, .type "NotImplementedError"⟩, ⟨kh P "PythonFinalizationError", .str "PythonFinalizationError" 138, .type "PythonFinalizationError"⟩, ⟨kh P "RecursionError", .str "RecursionError" 139, .type "RecursionError"⟩, ⟨kh P "UnboundLocalError", .str "UnboundLocalError" 140, .type "UnboundLocalError"⟩, ⟨kh P "UnicodeError", .str "UnicodeError" 141, .type "UnicodeError"⟩, ⟨kh P "BrokenPipeError", .str "BrokenPipeError" 142, .type "BrokenPipeError"⟩, ⟨kh P "ConnectionAbortedError", .str "ConnectionAbortedError" 143, .type "ConnectionAbortedError"⟩, ⟨kh P "ConnectionRefusedError", .str "ConnectionRefusedError" 144, .type "ConnectionRefusedError"⟩, ⟨kh P "ConnectionResetError", .str "ConnectionResetError" 145, .type "ConnectionResetError"⟩, ⟨kh P "TabError", .str "TabError" 146, .type "TabError"⟩, ⟨kh P "UnicodeDecodeError", .str "UnicodeDecodeError" 147, .type "UnicodeDecodeError"⟩, ⟨kh P "UnicodeEncodeError", .str "UnicodeEncodeError" 148, .type "UnicodeEncodeError"⟩, ⟨kh P "UnicodeTranslateError", .str "UnicodeTranslateError" 149, .type "UnicodeTranslateError"⟩, ⟨kh P "ExceptionGroup", .str "ExceptionGroup" 150, .type "ExceptionGroup"⟩, ⟨kh P "EnvironmentError", .str "EnvironmentError" 151, .type "OSError"⟩, ⟨kh P "IOError", .str "IOError" 152, .type "OSError"⟩, ⟨kh P "open", .str "open" 153, .builtin "open"⟩, ⟨kh P "quit", .str "quit" 154, .builtin "builtins.quit#opaque"⟩, ⟨kh P "exit", .str "exit" 155, .builtin "builtins.exit#opaque"⟩, ⟨kh P "copyright", .str "copyright" 156, .builtin "builtins.copyright#opaque"⟩, ⟨kh P "credits", .str "credits" 157, .builtin "builtins.credits#opaque"⟩, ⟨kh P "license", .str "license" 158, .builtin "builtins.license#opaque"⟩, ⟨kh P "help", .str "help" 159, .builtin "builtins.help#opaque"⟩] 159, #[]⟩
def o1 (P : Params) : Obj := ⟨.type "dict", none, .dict #[⟨kh P "builtins", .str "builtins" 162, .ref 4⟩, ⟨kh P "__main__", .str "__main__" 163, .ref 5⟩] 2, #[]⟩
def o2 : Obj := ⟨.none, none, .dict #[] 0, #[]⟩
def o3 (P : Params) : Obj := ⟨.type "dict", none, .dict #[⟨kh P "__name__", .str "__name__" 165, .str "__main__" 164⟩, ⟨kh P "__doc__", .str "__doc__" 166, .none⟩, ⟨kh P "__package__", .str "__package__" 167, .none⟩, ⟨kh P "__loader__", .str "__loader__" 168, .builtin "__main__.__loader__#opaque"⟩, ⟨kh P "__spec__", .str "__spec__" 169, .none⟩, ⟨kh P "__annotations__", .str "__annotations__" 170, .ref 6⟩, ⟨kh P "__builtins__", .str "__builtins__" 171, .ref 4⟩, ⟨kh P "__file__", .str "__file__" 173, .str "/claim/cut.py" 172⟩, ⟨kh P "__cached__", .str "__cached__" 174, .none⟩] 9, #[]⟩
def o4 : Obj := ⟨.type "module", some 0, .plain, #[]⟩
def o5 : Obj := ⟨.type "module", some 3, .plain, #[]⟩
def o6 : Obj := ⟨.type "dict", none, .dict #[] 0, #[]⟩
def o7 : Obj := ⟨.type "tuple", none, .seq #[] 0, #[]⟩
def o8 : Obj := ⟨.none, none, .fields #[], #[]⟩
def o9 : Obj := ⟨.type "code", none, .fields #[.str "<module>" 176, .str "<module>" 177, .str "/claim/cut.py" 178, .int 1 0, .int 0 0, .int 0 0, .int 0 0, .int 0 0, .ref 7, .bool false, .int 175 0, .ref 8, .none, .none, .none, .none, .int 179 0, .int 1 0, .str "/claim/cut.py" 180], #[]⟩
def o10 : Obj := ⟨.type "frame", none, .plain, #[(some (.ref 9)), (some (.ref 3)), (some (.ref 3)), none, (some (.str "__main__" 164)), none, (some (.ref 0))]⟩
def o11 : Obj := ⟨.type "tuple", none, .seq #[] 0, #[]⟩
def o12 : Obj := ⟨.none, none, .fields #[], #[]⟩
def o13 : Obj := ⟨.type "code", none, .fields #[.str "<module>" 182, .str "<module>" 183, .str "/claim/cut.py" 184, .int 1 0, .int 0 0, .int 0 0, .int 0 0, .int 0 0, .ref 11, .bool false, .int 181 0, .ref 12, .none, .none, .none, .none, .int 185 0, .int 1 0, .str "/claim/cut.py" 186], #[]⟩
def o14 : Obj := ⟨.type "frame", none, .plain, #[(some (.ref 13)), (some (.ref 3)), (some (.ref 3)), none, (some (.str "__main__" 164)), none, (some (.ref 0))]⟩
def T0 (P : Params) : BT := .node (o0 P) (.node (o1 P) (.node (o3 P) (.node o7 .nil .nil) (.node o11 .nil .nil)) (.node o5 (.node o9 .nil .nil) (.node o13 .nil .nil))) (.node o2 (.node o4 (.node o8 .nil .nil) (.node o12 .nil .nil)) (.node o6 (.node o10 .nil .nil) (.node o14 .nil .nil)))
def S0 (w : World) (os : OsState) : SharedT := { tree := T0 w.params, n := 15, life := life, gens := ⟨[]⟩, drawn := {}, toks := 187, os := os }
abbrev ps0 : Pos := ⟨0, 0, 0, 0⟩
def o3x1 (P : Params) : Obj := ⟨.type "dict", none, .dict #[⟨kh P "__name__", .str "__name__" 165, .str "dilithium_py.polynomials.polynomials" 526⟩, ⟨kh P "__doc__", .str "__doc__" 166, .none⟩, ⟨kh P "__package__", .str "__package__" 167, .none⟩, ⟨kh P "__loader__", .str "__loader__" 168, .builtin "__main__.__loader__#opaque"⟩, ⟨kh P "__spec__", .str "__spec__" 169, .none⟩, ⟨kh P "__annotations__", .str "__annotations__" 170, .ref 6⟩, ⟨kh P "__builtins__", .str "__builtins__" 171, .ref 4⟩, ⟨kh P "__file__", .str "__file__" 173, .str "/claim/cut.py" 172⟩, ⟨kh P "__cached__", .str "__cached__" 174, .none⟩, ⟨kh P "_wall", .str "_wall" 193, .ref 21⟩, ⟨kh P "PolynomialRingGeneric", .str "PolynomialRingGeneric" 256, .ref 66⟩, ⟨kh P "PolynomialGeneric", .str "PolynomialGeneric" 455, .ref 229⟩, ⟨kh P "Shake", .str "Shake" 525, .ref 278⟩, ⟨kh P "PolynomialRing", .str "PolynomialRing" 676, .ref 384⟩] 14, #[]⟩
def o12x1 : Obj := ⟨.none, none, .fields #[.int 1 0, .int 0 0, .ref 20, .int 5 0, .int 0 0, .ref 27, .int 26 0, .int 0 0, .ref 76, .int 151 0, .int 0 0, .ref 239, .int 180 0, .int 0 0, .ref 288], #[]⟩
def o15x1 : Obj := ⟨.type "tuple", none, .seq #[] 0, #[]⟩
def o16x1 : Obj := ⟨.none, none, .fields #[], #[]⟩
def o17x1 : Obj := ⟨.type "tuple", none, .seq #[.str "k" 190] 0, #[]⟩
def o18x1 : Obj := ⟨.type "tuple", none, .seq #[] 0, #[]⟩
def o19x1 : Obj := fnO (.none) none #[] (nth body 0) "_wall" 0 [] .none .none .none .none none .none .none 0
def o20x1 : Obj := ⟨.type "code", none, .fields #[.str "_wall" 187, .str "_wall" 188, .str "/claim/cut.py" 189, .int 1 0, .int 1 0, .int 0 0, .int 0 0, .int 3 0, .ref 15, .bool true, .int 181 0, .ref 16, .none, .ref 17, .ref 18, .ref 19, .int 191 0, .int 1 0, .str "/claim/cut.py" 192], #[]⟩
def to21x1 : Lit (fnO (.type "function") none #[] (nth body 0) "_wall" 3 [] .none .none .none (.str "__main__" 164) none (.ref 20) .none 0) := ⟨_, by conv => rhs; whnf⟩
abbrev o21x1 : Obj := to21x1.1
def o22x1 : Obj := ⟨.type "tuple", none, .seq #[] 0, #[]⟩
def o23x1 : Obj := ⟨.type "builtin_function_or_method", none, .fields #[.builtin "type.__prepare__", .type "type"], #[]⟩
def o24x1 (P : Params) : Obj := ⟨.type "dict", none, .dict #[⟨kh P "__module__", .str "__module__" 203, .str "dilithium_py.polynomials.polynomials_generic" 194⟩, ⟨kh P "__qualname__", .str "__qualname__" 205, .str "PolynomialRingGeneric" 204⟩, ⟨kh P "__firstlineno__", .str "__firstlineno__" 207, .int 5 206⟩, ⟨kh P "__init__", .str "__init__" 216, .ref 35⟩, ⟨kh P "zero", .str "zero" 223, .ref 42⟩, ⟨kh P "gen", .str "gen" 230, .ref 49⟩, ⟨kh P "__call__", .str "__call__" 238, .ref 56⟩, ⟨kh P "is_element", .str "is_element" 246, .ref 63⟩, ⟨kh P "__static_attributes__", .str "__static_attributes__" 249, .ref 64⟩] 9, #[]⟩
def o25x1 : Obj := ⟨.type "tuple", none, .seq #[] 0, #[]⟩
def o26x1 : Obj := ⟨.none, none, .fields #[.int 7 0, .int 4 0, .ref 34, .int 11 0, .int 4 0, .ref 41, .int 14 0, .int 4 0, .ref 48, .int 17 0, .int 4 0, .ref 55, .int 24 0, .int 4 0, .ref 62], #[]⟩
def o27x1 : Obj := ⟨.type "code", none, .fields #[.str "PolynomialRingGeneric" 198, .str "PolynomialRingGeneric" 199, .str "/claim/cut.py" 200, .int 5 0, .int 0 0, .int 0 0, .int 0 0, .int 0 0, .ref 25, .bool false, .int 181 0, .ref 26, .none, .none, .none, .none, .int 201 0, .int 5 0, .str "/claim/cut.py" 202], #[]⟩
def o28x1 : Obj := ⟨.type "frame", none, .plain, #[(some (.ref 27)), (some (.ref 3)), (some (.ref 24)), none, (some (.str "dilithium_py.polynomials.polynomials_generic" 194)), none, (some (.ref 0))]⟩
def o29x1 : Obj := ⟨.type "tuple", none, .seq #[] 0, #[]⟩
def o30x1 : Obj := ⟨.none, none, .fields #[], #[]⟩
def o31x1 : Obj := ⟨.type "tuple", none, .seq #[.str "self" 211, .str "q" 212, .str "n" 213] 0, #[]⟩
def o32x1 : Obj := ⟨.type "tuple", none, .seq #[] 0, #[]⟩
def o33x1 : Obj := fnO (.none) none #[] (nth (inner (nth body 2)) 0) "PolynomialRingGeneric.__init__" 0 [] .none .none .none .none none .none .none 0
def o34x1 : Obj := ⟨.type "code", none, .fields #[.str "__init__" 208, .str "PolynomialRingGeneric.__init__" 209, .str "/claim/cut.py" 210, .int 7 0, .int 3 0, .int 0 0, .int 0 0, .int 3 0, .ref 29, .bool true, .int 181 0, .ref 30, .none, .ref 31, .ref 32, .ref 33, .int 214 0, .int 7 0, .str "/claim/cut.py" 215], #[]⟩
def to35x1 : Lit (fnO (.type "function") none #[] (nth (inner (nth body 2)) 0) "PolynomialRingGeneric.__init__" 3 [] .none .none .none (.str "dilithium_py.polynomials.polynomials_generic" 194) none (.ref 34) .none 0) := ⟨_, by conv => rhs; whnf⟩
abbrev o35x1 : Obj := to35x1.1
def o36x1 : Obj := ⟨.type "tuple", none, .seq #[] 0, #[]⟩
def o37x1 : Obj := ⟨.none, none, .fields #[], #[]⟩
def o38x1 : Obj := ⟨.type "tuple", none, .seq #[.str "self" 220] 0, #[]⟩
def o39x1 : Obj := ⟨.type "tuple", none, .seq #[] 0, #[]⟩
def o40x1 : Obj := fnO (.none) none #[] (nth (inner (nth body 2)) 1) "PolynomialRingGeneric.zero" 0 [] .none .none .none .none none .none .none 0
def o41x1 : Obj := ⟨.type "code", none, .fields #[.str "zero" 217, .str "PolynomialRingGeneric.zero" 218, .str "/claim/cut.py" 219, .int 11 0, .int 1 0, .int 0 0, .int 0 0, .int 3 0, .ref 36, .bool true, .int 181 0, .ref 37, .none, .ref 38, .ref 39, .ref 40, .int 221 0, .int 11 0, .str "/claim/cut.py" 222], #[]⟩
def to42x1 : Lit (fnO (.type "function") none #[] (nth (inner (nth body 2)) 1) "PolynomialRingGeneric.zero" 3 [] .none .none .none (.str "dilithium_py.polynomials.polynomials_generic" 194) none (.ref 41) .none 0) := ⟨_, by conv => rhs; whnf⟩
abbrev o42x1 : Obj := to42x1.1
def o43x1 : Obj := ⟨.type "tuple", none, .seq #[] 0, #[]⟩
def o44x1 : Obj := ⟨.none, none, .fields #[], #[]⟩
def o45x1 : Obj := ⟨.type "tuple", none, .seq #[.str "self" 227] 0, #[]⟩
def o46x1 : Obj := ⟨.type "tuple", none, .seq #[] 0, #[]⟩
def o47x1 : Obj := fnO (.none) none #[] (nth (inner (nth body 2)) 2) "PolynomialRingGeneric.gen" 0 [] .none .none .none .none none .none .none 0
def o48x1 : Obj := ⟨.type "code", none, .fields #[.str "gen" 224, .str "PolynomialRingGeneric.gen" 225, .str "/claim/cut.py" 226, .int 14 0, .int 1 0, .int 0 0, .int 0 0, .int 3 0, .ref 43, .bool true, .int 181 0, .ref 44, .none, .ref 45, .ref 46, .ref 47, .int 228 0, .int 14 0, .str "/claim/cut.py" 229], #[]⟩
def to49x1 : Lit (fnO (.type "function") none #[] (nth (inner (nth body 2)) 2) "PolynomialRingGeneric.gen" 3 [] .none .none .none (.str "dilithium_py.polynomials.polynomials_generic" 194) none (.ref 48) .none 0) := ⟨_, by conv => rhs; whnf⟩
abbrev o49x1 : Obj := to49x1.1
def o50x1 : Obj := ⟨.type "tuple", none, .seq #[] 0, #[]⟩
def o51x1 : Obj := ⟨.none, none, .fields #[], #[]⟩
def o52x1 : Obj := ⟨.type "tuple", none, .seq #[.str "self" 234, .str "coefficients" 235] 0, #[]⟩
def o53x1 : Obj := ⟨.type "tuple", none, .seq #[] 0, #[]⟩
def o54x1 : Obj := fnO (.none) none #[] (nth (inner (nth body 2)) 3) "PolynomialRingGeneric.__call__" 0 [] .none .none .none .none none .none .none 0
def o55x1 : Obj := ⟨.type "code", none, .fields #[.str "__call__" 231, .str "PolynomialRingGeneric.__call__" 232, .str "/claim/cut.py" 233, .int 17 0, .int 2 0, .int 0 0, .int 0 0, .int 3 0, .ref 50, .bool true, .int 181 0, .ref 51, .none, .ref 52, .ref 53, .ref 54, .int 236 0, .int 17 0, .str "/claim/cut.py" 237], #[]⟩
def to56x1 : Lit (fnO (.type "function") none #[] (nth (inner (nth body 2)) 3) "PolynomialRingGeneric.__call__" 3 [] .none .none .none (.str "dilithium_py.polynomials.polynomials_generic" 194) none (.ref 55) .none 0) := ⟨_, by conv => rhs; whnf⟩
abbrev o56x1 : Obj := to56x1.1
def o57x1 : Obj := ⟨.type "tuple", none, .seq #[] 0, #[]⟩
def o58x1 : Obj := ⟨.none, none, .fields #[], #[]⟩
def o59x1 : Obj := ⟨.type "tuple", none, .seq #[.str "self" 242, .str "value" 243] 0, #[]⟩
def o60x1 : Obj := ⟨.type "tuple", none, .seq #[] 0, #[]⟩
def o61x1 : Obj := fnO (.none) none #[] (nth (inner (nth body 2)) 4) "PolynomialRingGeneric.is_element" 0 [] .none .none .none .none none .none .none 0
def o62x1 : Obj := ⟨.type "code", none, .fields #[.str "is_element" 239, .str "PolynomialRingGeneric.is_element" 240, .str "/claim/cut.py" 241, .int 24 0, .int 2 0, .int 0 0, .int 0 0, .int 3 0, .ref 57, .bool true, .int 181 0, .ref 58, .none, .ref 59, .ref 60, .ref 61, .int 244 0, .int 24 0, .str "/claim/cut.py" 245], #[]⟩
def to63x1 : Lit (fnO (.type "function") none #[] (nth (inner (nth body 2)) 4) "PolynomialRingGeneric.is_element" 3 [] .none .none .none (.str "dilithium_py.polynomials.polynomials_generic" 194) none (.ref 62) .none 0) := ⟨_, by conv => rhs; whnf⟩
abbrev o63x1 : Obj := to63x1.1
def o64x1 : Obj := ⟨.type "tuple", none, .seq #[.str "n" 247, .str "q" 248] 0, #[]⟩
def o65x1 (P : Params) : Obj := ⟨.type "dict", none, .dict #[⟨kh P "__module__", .str "__module__" 203, .str "dilithium_py.polynomials.polynomials_generic" 194⟩, ⟨kh P "__firstlineno__", .str "__firstlineno__" 207, .int 5 206⟩, ⟨kh P "__init__", .str "__init__" 216, .ref 35⟩, ⟨kh P "zero", .str "zero" 223, .ref 42⟩, ⟨kh P "gen", .str "gen" 230, .ref 49⟩, ⟨kh P "__call__", .str "__call__" 238, .ref 56⟩, ⟨kh P "is_element", .str "is_element" 246, .ref 63⟩, ⟨kh P "__static_attributes__", .str "__static_attributes__" 249, .ref 64⟩, ⟨kh P "__dict__", .str "__dict__" 251, .ref 67⟩, ⟨kh P "__weakref__", .str "__weakref__" 253, .ref 68⟩, ⟨kh P "__doc__", .str "__doc__" 254, .none⟩] 4, #[]⟩
def o66x1 : Obj := ⟨.type "type", none, .cls { name := "PolynomialRingGeneric", bases := [.type "object"], mro := [.ref 66, .type "object"], ns := 65, qualname := "PolynomialRingGeneric", hasDict := true, slotNames := [], subclasses := [.ref 384], abstract := false, collection := none, hasDel := false }, #[none, none, (some (.str "PolynomialRingGeneric" 196)), (some (.str "PolynomialRingGeneric" 204)), (some (.builtin "object.__new__")), (some (.bool true))]⟩
def o67x1 : Obj := ⟨.type "getset_descriptor", none, .fields #[.str "__dict__" 250, .ref 66, .builtin "function.__dict__", .builtin "function.__dict__#set"], #[]⟩
def o68x1 : Obj := ⟨.type "getset_descriptor", none, .fields #[.str "__weakref__" 252, .ref 66, .builtin "ExceptionGroup.__weakref__", .none], #[]⟩
def o69x1 : Obj := ⟨.type "super", none, .fields #[.ref 66, .ref 66, .ref 66], #[]⟩
def o70x1 : Obj := ⟨.type "builtin_function_or_method", none, .fields #[.builtin "object.__init_subclass__", .ref 66], #[]⟩
def o71x1 : Obj := ⟨.type "tuple", none, .seq #[] 0, #[]⟩
def o72x1 : Obj := ⟨.type "builtin_function_or_method", none, .fields #[.builtin "type.__prepare__", .type "type"], #[]⟩
def o73x1 (P : Params) : Obj := ⟨.type "dict", none, .dict #[⟨kh P "__module__", .str "__module__" 264, .str "dilithium_py.polynomials.polynomials_generic" 194⟩, ⟨kh P "__qualname__", .str "__qualname__" 266, .str "PolynomialGeneric" 265⟩, ⟨kh P "__firstlineno__", .str "__firstlineno__" 268, .int 26 267⟩, ⟨kh P "__init__", .str "__init__" 277, .ref 84⟩, ⟨kh P "is_zero", .str "is_zero" 284, .ref 91⟩, ⟨kh P "is_constant", .str "is_constant" 291, .ref 98⟩, ⟨kh P "_parse_coefficients", .str "_parse_coefficients" 297, .ref 103⟩, ⟨kh P "reduce_coefficients", .str "reduce_coefficients" 304, .ref 110⟩, ⟨kh P "_add_mod_q", .str "_add_mod_q" 313, .ref 117⟩, ⟨kh P "_sub_mod_q", .str "_sub_mod_q" 322, .ref 124⟩, ⟨kh P "_schoolbook_multiplication", .str "_schoolbook_multiplication" 328, .ref 129⟩, ⟨kh P "__neg__", .str "__neg__" 334, .ref 134⟩, ⟨kh P "_add_", .str "_add_" 340, .ref 139⟩, ⟨kh P "__add__", .str "__add__" 349, .ref 146⟩, ⟨kh P "__radd__", .str "__radd__" 357, .ref 153⟩, ⟨kh P "__iadd__", .str "__iadd__" 365, .ref 160⟩, ⟨kh P "_sub_", .str "_sub_" 371, .ref 165⟩, ⟨kh P "__sub__", .str "__sub__" 380, .ref 172⟩, ⟨kh P "__rsub__", .str "__rsub__" 388, .ref 179⟩, ⟨kh P "__isub__", .str "__isub__" 396, .ref 186⟩, ⟨kh P "__mul__", .str "__mul__" 402, .ref 191⟩, ⟨kh P "__rmul__", .str "__rmul__" 410, .ref 198⟩, ⟨kh P "__imul__", .str "__imul__" 418, .ref 205⟩, ⟨kh P "__pow__", .str "__pow__" 428, .ref 212⟩, ⟨kh P "__eq__", .str "__eq__" 436, .ref 219⟩, ⟨kh P "__getitem__", .str "__getitem__" 444, .ref 226⟩, ⟨kh P "__static_attributes__", .str "__static_attributes__" 447, .ref 227⟩] 27, #[]⟩
def o74x1 : Obj := ⟨.type "tuple", none, .seq #[] 0, #[]⟩
def o75x1 : Obj := ⟨.none, none, .fields #[.int 28 0, .int 4 0, .ref 83, .int 32 0, .int 4 0, .ref 90, .int 35 0, .int 4 0, .ref 97, .int 38 0, .int 4 0, .ref 102, .int 46 0, .int 4 0, .ref 109, .int 49 0, .int 4 0, .ref 116, .int 52 0, .int 4 0, .ref 123, .int 55 0, .int 4 0, .ref 128, .int 68 0, .int 4 0, .ref 133, .int 72 0, .int 4 0, .ref 138, .int 82 0, .int 4 0, .ref 145, .int 86 0, .int 4 0, .ref 152, .int 89 0, .int 4 0, .ref 159, .int 92 0, .int 4 0, .ref 164, .int 102 0, .int 4 0, .ref 171, .int 106 0, .int 4 0, .ref 178, .int 109 0, .int 4 0, .ref 185, .int 112 0, .int 4 0, .ref 190, .int 121 0, .int 4 0, .ref 197, .int 124 0, .int 4 0, .ref 204, .int 127 0, .int 4 0, .ref 211, .int 141 0, .int 4 0, .ref 218, .int 148 0, .int 4 0, .ref 225], #[]⟩
def o76x1 : Obj := ⟨.type "code", none, .fields #[.str "PolynomialGeneric" 259, .str "PolynomialGeneric" 260, .str "/claim/cut.py" 261, .int 26 0, .int 0 0, .int 0 0, .int 0 0, .int 0 0, .ref 74, .bool false, .int 181 0, .ref 75, .none, .none, .none, .none, .int 262 0, .int 26 0, .str "/claim/cut.py" 263], #[]⟩
def o77x1 : Obj := ⟨.type "frame", none, .plain, #[(some (.ref 76)), (some (.ref 3)), (some (.ref 73)), none, (some (.str "dilithium_py.polynomials.polynomials_generic" 194)), none, (some (.ref 0))]⟩
def o78x1 : Obj := ⟨.type "tuple", none, .seq #[] 0, #[]⟩
def o79x1 : Obj := ⟨.none, none, .fields #[], #[]⟩
def o80x1 : Obj := ⟨.type "tuple", none, .seq #[.str "self" 272, .str "parent" 273, .str "coefficients" 274] 0, #[]⟩
def o81x1 : Obj := ⟨.type "tuple", none, .seq #[] 0, #[]⟩
def o82x1 : Obj := fnO (.none) none #[] (nth (inner (nth body 3)) 0) "PolynomialGeneric.__init__" 0 [] .none .none .none .none none .none .none 0
def o83x1 : Obj := ⟨.type "code", none, .fields #[.str "__init__" 269, .str "PolynomialGeneric.__init__" 270, .str "/claim/cut.py" 271, .int 28 0, .int 3 0, .int 0 0, .int 0 0, .int 3 0, .ref 78, .bool true, .int 181 0, .ref 79, .none, .ref 80, .ref 81, .ref 82, .int 275 0, .int 28 0, .str "/claim/cut.py" 276], #[]⟩
def to84x1 : Lit (fnO (.type "function") none #[] (nth (inner (nth body 3)) 0) "PolynomialGeneric.__init__" 3 [] .none .none .none (.str "dilithium_py.polynomials.polynomials_generic" 194) none (.ref 83) .none 0) := ⟨_, by conv => rhs; whnf⟩
abbrev o84x1 : Obj := to84x1.1
def o85x1 : Obj := ⟨.type "tuple", none, .seq #[] 0, #[]⟩
def o86x1 : Obj := ⟨.none, none, .fields #[], #[]⟩
def o87x1 : Obj := ⟨.type "tuple", none, .seq #[.str "self" 281] 0, #[]⟩
def o88x1 : Obj := ⟨.type "tuple", none, .seq #[] 0, #[]⟩
def o89x1 : Obj := fnO (.none) none #[] (nth (inner (nth body 3)) 1) "PolynomialGeneric.is_zero" 0 [] .none .none .none .none none .none .none 0
def o90x1 : Obj := ⟨.type "code", none, .fields #[.str "is_zero" 278, .str "PolynomialGeneric.is_zero" 279, .str "/claim/cut.py" 280, .int 32 0, .int 1 0, .int 0 0, .int 0 0, .int 3 0, .ref 85, .bool true, .int 181 0, .ref 86, .none, .ref 87, .ref 88, .ref 89, .int 282 0, .int 32 0, .str "/claim/cut.py" 283], #[]⟩
def to91x1 : Lit (fnO (.type "function") none #[] (nth (inner (nth body 3)) 1) "PolynomialGeneric.is_zero" 3 [] .none .none .none (.str "dilithium_py.polynomials.polynomials_generic" 194) none (.ref 90) .none 0) := ⟨_, by conv => rhs; whnf⟩
abbrev o91x1 : Obj := to91x1.1
def o92x1 : Obj := ⟨.type "tuple", none, .seq #[] 0, #[]⟩
def o93x1 : Obj := ⟨.none, none, .fields #[], #[]⟩
def o94x1 : Obj := ⟨.type "tuple", none, .seq #[.str "self" 288] 0, #[]⟩
def o95x1 : Obj := ⟨.type "tuple", none, .seq #[] 0, #[]⟩
def o96x1 : Obj := fnO (.none) none #[] (nth (inner (nth body 3)) 2) "PolynomialGeneric.is_constant" 0 [] .none .none .none .none none .none .none 0
def o97x1 : Obj := ⟨.type "code", none, .fields #[.str "is_constant" 285, .str "PolynomialGeneric.is_constant" 286, .str "/claim/cut.py" 287, .int 35 0, .int 1 0, .int 0 0, .int 0 0, .int 3 0, .ref 92, .bool true, .int 181 0, .ref 93, .none, .ref 94, .ref 95, .ref 96, .int 289 0, .int 35 0, .str "/claim/cut.py" 290], #[]⟩
def to98x1 : Lit (fnO (.type "function") none #[] (nth (inner (nth body 3)) 2) "PolynomialGeneric.is_constant" 3 [] .none .none .none (.str "dilithium_py.polynomials.polynomials_generic" 194) none (.ref 97) .none 0) := ⟨_, by conv => rhs; whnf⟩
abbrev o98x1 : Obj := to98x1.1
def o99x1 : Obj := ⟨.type "tuple", none, .seq #[] 0, #[]⟩
def o100x1 : Obj := ⟨.none, none, .fields #[], #[]⟩
def o101x1 : Obj := fnO (.none) none #[] (nth (inner (nth body 3)) 3) "PolynomialGeneric._parse_coefficients" 0 [] .none .none .none .none none .none .none 0
def o102x1 : Obj := ⟨.type "code", none, .fields #[.str "_parse_coefficients" 292, .str "PolynomialGeneric._parse_coefficients" 293, .str "/claim/cut.py" 294, .int 38 0, .int 2 0, .int 0 0, .int 0 0, .int 3 0, .ref 99, .bool true, .int 181 0, .ref 100, .none, .none, .none, .ref 101, .int 295 0, .int 38 0, .str "/claim/cut.py" 296], #[]⟩
def to103x1 : Lit (fnO (.type "function") none #[] (nth (inner (nth body 3)) 3) "PolynomialGeneric._parse_coefficients" 3 [] .none .none .none (.str "dilithium_py.polynomials.polynomials_generic" 194) none (.ref 102) .none 0) := ⟨_, by conv => rhs; whnf⟩
abbrev o103x1 : Obj := to103x1.1
def o104x1 : Obj := ⟨.type "tuple", none, .seq #[] 0, #[]⟩
def o105x1 : Obj := ⟨.none, none, .fields #[], #[]⟩
def o106x1 : Obj := ⟨.type "tuple", none, .seq #[.str "self" 301] 0, #[]⟩
def o107x1 : Obj := ⟨.type "tuple", none, .seq #[] 0, #[]⟩
def o108x1 : Obj := fnO (.none) none #[] (nth (inner (nth body 3)) 4) "PolynomialGeneric.reduce_coefficients" 0 [] .none .none .none .none none .none .none 0
def o109x1 : Obj := ⟨.type "code", none, .fields #[.str "reduce_coefficients" 298, .str "PolynomialGeneric.reduce_coefficients" 299, .str "/claim/cut.py" 300, .int 46 0, .int 1 0, .int 0 0, .int 0 0, .int 3 0, .ref 104, .bool true, .int 181 0, .ref 105, .none, .ref 106, .ref 107, .ref 108, .int 302 0, .int 46 0, .str "/claim/cut.py" 303], #[]⟩
def to110x1 : Lit (fnO (.type "function") none #[] (nth (inner (nth body 3)) 4) "PolynomialGeneric.reduce_coefficients" 3 [] .none .none .none (.str "dilithium_py.polynomials.polynomials_generic" 194) none (.ref 109) .none 0) := ⟨_, by conv => rhs; whnf⟩
abbrev o110x1 : Obj := to110x1.1
def o111x1 : Obj := ⟨.type "tuple", none, .seq #[] 0, #[]⟩
def o112x1 : Obj := ⟨.none, none, .fields #[], #[]⟩
def o113x1 : Obj := ⟨.type "tuple", none, .seq #[.str "self" 308, .str "x" 309, .str "y" 310] 0, #[]⟩
def o114x1 : Obj := ⟨.type "tuple", none, .seq #[] 0, #[]⟩
def o115x1 : Obj := fnO (.none) none #[] (nth (inner (nth body 3)) 5) "PolynomialGeneric._add_mod_q" 0 [] .none .none .none .none none .none .none 0
def o116x1 : Obj := ⟨.type "code", none, .fields #[.str "_add_mod_q" 305, .str "PolynomialGeneric._add_mod_q" 306, .str "/claim/cut.py" 307, .int 49 0, .int 3 0, .int 0 0, .int 0 0, .int 3 0, .ref 111, .bool true, .int 181 0, .ref 112, .none, .ref 113, .ref 114, .ref 115, .int 311 0, .int 49 0, .str "/claim/cut.py" 312], #[]⟩
def to117x1 : Lit (fnO (.type "function") none #[] (nth (inner (nth body 3)) 5) "PolynomialGeneric._add_mod_q" 3 [] .none .none .none (.str "dilithium_py.polynomials.polynomials_generic" 194) none (.ref 116) .none 0) := ⟨_, by conv => rhs; whnf⟩
abbrev o117x1 : Obj := to117x1.1
def o118x1 : Obj := ⟨.type "tuple", none, .seq #[] 0, #[]⟩
def o119x1 : Obj := ⟨.none, none, .fields #[], #[]⟩
def o120x1 : Obj := ⟨.type "tuple", none, .seq #[.str "self" 317, .str "x" 318, .str "y" 319] 0, #[]⟩
def o121x1 : Obj := ⟨.type "tuple", none, .seq #[] 0, #[]⟩
def o122x1 : Obj := fnO (.none) none #[] (nth (inner (nth body 3)) 6) "PolynomialGeneric._sub_mod_q" 0 [] .none .none .none .none none .none .none 0
def o123x1 : Obj := ⟨.type "code", none, .fields #[.str "_sub_mod_q" 314, .str "PolynomialGeneric._sub_mod_q" 315, .str "/claim/cut.py" 316, .int 52 0, .int 3 0, .int 0 0, .int 0 0, .int 3 0, .ref 118, .bool true, .int 181 0, .ref 119, .none, .ref 120, .ref 121, .ref 122, .int 320 0, .int 52 0, .str "/claim/cut.py" 321], #[]⟩
def to124x1 : Lit (fnO (.type "function") none #[] (nth (inner (nth body 3)) 6) "PolynomialGeneric._sub_mod_q" 3 [] .none .none .none (.str "dilithium_py.polynomials.polynomials_generic" 194) none (.ref 123) .none 0) := ⟨_, by conv => rhs; whnf⟩
abbrev o124x1 : Obj := to124x1.1
def o125x1 : Obj := ⟨.type "tuple", none, .seq #[] 0, #[]⟩
def o126x1 : Obj := ⟨.none, none, .fields #[], #[]⟩
def o127x1 : Obj := fnO (.none) none #[] (nth (inner (nth body 3)) 7) "PolynomialGeneric._schoolbook_multiplication" 0 [] .none .none .none .none none .none .none 0
def o128x1 : Obj := ⟨.type "code", none, .fields #[.str "_schoolbook_multiplication" 323, .str "PolynomialGeneric._schoolbook_multiplication" 324, .str "/claim/cut.py" 325, .int 55 0, .int 2 0, .int 0 0, .int 0 0, .int 3 0, .ref 125, .bool true, .int 181 0, .ref 126, .none, .none, .none, .ref 127, .int 326 0, .int 55 0, .str "/claim/cut.py" 327], #[]⟩
def to129x1 : Lit (fnO (.type "function") none #[] (nth (inner (nth body 3)) 7) "PolynomialGeneric._schoolbook_multiplication" 3 [] .none .none .none (.str "dilithium_py.polynomials.polynomials_generic" 194) none (.ref 128) .none 0) := ⟨_, by conv => rhs; whnf⟩
abbrev o129x1 : Obj := to129x1.1
def o130x1 : Obj := ⟨.type "tuple", none, .seq #[] 0, #[]⟩
def o131x1 : Obj := ⟨.none, none, .fields #[], #[]⟩
def o132x1 : Obj := fnO (.none) none #[] (nth (inner (nth body 3)) 8) "PolynomialGeneric.__neg__" 0 [] .none .none .none .none none .none .none 0
def o133x1 : Obj := ⟨.type "code", none, .fields #[.str "__neg__" 329, .str "PolynomialGeneric.__neg__" 330, .str "/claim/cut.py" 331, .int 68 0, .int 1 0, .int 0 0, .int 0 0, .int 3 0, .ref 130, .bool true, .int 181 0, .ref 131, .none, .none, .none, .ref 132, .int 332 0, .int 68 0, .str "/claim/cut.py" 333], #[]⟩
def to134x1 : Lit (fnO (.type "function") none #[] (nth (inner (nth body 3)) 8) "PolynomialGeneric.__neg__" 3 [] .none .none .none (.str "dilithium_py.polynomials.polynomials_generic" 194) none (.ref 133) .none 0) := ⟨_, by conv => rhs; whnf⟩
abbrev o134x1 : Obj := to134x1.1
def o135x1 : Obj := ⟨.type "tuple", none, .seq #[] 0, #[]⟩
def o136x1 : Obj := ⟨.none, none, .fields #[], #[]⟩
def o137x1 : Obj := fnO (.none) none #[] (nth (inner (nth body 3)) 9) "PolynomialGeneric._add_" 0 [] .none .none .none .none none .none .none 0
def o138x1 : Obj := ⟨.type "code", none, .fields #[.str "_add_" 335, .str "PolynomialGeneric._add_" 336, .str "/claim/cut.py" 337, .int 72 0, .int 2 0, .int 0 0, .int 0 0, .int 3 0, .ref 135, .bool true, .int 181 0, .ref 136, .none, .none, .none, .ref 137, .int 338 0, .int 72 0, .str "/claim/cut.py" 339], #[]⟩
def to139x1 : Lit (fnO (.type "function") none #[] (nth (inner (nth body 3)) 9) "PolynomialGeneric._add_" 3 [] .none .none .none (.str "dilithium_py.polynomials.polynomials_generic" 194) none (.ref 138) .none 0) := ⟨_, by conv => rhs; whnf⟩
abbrev o139x1 : Obj := to139x1.1
def o140x1 : Obj := ⟨.type "tuple", none, .seq #[] 0, #[]⟩
def o141x1 : Obj := ⟨.none, none, .fields #[], #[]⟩
def o142x1 : Obj := ⟨.type "tuple", none, .seq #[.str "self" 344, .str "other" 345, .str "new_coeffs" 346] 0, #[]⟩
def o143x1 : Obj := ⟨.type "tuple", none, .seq #[] 0, #[]⟩
def o144x1 : Obj := fnO (.none) none #[] (nth (inner (nth body 3)) 10) "PolynomialGeneric.__add__" 0 [] .none .none .none .none none .none .none 0
def o145x1 : Obj := ⟨.type "code", none, .fields #[.str "__add__" 341, .str "PolynomialGeneric.__add__" 342, .str "/claim/cut.py" 343, .int 82 0, .int 2 0, .int 0 0, .int 0 0, .int 3 0, .ref 140, .bool true, .int 181 0, .ref 141, .none, .ref 142, .ref 143, .ref 144, .int 347 0, .int 82 0, .str "/claim/cut.py" 348], #[]⟩
def to146x1 : Lit (fnO (.type "function") none #[] (nth (inner (nth body 3)) 10) "PolynomialGeneric.__add__" 3 [] .none .none .none (.str "dilithium_py.polynomials.polynomials_generic" 194) none (.ref 145) .none 0) := ⟨_, by conv => rhs; whnf⟩
abbrev o146x1 : Obj := to146x1.1
def o147x1 : Obj := ⟨.type "tuple", none, .seq #[] 0, #[]⟩
def o148x1 : Obj := ⟨.none, none, .fields #[], #[]⟩
def o149x1 : Obj := ⟨.type "tuple", none, .seq #[.str "self" 353, .str "other" 354] 0, #[]⟩
def o150x1 : Obj := ⟨.type "tuple", none, .seq #[] 0, #[]⟩
def o151x1 : Obj := fnO (.none) none #[] (nth (inner (nth body 3)) 11) "PolynomialGeneric.__radd__" 0 [] .none .none .none .none none .none .none 0
def o152x1 : Obj := ⟨.type "code", none, .fields #[.str "__radd__" 350, .str "PolynomialGeneric.__radd__" 351, .str "/claim/cut.py" 352, .int 86 0, .int 2 0, .int 0 0, .int 0 0, .int 3 0, .ref 147, .bool true, .int 181 0, .ref 148, .none, .ref 149, .ref 150, .ref 151, .int 355 0, .int 86 0, .str "/claim/cut.py" 356], #[]⟩
def to153x1 : Lit (fnO (.type "function") none #[] (nth (inner (nth body 3)) 11) "PolynomialGeneric.__radd__" 3 [] .none .none .none (.str "dilithium_py.polynomials.polynomials_generic" 194) none (.ref 152) .none 0) := ⟨_, by conv => rhs; whnf⟩
abbrev o153x1 : Obj := to153x1.1
def o154x1 : Obj := ⟨.type "tuple", none, .seq #[] 0, #[]⟩
def o155x1 : Obj := ⟨.none, none, .fields #[], #[]⟩
def o156x1 : Obj := ⟨.type "tuple", none, .seq #[.str "self" 361, .str "other" 362] 0, #[]⟩
def o157x1 : Obj := ⟨.type "tuple", none, .seq #[] 0, #[]⟩
def o158x1 : Obj := fnO (.none) none #[] (nth (inner (nth body 3)) 12) "PolynomialGeneric.__iadd__" 0 [] .none .none .none .none none .none .none 0
def o159x1 : Obj := ⟨.type "code", none, .fields #[.str "__iadd__" 358, .str "PolynomialGeneric.__iadd__" 359, .str "/claim/cut.py" 360, .int 89 0, .int 2 0, .int 0 0, .int 0 0, .int 3 0, .ref 154, .bool true, .int 181 0, .ref 155, .none, .ref 156, .ref 157, .ref 158, .int 363 0, .int 89 0, .str "/claim/cut.py" 364], #[]⟩
def to160x1 : Lit (fnO (.type "function") none #[] (nth (inner (nth body 3)) 12) "PolynomialGeneric.__iadd__" 3 [] .none .none .none (.str "dilithium_py.polynomials.polynomials_generic" 194) none (.ref 159) .none 0) := ⟨_, by conv => rhs; whnf⟩
abbrev o160x1 : Obj := to160x1.1
def o161x1 : Obj := ⟨.type "tuple", none, .seq #[] 0, #[]⟩
def o162x1 : Obj := ⟨.none, none, .fields #[], #[]⟩
def o163x1 : Obj := fnO (.none) none #[] (nth (inner (nth body 3)) 13) "PolynomialGeneric._sub_" 0 [] .none .none .none .none none .none .none 0
def o164x1 : Obj := ⟨.type "code", none, .fields #[.str "_sub_" 366, .str "PolynomialGeneric._sub_" 367, .str "/claim/cut.py" 368, .int 92 0, .int 2 0, .int 0 0, .int 0 0, .int 3 0, .ref 161, .bool true, .int 181 0, .ref 162, .none, .none, .none, .ref 163, .int 369 0, .int 92 0, .str "/claim/cut.py" 370], #[]⟩
def to165x1 : Lit (fnO (.type "function") none #[] (nth (inner (nth body 3)) 13) "PolynomialGeneric._sub_" 3 [] .none .none .none (.str "dilithium_py.polynomials.polynomials_generic" 194) none (.ref 164) .none 0) := ⟨_, by conv => rhs; whnf⟩
abbrev o165x1 : Obj := to165x1.1
def o166x1 : Obj := ⟨.type "tuple", none, .seq #[] 0, #[]⟩
def o167x1 : Obj := ⟨.none, none, .fields #[], #[]⟩
def o168x1 : Obj := ⟨.type "tuple", none, .seq #[.str "self" 375, .str "other" 376, .str "new_coeffs" 377] 0, #[]⟩
def o169x1 : Obj := ⟨.type "tuple", none, .seq #[] 0, #[]⟩
def o170x1 : Obj := fnO (.none) none #[] (nth (inner (nth body 3)) 14) "PolynomialGeneric.__sub__" 0 [] .none .none .none .none none .none .none 0
def o171x1 : Obj := ⟨.type "code", none, .fields #[.str "__sub__" 372, .str "PolynomialGeneric.__sub__" 373, .str "/claim/cut.py" 374, .int 102 0, .int 2 0, .int 0 0, .int 0 0, .int 3 0, .ref 166, .bool true, .int 181 0, .ref 167, .none, .ref 168, .ref 169, .ref 170, .int 378 0, .int 102 0, .str "/claim/cut.py" 379], #[]⟩
def to172x1 : Lit (fnO (.type "function") none #[] (nth (inner (nth body 3)) 14) "PolynomialGeneric.__sub__" 3 [] .none .none .none (.str "dilithium_py.polynomials.polynomials_generic" 194) none (.ref 171) .none 0) := ⟨_, by conv => rhs; whnf⟩
abbrev o172x1 : Obj := to172x1.1
def o173x1 : Obj := ⟨.type "tuple", none, .seq #[] 0, #[]⟩
def o174x1 : Obj := ⟨.none, none, .fields #[], #[]⟩
def o175x1 : Obj := ⟨.type "tuple", none, .seq #[.str "self" 384, .str "other" 385] 0, #[]⟩
def o176x1 : Obj := ⟨.type "tuple", none, .seq #[] 0, #[]⟩
def o177x1 : Obj := fnO (.none) none #[] (nth (inner (nth body 3)) 15) "PolynomialGeneric.__rsub__" 0 [] .none .none .none .none none .none .none 0
def o178x1 : Obj := ⟨.type "code", none, .fields #[.str "__rsub__" 381, .str "PolynomialGeneric.__rsub__" 382, .str "/claim/cut.py" 383, .int 106 0, .int 2 0, .int 0 0, .int 0 0, .int 3 0, .ref 173, .bool true, .int 181 0, .ref 174, .none, .ref 175, .ref 176, .ref 177, .int 386 0, .int 106 0, .str "/claim/cut.py" 387], #[]⟩
def to179x1 : Lit (fnO (.type "function") none #[] (nth (inner (nth body 3)) 15) "PolynomialGeneric.__rsub__" 3 [] .none .none .none (.str "dilithium_py.polynomials.polynomials_generic" 194) none (.ref 178) .none 0) := ⟨_, by conv => rhs; whnf⟩
abbrev o179x1 : Obj := to179x1.1
def o180x1 : Obj := ⟨.type "tuple", none, .seq #[] 0, #[]⟩
def o181x1 : Obj := ⟨.none, none, .fields #[], #[]⟩
def o182x1 : Obj := ⟨.type "tuple", none, .seq #[.str "self" 392, .str "other" 393] 0, #[]⟩
def o183x1 : Obj := ⟨.type "tuple", none, .seq #[] 0, #[]⟩
def o184x1 : Obj := fnO (.none) none #[] (nth (inner (nth body 3)) 16) "PolynomialGeneric.__isub__" 0 [] .none .none .none .none none .none .none 0
def o185x1 : Obj := ⟨.type "code", none, .fields #[.str "__isub__" 389, .str "PolynomialGeneric.__isub__" 390, .str "/claim/cut.py" 391, .int 109 0, .int 2 0, .int 0 0, .int 0 0, .int 3 0, .ref 180, .bool true, .int 181 0, .ref 181, .none, .ref 182, .ref 183, .ref 184, .int 394 0, .int 109 0, .str "/claim/cut.py" 395], #[]⟩
def to186x1 : Lit (fnO (.type "function") none #[] (nth (inner (nth body 3)) 16) "PolynomialGeneric.__isub__" 3 [] .none .none .none (.str "dilithium_py.polynomials.polynomials_generic" 194) none (.ref 185) .none 0) := ⟨_, by conv => rhs; whnf⟩
abbrev o186x1 : Obj := to186x1.1
def o187x1 : Obj := ⟨.type "tuple", none, .seq #[] 0, #[]⟩
def o188x1 : Obj := ⟨.none, none, .fields #[], #[]⟩
def o189x1 : Obj := fnO (.none) none #[] (nth (inner (nth body 3)) 17) "PolynomialGeneric.__mul__" 0 [] .none .none .none .none none .none .none 0
def o190x1 : Obj := ⟨.type "code", none, .fields #[.str "__mul__" 397, .str "PolynomialGeneric.__mul__" 398, .str "/claim/cut.py" 399, .int 112 0, .int 2 0, .int 0 0, .int 0 0, .int 3 0, .ref 187, .bool true, .int 181 0, .ref 188, .none, .none, .none, .ref 189, .int 400 0, .int 112 0, .str "/claim/cut.py" 401], #[]⟩
def to191x1 : Lit (fnO (.type "function") none #[] (nth (inner (nth body 3)) 17) "PolynomialGeneric.__mul__" 3 [] .none .none .none (.str "dilithium_py.polynomials.polynomials_generic" 194) none (.ref 190) .none 0) := ⟨_, by conv => rhs; whnf⟩
abbrev o191x1 : Obj := to191x1.1
def o192x1 : Obj := ⟨.type "tuple", none, .seq #[] 0, #[]⟩
def o193x1 : Obj := ⟨.none, none, .fields #[], #[]⟩
def o194x1 : Obj := ⟨.type "tuple", none, .seq #[.str "self" 406, .str "other" 407] 0, #[]⟩
def o195x1 : Obj := ⟨.type "tuple", none, .seq #[] 0, #[]⟩
def o196x1 : Obj := fnO (.none) none #[] (nth (inner (nth body 3)) 18) "PolynomialGeneric.__rmul__" 0 [] .none .none .none .none none .none .none 0
def o197x1 : Obj := ⟨.type "code", none, .fields #[.str "__rmul__" 403, .str "PolynomialGeneric.__rmul__" 404, .str "/claim/cut.py" 405, .int 121 0, .int 2 0, .int 0 0, .int 0 0, .int 3 0, .ref 192, .bool true, .int 181 0, .ref 193, .none, .ref 194, .ref 195, .ref 196, .int 408 0, .int 121 0, .str "/claim/cut.py" 409], #[]⟩
def to198x1 : Lit (fnO (.type "function") none #[] (nth (inner (nth body 3)) 18) "PolynomialGeneric.__rmul__" 3 [] .none .none .none (.str "dilithium_py.polynomials.polynomials_generic" 194) none (.ref 197) .none 0) := ⟨_, by conv => rhs; whnf⟩
abbrev o198x1 : Obj := to198x1.1
def o199x1 : Obj := ⟨.type "tuple", none, .seq #[] 0, #[]⟩
def o200x1 : Obj := ⟨.none, none, .fields #[], #[]⟩
def o201x1 : Obj := ⟨.type "tuple", none, .seq #[.str "self" 414, .str "other" 415] 0, #[]⟩
def o202x1 : Obj := ⟨.type "tuple", none, .seq #[] 0, #[]⟩
def o203x1 : Obj := fnO (.none) none #[] (nth (inner (nth body 3)) 19) "PolynomialGeneric.__imul__" 0 [] .none .none .none .none none .none .none 0
def o204x1 : Obj := ⟨.type "code", none, .fields #[.str "__imul__" 411, .str "PolynomialGeneric.__imul__" 412, .str "/claim/cut.py" 413, .int 124 0, .int 2 0, .int 0 0, .int 0 0, .int 3 0, .ref 199, .bool true, .int 181 0, .ref 200, .none, .ref 201, .ref 202, .ref 203, .int 416 0, .int 124 0, .str "/claim/cut.py" 417], #[]⟩
def to205x1 : Lit (fnO (.type "function") none #[] (nth (inner (nth body 3)) 19) "PolynomialGeneric.__imul__" 3 [] .none .none .none (.str "dilithium_py.polynomials.polynomials_generic" 194) none (.ref 204) .none 0) := ⟨_, by conv => rhs; whnf⟩
abbrev o205x1 : Obj := to205x1.1
def o206x1 : Obj := ⟨.type "tuple", none, .seq #[] 0, #[]⟩
def o207x1 : Obj := ⟨.none, none, .fields #[], #[]⟩
def o208x1 : Obj := ⟨.type "tuple", none, .seq #[.str "self" 422, .str "n" 423, .str "f" 424, .str "g" 425] 0, #[]⟩
def o209x1 : Obj := ⟨.type "tuple", none, .seq #[] 0, #[]⟩
def o210x1 : Obj := fnO (.none) none #[] (nth (inner (nth body 3)) 20) "PolynomialGeneric.__pow__" 0 [] .none .none .none .none none .none .none 0
def o211x1 : Obj := ⟨.type "code", none, .fields #[.str "__pow__" 419, .str "PolynomialGeneric.__pow__" 420, .str "/claim/cut.py" 421, .int 127 0, .int 2 0, .int 0 0, .int 0 0, .int 3 0, .ref 206, .bool true, .int 181 0, .ref 207, .none, .ref 208, .ref 209, .ref 210, .int 426 0, .int 127 0, .str "/claim/cut.py" 427], #[]⟩
def to212x1 : Lit (fnO (.type "function") none #[] (nth (inner (nth body 3)) 20) "PolynomialGeneric.__pow__" 3 [] .none .none .none (.str "dilithium_py.polynomials.polynomials_generic" 194) none (.ref 211) .none 0) := ⟨_, by conv => rhs; whnf⟩
abbrev o212x1 : Obj := to212x1.1
def o213x1 : Obj := ⟨.type "tuple", none, .seq #[] 0, #[]⟩
def o214x1 : Obj := ⟨.none, none, .fields #[], #[]⟩
def o215x1 : Obj := ⟨.type "tuple", none, .seq #[.str "self" 432, .str "other" 433] 0, #[]⟩
def o216x1 : Obj := ⟨.type "tuple", none, .seq #[] 0, #[]⟩
def o217x1 : Obj := fnO (.none) none #[] (nth (inner (nth body 3)) 21) "PolynomialGeneric.__eq__" 0 [] .none .none .none .none none .none .none 0
def o218x1 : Obj := ⟨.type "code", none, .fields #[.str "__eq__" 429, .str "PolynomialGeneric.__eq__" 430, .str "/claim/cut.py" 431, .int 141 0, .int 2 0, .int 0 0, .int 0 0, .int 3 0, .ref 213, .bool true, .int 181 0, .ref 214, .none, .ref 215, .ref 216, .ref 217, .int 434 0, .int 141 0, .str "/claim/cut.py" 435], #[]⟩
def to219x1 : Lit (fnO (.type "function") none #[] (nth (inner (nth body 3)) 21) "PolynomialGeneric.__eq__" 3 [] .none .none .none (.str "dilithium_py.polynomials.polynomials_generic" 194) none (.ref 218) .none 0) := ⟨_, by conv => rhs; whnf⟩
abbrev o219x1 : Obj := to219x1.1
def o220x1 : Obj := ⟨.type "tuple", none, .seq #[] 0, #[]⟩
def o221x1 : Obj := ⟨.none, none, .fields #[], #[]⟩
def o222x1 : Obj := ⟨.type "tuple", none, .seq #[.str "self" 440, .str "idx" 441] 0, #[]⟩
def o223x1 : Obj := ⟨.type "tuple", none, .seq #[] 0, #[]⟩
def o224x1 : Obj := fnO (.none) none #[] (nth (inner (nth body 3)) 22) "PolynomialGeneric.__getitem__" 0 [] .none .none .none .none none .none .none 0
def o225x1 : Obj := ⟨.type "code", none, .fields #[.str "__getitem__" 437, .str "PolynomialGeneric.__getitem__" 438, .str "/claim/cut.py" 439, .int 148 0, .int 2 0, .int 0 0, .int 0 0, .int 3 0, .ref 220, .bool true, .int 181 0, .ref 221, .none, .ref 222, .ref 223, .ref 224, .int 442 0, .int 148 0, .str "/claim/cut.py" 443], #[]⟩
def to226x1 : Lit (fnO (.type "function") none #[] (nth (inner (nth body 3)) 22) "PolynomialGeneric.__getitem__" 3 [] .none .none .none (.str "dilithium_py.polynomials.polynomials_generic" 194) none (.ref 225) .none 0) := ⟨_, by conv => rhs; whnf⟩
abbrev o226x1 : Obj := to226x1.1
def o227x1 : Obj := ⟨.type "tuple", none, .seq #[.str "coeffs" 445, .str "parent" 446] 0, #[]⟩
def o228x1 (P : Params) : Obj := ⟨.type "dict", none, .dict #[⟨kh P "__module__", .str "__module__" 264, .str "dilithium_py.polynomials.polynomials_generic" 194⟩, ⟨kh P "__firstlineno__", .str "__firstlineno__" 268, .int 26 267⟩, ⟨kh P "__init__", .str "__init__" 277, .ref 84⟩, ⟨kh P "is_zero", .str "is_zero" 284, .ref 91⟩, ⟨kh P "is_constant", .str "is_constant" 291, .ref 98⟩, ⟨kh P "_parse_coefficients", .str "_parse_coefficients" 297, .ref 103⟩, ⟨kh P "reduce_coefficients", .str "reduce_coefficients" 304, .ref 110⟩, ⟨kh P "_add_mod_q", .str "_add_mod_q" 313, .ref 117⟩, ⟨kh P "_sub_mod_q", .str "_sub_mod_q" 322, .ref 124⟩, ⟨kh P "_schoolbook_multiplication", .str "_schoolbook_multiplication" 328, .ref 129⟩, ⟨kh P "__neg__", .str "__neg__" 334, .ref 134⟩, ⟨kh P "_add_", .str "_add_" 340, .ref 139⟩, ⟨kh P "__add__", .str "__add__" 349, .ref 146⟩, ⟨kh P "__radd__", .str "__radd__" 357, .ref 153⟩, ⟨kh P "__iadd__", .str "__iadd__" 365, .ref 160⟩, ⟨kh P "_sub_", .str "_sub_" 371, .ref 165⟩, ⟨kh P "__sub__", .str "__sub__" 380, .ref 172⟩, ⟨kh P "__rsub__", .str "__rsub__" 388, .ref 179⟩, ⟨kh P "__isub__", .str "__isub__" 396, .ref 186⟩, ⟨kh P "__mul__", .str "__mul__" 402, .ref 191⟩, ⟨kh P "__rmul__", .str "__rmul__" 410, .ref 198⟩, ⟨kh P "__imul__", .str "__imul__" 418, .ref 205⟩, ⟨kh P "__pow__", .str "__pow__" 428, .ref 212⟩, ⟨kh P "__eq__", .str "__eq__" 436, .ref 219⟩, ⟨kh P "__getitem__", .str "__getitem__" 444, .ref 226⟩, ⟨kh P "__static_attributes__", .str "__static_attributes__" 447, .ref 227⟩, ⟨kh P "__dict__", .str "__dict__" 449, .ref 230⟩, ⟨kh P "__weakref__", .str "__weakref__" 451, .ref 231⟩, ⟨kh P "__doc__", .str "__doc__" 452, .none⟩, ⟨kh P "__hash__", .str "__hash__" 453, .none⟩] 5, #[]⟩
def o229x1 : Obj := ⟨.type "type", none, .cls { name := "PolynomialGeneric", bases := [.type "object"], mro := [.ref 229, .type "object"], ns := 228, qualname := "PolynomialGeneric", hasDict := true, slotNames := [], subclasses := [], abstract := false, collection := none, hasDel := false }, #[none, none, (some (.str "PolynomialGeneric" 257)), (some (.str "PolynomialGeneric" 265)), (some (.builtin "object.__new__")), (some (.bool true))]⟩
def o230x1 : Obj := ⟨.type "getset_descriptor", none, .fields #[.str "__dict__" 448, .ref 229, .builtin "function.__dict__", .builtin "function.__dict__#set"], #[]⟩
def o231x1 : Obj := ⟨.type "getset_descriptor", none, .fields #[.str "__weakref__" 450, .ref 229, .builtin "ExceptionGroup.__weakref__", .none], #[]⟩
def o232x1 : Obj := ⟨.type "super", none, .fields #[.ref 229, .ref 229, .ref 229], #[]⟩
def o233x1 : Obj := ⟨.type "builtin_function_or_method", none, .fields #[.builtin "object.__init_subclass__", .ref 229], #[]⟩
def o234x1 : Obj := ⟨.type "tuple", none, .seq #[] 0, #[]⟩
def o235x1 : Obj := ⟨.type "builtin_function_or_method", none, .fields #[.builtin "type.__prepare__", .type "type"], #[]⟩
def o236x1 (P : Params) : Obj := ⟨.type "dict", none, .dict #[⟨kh P "__module__", .str "__module__" 465, .str "dilithium_py.shake.shake_wrapper" 456⟩, ⟨kh P "__qualname__", .str "__qualname__" 467, .str "Shake" 466⟩, ⟨kh P "__firstlineno__", .str "__firstlineno__" 469, .int 151 468⟩, ⟨kh P "__init__", .str "__init__" 478, .ref 247⟩, ⟨kh P "absorb", .str "absorb" 486, .ref 254⟩, ⟨kh P "xof_read", .str "xof_read" 494, .ref 261⟩, ⟨kh P "read", .str "read" 503, .ref 268⟩, ⟨kh P "__call__", .str "__call__" 511, .ref 275⟩, ⟨kh P "__static_attributes__", .str "__static_attributes__" 518, .ref 276⟩] 9, #[]⟩
def o237x1 : Obj := ⟨.type "tuple", none, .seq #[] 0, #[]⟩
def o238x1 : Obj := ⟨.none, none, .fields #[.int 153 0, .int 4 0, .ref 246, .int 159 0, .int 4 0, .ref 253, .int 165 0, .int 4 0, .ref 260, .int 168 0, .int 4 0, .ref 267, .int 176 0, .int 4 0, .ref 274], #[]⟩
def o239x1 : Obj := ⟨.type "code", none, .fields #[.str "Shake" 460, .str "Shake" 461, .str "/claim/cut.py" 462, .int 151 0, .int 0 0, .int 0 0, .int 0 0, .int 0 0, .ref 237, .bool false, .int 181 0, .ref 238, .none, .none, .none, .none, .int 463 0, .int 151 0, .str "/claim/cut.py" 464], #[]⟩
def o240x1 : Obj := ⟨.type "frame", none, .plain, #[(some (.ref 239)), (some (.ref 3)), (some (.ref 236)), none, (some (.str "dilithium_py.shake.shake_wrapper" 456)), none, (some (.ref 0))]⟩
def o241x1 : Obj := ⟨.type "tuple", none, .seq #[] 0, #[]⟩
def o242x1 : Obj := ⟨.none, none, .fields #[], #[]⟩
def o243x1 : Obj := ⟨.type "tuple", none, .seq #[.str "self" 473, .str "algorithm" 474, .str "block_length" 475] 0, #[]⟩
def o244x1 : Obj := ⟨.type "tuple", none, .seq #[] 0, #[]⟩
def o245x1 : Obj := fnO (.none) none #[] (nth (inner (nth body 5)) 0) "Shake.__init__" 0 [] .none .none .none .none none .none .none 0
def o246x1 : Obj := ⟨.type "code", none, .fields #[.str "__init__" 470, .str "Shake.__init__" 471, .str "/claim/cut.py" 472, .int 153 0, .int 3 0, .int 0 0, .int 0 0, .int 3 0, .ref 241, .bool true, .int 181 0, .ref 242, .none, .ref 243, .ref 244, .ref 245, .int 476 0, .int 153 0, .str "/claim/cut.py" 477], #[]⟩
def to247x1 : Lit (fnO (.type "function") none #[] (nth (inner (nth body 5)) 0) "Shake.__init__" 3 [] .none .none .none (.str "dilithium_py.shake.shake_wrapper" 456) none (.ref 246) .none 0) := ⟨_, by conv => rhs; whnf⟩
abbrev o247x1 : Obj := to247x1.1
def o248x1 : Obj := ⟨.type "tuple", none, .seq #[] 0, #[]⟩
def o249x1 : Obj := ⟨.none, none, .fields #[], #[]⟩
def o250x1 : Obj := ⟨.type "tuple", none, .seq #[.str "self" 482, .str "input_bytes" 483] 0, #[]⟩
def o251x1 : Obj := ⟨.type "tuple", none, .seq #[] 0, #[]⟩
def o252x1 : Obj := fnO (.none) none #[] (nth (inner (nth body 5)) 1) "Shake.absorb" 0 [] .none .none .none .none none .none .none 0
def o253x1 : Obj := ⟨.type "code", none, .fields #[.str "absorb" 479, .str "Shake.absorb" 480, .str "/claim/cut.py" 481, .int 159 0, .int 2 0, .int 0 0, .int 0 0, .int 3 0, .ref 248, .bool true, .int 181 0, .ref 249, .none, .ref 250, .ref 251, .ref 252, .int 484 0, .int 159 0, .str "/claim/cut.py" 485], #[]⟩
def to254x1 : Lit (fnO (.type "function") none #[] (nth (inner (nth body 5)) 1) "Shake.absorb" 3 [] .none .none .none (.str "dilithium_py.shake.shake_wrapper" 456) none (.ref 253) .none 0) := ⟨_, by conv => rhs; whnf⟩
abbrev o254x1 : Obj := to254x1.1
def o255x1 : Obj := ⟨.type "tuple", none, .seq #[] 0, #[]⟩
def o256x1 : Obj := ⟨.none, none, .fields #[], #[]⟩
def o257x1 : Obj := ⟨.type "tuple", none, .seq #[.str "self" 490, .str "n" 491] 0, #[]⟩
def o258x1 : Obj := ⟨.type "tuple", none, .seq #[] 0, #[]⟩
def o259x1 : Obj := fnO (.none) none #[] (nth (inner (nth body 5)) 2) "Shake.xof_read" 0 [] .none .none .none .none none .none .none 0
def o260x1 : Obj := ⟨.type "code", none, .fields #[.str "xof_read" 487, .str "Shake.xof_read" 488, .str "/claim/cut.py" 489, .int 165 0, .int 2 0, .int 0 0, .int 0 0, .int 3 0, .ref 255, .bool true, .int 181 0, .ref 256, .none, .ref 257, .ref 258, .ref 259, .int 492 0, .int 165 0, .str "/claim/cut.py" 493], #[]⟩
def to261x1 : Lit (fnO (.type "function") none #[] (nth (inner (nth body 5)) 2) "Shake.xof_read" 3 [] .none .none .none (.str "dilithium_py.shake.shake_wrapper" 456) none (.ref 260) .none 0) := ⟨_, by conv => rhs; whnf⟩
abbrev o261x1 : Obj := to261x1.1
def o262x1 : Obj := ⟨.type "tuple", none, .seq #[] 0, #[]⟩
def o263x1 : Obj := ⟨.none, none, .fields #[], #[]⟩
def o264x1 : Obj := ⟨.type "tuple", none, .seq #[.str "self" 498, .str "n" 499, .str "send" 500] 0, #[]⟩
def o265x1 : Obj := ⟨.type "tuple", none, .seq #[] 0, #[]⟩
def o266x1 : Obj := fnO (.none) none #[] (nth (inner (nth body 5)) 3) "Shake.read" 0 [] .none .none .none .none none .none .none 0
def o267x1 : Obj := ⟨.type "code", none, .fields #[.str "read" 495, .str "Shake.read" 496, .str "/claim/cut.py" 497, .int 168 0, .int 2 0, .int 0 0, .int 0 0, .int 3 0, .ref 262, .bool true, .int 181 0, .ref 263, .none, .ref 264, .ref 265, .ref 266, .int 501 0, .int 168 0, .str "/claim/cut.py" 502], #[]⟩
def to268x1 : Lit (fnO (.type "function") none #[] (nth (inner (nth body 5)) 3) "Shake.read" 3 [] .none .none .none (.str "dilithium_py.shake.shake_wrapper" 456) none (.ref 267) .none 0) := ⟨_, by conv => rhs; whnf⟩
abbrev o268x1 : Obj := to268x1.1
def o269x1 : Obj := ⟨.type "tuple", none, .seq #[] 0, #[]⟩
def o270x1 : Obj := ⟨.none, none, .fields #[], #[]⟩
def o271x1 : Obj := ⟨.type "tuple", none, .seq #[.str "self" 507, .str "input_bytes" 508] 0, #[]⟩
def o272x1 : Obj := ⟨.type "tuple", none, .seq #[] 0, #[]⟩
def o273x1 : Obj := fnO (.none) none #[] (nth (inner (nth body 5)) 4) "Shake.__call__" 0 [] .none .none .none .none none .none .none 0
def o274x1 : Obj := ⟨.type "code", none, .fields #[.str "__call__" 504, .str "Shake.__call__" 505, .str "/claim/cut.py" 506, .int 176 0, .int 2 0, .int 0 0, .int 0 0, .int 3 0, .ref 269, .bool true, .int 181 0, .ref 270, .none, .ref 271, .ref 272, .ref 273, .int 509 0, .int 176 0, .str "/claim/cut.py" 510], #[]⟩
def to275x1 : Lit (fnO (.type "function") none #[] (nth (inner (nth body 5)) 4) "Shake.__call__" 3 [] .none .none .none (.str "dilithium_py.shake.shake_wrapper" 456) none (.ref 274) .none 0) := ⟨_, by conv => rhs; whnf⟩
abbrev o275x1 : Obj := to275x1.1
def o276x1 : Obj := ⟨.type "tuple", none, .seq #[.str "algorithm" 512, .str "block_length" 513, .str "buf" 514, .str "index" 515, .str "input_bytes" 516, .str "len_buf" 517] 0, #[]⟩
def o277x1 (P : Params) : Obj := ⟨.type "dict", none, .dict #[⟨kh P "__module__", .str "__module__" 465, .str "dilithium_py.shake.shake_wrapper" 456⟩, ⟨kh P "__firstlineno__", .str "__firstlineno__" 469, .int 151 468⟩, ⟨kh P "__init__", .str "__init__" 478, .ref 247⟩, ⟨kh P "absorb", .str "absorb" 486, .ref 254⟩, ⟨kh P "xof_read", .str "xof_read" 494, .ref 261⟩, ⟨kh P "read", .str "read" 503, .ref 268⟩, ⟨kh P "__call__", .str "__call__" 511, .ref 275⟩, ⟨kh P "__static_attributes__", .str "__static_attributes__" 518, .ref 276⟩, ⟨kh P "__dict__", .str "__dict__" 520, .ref 279⟩, ⟨kh P "__weakref__", .str "__weakref__" 522, .ref 280⟩, ⟨kh P "__doc__", .str "__doc__" 523, .none⟩] 4, #[]⟩
def o278x1 : Obj := ⟨.type "type", none, .cls { name := "Shake", bases := [.type "object"], mro := [.ref 278, .type "object"], ns := 277, qualname := "Shake", hasDict := true, slotNames := [], subclasses := [], abstract := false, collection := none, hasDel := false }, #[none, none, (some (.str "Shake" 458)), (some (.str "Shake" 466)), (some (.builtin "object.__new__")), (some (.bool true))]⟩
def o279x1 : Obj := ⟨.type "getset_descriptor", none, .fields #[.str "__dict__" 519, .ref 278, .builtin "function.__dict__", .builtin "function.__dict__#set"], #[]⟩
def o280x1 : Obj := ⟨.type "getset_descriptor", none, .fields #[.str "__weakref__" 521, .ref 278, .builtin "ExceptionGroup.__weakref__", .none], #[]⟩
def o281x1 : Obj := ⟨.type "super", none, .fields #[.ref 278, .ref 278, .ref 278], #[]⟩
def o282x1 : Obj := ⟨.type "builtin_function_or_method", none, .fields #[.builtin "object.__init_subclass__", .ref 278], #[]⟩
def o283x1 : Obj := ⟨.type "tuple", none, .seq #[.ref 66] 0, #[]⟩
def o284x1 : Obj := ⟨.type "builtin_function_or_method", none, .fields #[.builtin "type.__prepare__", .type "type"], #[]⟩
def o285x1 (P : Params) : Obj := ⟨.type "dict", none, .dict #[⟨kh P "__module__", .str "__module__" 535, .str "dilithium_py.polynomials.polynomials" 526⟩, ⟨kh P "__qualname__", .str "__qualname__" 537, .str "PolynomialRing" 536⟩, ⟨kh P "__firstlineno__", .str "__firstlineno__" 539, .int 180 538⟩, ⟨kh P "__init__", .str "__init__" 545, .ref 294⟩, ⟨kh P "br", .str "br" 566, .ref 303⟩, ⟨kh P "sample_in_ball", .str "sample_in_ball" 575, .ref 311⟩, ⟨kh P "rejection_sample_ntt_poly", .str "rejection_sample_ntt_poly" 585, .ref 318⟩, ⟨kh P "rejection_bounded_poly", .str "rejection_bounded_poly" 595, .ref 325⟩, ⟨kh P "sample_mask_polynomial", .str "sample_mask_polynomial" 606, .ref 332⟩, ⟨kh P "_bit_unpack", .str "_bit_unpack" 612, .ref 337⟩, ⟨kh P "bit_unpack_t0", .str "bit_unpack_t0" 618, .ref 342⟩, ⟨kh P "bit_unpack_t1", .str "bit_unpack_t1" 627, .ref 349⟩, ⟨kh P "bit_unpack_s", .str "bit_unpack_s" 633, .ref 354⟩, ⟨kh P "bit_unpack_w", .str "bit_unpack_w" 643, .ref 361⟩, ⟨kh P "bit_unpack_z", .str "bit_unpack_z" 649, .ref 366⟩, ⟨kh P "__call__", .str "__call__" 658, .ref 374⟩, ⟨kh P "is_element", .str "is_element" 666, .ref 381⟩, ⟨kh P "__static_attributes__", .str "__static_attributes__" 673, .ref 382⟩] 18, #[]⟩
def o286x1 : Obj := ⟨.type "tuple", none, .seq #[] 0, #[]⟩
def o287x1 : Obj := ⟨.none, none, .fields #[.int 182 0, .int 4 0, .ref 293, .int 192 0, .int 4 0, .ref 300, .int 196 0, .int 4 0, .ref 310, .int 199 0, .int 4 0, .ref 317, .int 202 0, .int 4 0, .ref 324, .int 205 0, .int 4 0, .ref 331, .int 208 0, .int 4 0, .ref 336, .int 215 0, .int 4 0, .ref 341, .int 220 0, .int 4 0, .ref 348, .int 224 0, .int 4 0, .ref 353, .int 233 0, .int 4 0, .ref 360, .int 241 0, .int 4 0, .ref 365, .int 250 0, .int 4 0, .ref 373, .int 259 0, .int 4 0, .ref 380], #[]⟩
def o288x1 : Obj := ⟨.type "code", none, .fields #[.str "PolynomialRing" 530, .str "PolynomialRing" 531, .str "/claim/cut.py" 532, .int 180 0, .int 0 0, .int 0 0, .int 0 0, .int 0 0, .ref 286, .bool false, .int 181 0, .ref 287, .none, .none, .none, .none, .int 533 0, .int 180 0, .str "/claim/cut.py" 534], #[]⟩
def o289x1 : Obj := ⟨.type "frame", none, .plain, #[(some (.ref 288)), (some (.ref 3)), (some (.ref 285)), none, (some (.str "dilithium_py.polynomials.polynomials" 526)), none, (some (.ref 0))]⟩
def o290x1 : Obj := ⟨.type "tuple", none, .seq #[] 0, #[]⟩
def o291x1 : Obj := ⟨.none, none, .fields #[], #[]⟩
def o292x1 : Obj := fnO (.none) none #[] (nth (inner (nth body 7)) 0) "PolynomialRing.__init__" 0 [] .none .none .none .none none .none .none 0
def o293x1 : Obj := ⟨.type "code", none, .fields #[.str "__init__" 540, .str "PolynomialRing.__init__" 541, .str "/claim/cut.py" 542, .int 182 0, .int 3 0, .int 0 0, .int 0 0, .int 3 0, .ref 290, .bool true, .int 181 0, .ref 291, .none, .none, .none, .ref 292, .int 543 0, .int 182 0, .str "/claim/cut.py" 544], #[]⟩
def to294x1 : Lit (fnO (.type "function") none #[] (nth (inner (nth body 7)) 0) "PolynomialRing.__init__" 3 [] .none .none .none (.str "dilithium_py.polynomials.polynomials" 526) none (.ref 293) .none 0) := ⟨_, by conv => rhs; whnf⟩
abbrev o294x1 : Obj := to294x1.1
def o295x1 : Obj := ⟨.type "tuple", none, .seq #[] 0, #[]⟩
def o296x1 : Obj := ⟨.none, none, .fields #[], #[]⟩
def o297x1 : Obj := ⟨.type "tuple", none, .seq #[.str "i" 549, .str "k" 550, .str "bin_i" 551] 0, #[]⟩
def o298x1 : Obj := ⟨.type "tuple", none, .seq #[] 0, #[]⟩
def o299x1 : Obj := fnO (.none) none #[] (nth (inner (nth body 7)) 1) "PolynomialRing.br" 0 [] .none .none .none .none none .none .none 0
def o300x1 : Obj := ⟨.type "code", none, .fields #[.str "br" 546, .str "PolynomialRing.br" 547, .str "/claim/cut.py" 548, .int 191 0, .int 2 0, .int 0 0, .int 0 0, .int 3 0, .ref 295, .bool true, .int 181 0, .ref 296, .none, .ref 297, .ref 298, .ref 299, .int 552 0, .int 191 0, .str "/claim/cut.py" 553], #[]⟩
def to301x1 : Lit (fnO (.type "function") none #[] (nth (inner (nth body 7)) 1) "PolynomialRing.br" 3 [] .none .none .none (.str "dilithium_py.polynomials.polynomials" 526) (some (304)) (.ref 300) .none 0) := ⟨_, by conv => rhs; whnf⟩
abbrev o301x1 : Obj := to301x1.1
def o302x1 (P : Params) : Obj := ⟨.type "dict", none, .dict #[⟨kh P "__module__", .str "__module__" 555, .str "dilithium_py.polynomials.polynomials" 526⟩, ⟨kh P "__name__", .str "__name__" 558, .str "br" 557⟩, ⟨kh P "__qualname__", .str "__qualname__" 561, .str "PolynomialRing.br" 560⟩, ⟨kh P "__doc__", .str "__doc__" 563, .none⟩, ⟨kh P "__annotations__", .str "__annotations__" 565, .ref 304⟩] 5, #[]⟩
def o303x1 : Obj := ⟨.type "staticmethod", some 302, .fields #[.ref 301, .bool false], #[]⟩
def o304x1 : Obj := ⟨.type "dict", none, .dict #[] 0, #[]⟩
def o305x1 : Obj := ⟨.type "tuple", none, .seq #[] 0, #[]⟩
def o306x1 : Obj := ⟨.none, none, .fields #[], #[]⟩
def o307x1 : Obj := ⟨.type "tuple", none, .seq #[.str "self" 570, .str "seed" 571, .str "tau" 572] 0, #[]⟩
def o308x1 : Obj := ⟨.type "tuple", none, .seq #[] 0, #[]⟩
def o309x1 : Obj := fnO (.none) none #[] (nth (inner (nth body 7)) 2) "PolynomialRing.sample_in_ball" 0 [] .none .none .none .none none .none .none 0
def o310x1 : Obj := ⟨.type "code", none, .fields #[.str "sample_in_ball" 567, .str "PolynomialRing.sample_in_ball" 568, .str "/claim/cut.py" 569, .int 196 0, .int 3 0, .int 0 0, .int 0 0, .int 3 0, .ref 305, .bool true, .int 181 0, .ref 306, .none, .ref 307, .ref 308, .ref 309, .int 573 0, .int 196 0, .str "/claim/cut.py" 574], #[]⟩
def to311x1 : Lit (fnO (.type "function") none #[] (nth (inner (nth body 7)) 2) "PolynomialRing.sample_in_ball" 3 [] .none .none .none (.str "dilithium_py.polynomials.polynomials" 526) none (.ref 310) .none 0) := ⟨_, by conv => rhs; whnf⟩
abbrev o311x1 : Obj := to311x1.1
def o312x1 : Obj := ⟨.type "tuple", none, .seq #[] 0, #[]⟩
def o313x1 : Obj := ⟨.none, none, .fields #[], #[]⟩
def o314x1 : Obj := ⟨.type "tuple", none, .seq #[.str "self" 579, .str "rho" 580, .str "i" 581, .str "j" 582] 0, #[]⟩
def o315x1 : Obj := ⟨.type "tuple", none, .seq #[] 0, #[]⟩
def o316x1 : Obj := fnO (.none) none #[] (nth (inner (nth body 7)) 3) "PolynomialRing.rejection_sample_ntt_poly" 0 [] .none .none .none .none none .none .none 0
def o317x1 : Obj := ⟨.type "code", none, .fields #[.str "rejection_sample_ntt_poly" 576, .str "PolynomialRing.rejection_sample_ntt_poly" 577, .str "/claim/cut.py" 578, .int 199 0, .int 4 0, .int 0 0, .int 0 0, .int 3 0, .ref 312, .bool true, .int 181 0, .ref 313, .none, .ref 314, .ref 315, .ref 316, .int 583 0, .int 199 0, .str "/claim/cut.py" 584], #[]⟩
def to318x1 : Lit (fnO (.type "function") none #[] (nth (inner (nth body 7)) 3) "PolynomialRing.rejection_sample_ntt_poly" 3 [] .none .none .none (.str "dilithium_py.polynomials.polynomials" 526) none (.ref 317) .none 0) := ⟨_, by conv => rhs; whnf⟩
abbrev o318x1 : Obj := to318x1.1
def o319x1 : Obj := ⟨.type "tuple", none, .seq #[] 0, #[]⟩
def o320x1 : Obj := ⟨.none, none, .fields #[], #[]⟩
def o321x1 : Obj := ⟨.type "tuple", none, .seq #[.str "self" 589, .str "rho_prime" 590, .str "i" 591, .str "eta" 592] 0, #[]⟩
def o322x1 : Obj := ⟨.type "tuple", none, .seq #[] 0, #[]⟩
def o323x1 : Obj := fnO (.none) none #[] (nth (inner (nth body 7)) 4) "PolynomialRing.rejection_bounded_poly" 0 [] .none .none .none .none none .none .none 0
def o324x1 : Obj := ⟨.type "code", none, .fields #[.str "rejection_bounded_poly" 586, .str "PolynomialRing.rejection_bounded_poly" 587, .str "/claim/cut.py" 588, .int 202 0, .int 4 0, .int 0 0, .int 0 0, .int 3 0, .ref 319, .bool true, .int 181 0, .ref 320, .none, .ref 321, .ref 322, .ref 323, .int 593 0, .int 202 0, .str "/claim/cut.py" 594], #[]⟩
def to325x1 : Lit (fnO (.type "function") none #[] (nth (inner (nth body 7)) 4) "PolynomialRing.rejection_bounded_poly" 3 [] .none .none .none (.str "dilithium_py.polynomials.polynomials" 526) none (.ref 324) .none 0) := ⟨_, by conv => rhs; whnf⟩
abbrev o325x1 : Obj := to325x1.1
def o326x1 : Obj := ⟨.type "tuple", none, .seq #[] 0, #[]⟩
def o327x1 : Obj := ⟨.none, none, .fields #[], #[]⟩
def o328x1 : Obj := ⟨.type "tuple", none, .seq #[.str "self" 599, .str "rho_prime" 600, .str "i" 601, .str "kappa" 602, .str "gamma_1" 603] 0, #[]⟩
def o329x1 : Obj := ⟨.type "tuple", none, .seq #[] 0, #[]⟩
def o330x1 : Obj := fnO (.none) none #[] (nth (inner (nth body 7)) 5) "PolynomialRing.sample_mask_polynomial" 0 [] .none .none .none .none none .none .none 0
def o331x1 : Obj := ⟨.type "code", none, .fields #[.str "sample_mask_polynomial" 596, .str "PolynomialRing.sample_mask_polynomial" 597, .str "/claim/cut.py" 598, .int 205 0, .int 5 0, .int 0 0, .int 0 0, .int 3 0, .ref 326, .bool true, .int 181 0, .ref 327, .none, .ref 328, .ref 329, .ref 330, .int 604 0, .int 205 0, .str "/claim/cut.py" 605], #[]⟩
def to332x1 : Lit (fnO (.type "function") none #[] (nth (inner (nth body 7)) 5) "PolynomialRing.sample_mask_polynomial" 3 [] .none .none .none (.str "dilithium_py.polynomials.polynomials" 526) none (.ref 331) .none 0) := ⟨_, by conv => rhs; whnf⟩
abbrev o332x1 : Obj := to332x1.1
def o333x1 : Obj := ⟨.type "tuple", none, .seq #[] 0, #[]⟩
def o334x1 : Obj := ⟨.none, none, .fields #[], #[]⟩
def o335x1 : Obj := fnO (.none) none #[] (nth (inner (nth body 7)) 6) "PolynomialRing._bit_unpack" 0 [] .none .none .none .none none .none .none 0
def o336x1 : Obj := ⟨.type "code", none, .fields #[.str "_bit_unpack" 607, .str "PolynomialRing._bit_unpack" 608, .str "/claim/cut.py" 609, .int 208 0, .int 3 0, .int 0 0, .int 0 0, .int 3 0, .ref 333, .bool true, .int 181 0, .ref 334, .none, .none, .none, .ref 335, .int 610 0, .int 208 0, .str "/claim/cut.py" 611], #[]⟩
def to337x1 : Lit (fnO (.type "function") none #[] (nth (inner (nth body 7)) 6) "PolynomialRing._bit_unpack" 3 [] .none .none .none (.str "dilithium_py.polynomials.polynomials" 526) none (.ref 336) .none 0) := ⟨_, by conv => rhs; whnf⟩
abbrev o337x1 : Obj := to337x1.1
def o338x1 : Obj := ⟨.type "tuple", none, .seq #[] 0, #[]⟩
def o339x1 : Obj := ⟨.none, none, .fields #[], #[]⟩
def o340x1 : Obj := fnO (.none) none #[] (nth (inner (nth body 7)) 7) "PolynomialRing.bit_unpack_t0" 0 [] .none .none .none .none none .none .none 0
def o341x1 : Obj := ⟨.type "code", none, .fields #[.str "bit_unpack_t0" 613, .str "PolynomialRing.bit_unpack_t0" 614, .str "/claim/cut.py" 615, .int 215 0, .int 2 0, .int 0 0, .int 0 0, .int 3 0, .ref 338, .bool true, .int 181 0, .ref 339, .none, .none, .none, .ref 340, .int 616 0, .int 215 0, .str "/claim/cut.py" 617], #[]⟩
def to342x1 : Lit (fnO (.type "function") none #[] (nth (inner (nth body 7)) 7) "PolynomialRing.bit_unpack_t0" 3 [] .none .none .none (.str "dilithium_py.polynomials.polynomials" 526) none (.ref 341) .none 0) := ⟨_, by conv => rhs; whnf⟩
abbrev o342x1 : Obj := to342x1.1
def o343x1 : Obj := ⟨.type "tuple", none, .seq #[] 0, #[]⟩
def o344x1 : Obj := ⟨.none, none, .fields #[], #[]⟩
def o345x1 : Obj := ⟨.type "tuple", none, .seq #[.str "self" 622, .str "input_bytes" 623, .str "coefficients" 624] 0, #[]⟩
def o346x1 : Obj := ⟨.type "tuple", none, .seq #[] 0, #[]⟩
def o347x1 : Obj := fnO (.none) none #[] (nth (inner (nth body 7)) 8) "PolynomialRing.bit_unpack_t1" 0 [] .none .none .none .none none .none .none 0
def o348x1 : Obj := ⟨.type "code", none, .fields #[.str "bit_unpack_t1" 619, .str "PolynomialRing.bit_unpack_t1" 620, .str "/claim/cut.py" 621, .int 220 0, .int 2 0, .int 0 0, .int 0 0, .int 3 0, .ref 343, .bool true, .int 181 0, .ref 344, .none, .ref 345, .ref 346, .ref 347, .int 625 0, .int 220 0, .str "/claim/cut.py" 626], #[]⟩
def to349x1 : Lit (fnO (.type "function") none #[] (nth (inner (nth body 7)) 8) "PolynomialRing.bit_unpack_t1" 3 [] .none .none .none (.str "dilithium_py.polynomials.polynomials" 526) none (.ref 348) .none 0) := ⟨_, by conv => rhs; whnf⟩
abbrev o349x1 : Obj := to349x1.1
def o350x1 : Obj := ⟨.type "tuple", none, .seq #[] 0, #[]⟩
def o351x1 : Obj := ⟨.none, none, .fields #[], #[]⟩
def o352x1 : Obj := fnO (.none) none #[] (nth (inner (nth body 7)) 9) "PolynomialRing.bit_unpack_s" 0 [] .none .none .none .none none .none .none 0
def o353x1 : Obj := ⟨.type "code", none, .fields #[.str "bit_unpack_s" 628, .str "PolynomialRing.bit_unpack_s" 629, .str "/claim/cut.py" 630, .int 224 0, .int 3 0, .int 0 0, .int 0 0, .int 3 0, .ref 350, .bool true, .int 181 0, .ref 351, .none, .none, .none, .ref 352, .int 631 0, .int 224 0, .str "/claim/cut.py" 632], #[]⟩
def to354x1 : Lit (fnO (.type "function") none #[] (nth (inner (nth body 7)) 9) "PolynomialRing.bit_unpack_s" 3 [] .none .none .none (.str "dilithium_py.polynomials.polynomials" 526) none (.ref 353) .none 0) := ⟨_, by conv => rhs; whnf⟩
abbrev o354x1 : Obj := to354x1.1
def o355x1 : Obj := ⟨.type "tuple", none, .seq #[] 0, #[]⟩
def o356x1 : Obj := ⟨.none, none, .fields #[], #[]⟩
def o357x1 : Obj := ⟨.type "tuple", none, .seq #[.str "self" 637, .str "input_bytes" 638, .str "gamma_2" 639, .str "coefficients" 640] 0, #[]⟩
def o358x1 : Obj := ⟨.type "tuple", none, .seq #[] 0, #[]⟩
def o359x1 : Obj := fnO (.none) none #[] (nth (inner (nth body 7)) 10) "PolynomialRing.bit_unpack_w" 0 [] .none .none .none .none none .none .none 0
def o360x1 : Obj := ⟨.type "code", none, .fields #[.str "bit_unpack_w" 634, .str "PolynomialRing.bit_unpack_w" 635, .str "/claim/cut.py" 636, .int 233 0, .int 3 0, .int 0 0, .int 0 0, .int 3 0, .ref 355, .bool true, .int 181 0, .ref 356, .none, .ref 357, .ref 358, .ref 359, .int 641 0, .int 233 0, .str "/claim/cut.py" 642], #[]⟩
def to361x1 : Lit (fnO (.type "function") none #[] (nth (inner (nth body 7)) 10) "PolynomialRing.bit_unpack_w" 3 [] .none .none .none (.str "dilithium_py.polynomials.polynomials" 526) none (.ref 360) .none 0) := ⟨_, by conv => rhs; whnf⟩
abbrev o361x1 : Obj := to361x1.1
def o362x1 : Obj := ⟨.type "tuple", none, .seq #[] 0, #[]⟩
def o363x1 : Obj := ⟨.none, none, .fields #[], #[]⟩
def o364x1 : Obj := fnO (.none) none #[] (nth (inner (nth body 7)) 11) "PolynomialRing.bit_unpack_z" 0 [] .none .none .none .none none .none .none 0
def o365x1 : Obj := ⟨.type "code", none, .fields #[.str "bit_unpack_z" 644, .str "PolynomialRing.bit_unpack_z" 645, .str "/claim/cut.py" 646, .int 241 0, .int 3 0, .int 0 0, .int 0 0, .int 3 0, .ref 362, .bool true, .int 181 0, .ref 363, .none, .none, .none, .ref 364, .int 647 0, .int 241 0, .str "/claim/cut.py" 648], #[]⟩
def to366x1 : Lit (fnO (.type "function") none #[] (nth (inner (nth body 7)) 11) "PolynomialRing.bit_unpack_z" 3 [] .none .none .none (.str "dilithium_py.polynomials.polynomials" 526) none (.ref 365) .none 0) := ⟨_, by conv => rhs; whnf⟩
abbrev o366x1 : Obj := to366x1.1
def o367x1 : Obj := ⟨.type "tuple", none, .seq #[.bool false] 0, #[]⟩
def o368x1 : Obj := ⟨.type "tuple", none, .seq #[] 0, #[]⟩
def o369x1 : Obj := ⟨.none, none, .fields #[], #[]⟩
def o370x1 : Obj := ⟨.type "tuple", none, .seq #[.str "self" 653, .str "coefficients" 654, .str "is_ntt" 655] 0, #[]⟩
def o371x1 : Obj := ⟨.type "tuple", none, .seq #[] 0, #[]⟩
def o372x1 : Obj := fnO (.none) none #[] (nth (inner (nth body 7)) 12) "PolynomialRing.__call__" 0 [] .none .none .none .none none .none .none 0
def o373x1 : Obj := ⟨.type "code", none, .fields #[.str "__call__" 650, .str "PolynomialRing.__call__" 651, .str "/claim/cut.py" 652, .int 250 0, .int 3 0, .int 0 0, .int 0 0, .int 3 0, .ref 368, .bool true, .int 181 0, .ref 369, .none, .ref 370, .ref 371, .ref 372, .int 656 0, .int 250 0, .str "/claim/cut.py" 657], #[]⟩
def to374x1 : Lit (fnO (.type "function") none #[] (nth (inner (nth body 7)) 12) "PolynomialRing.__call__" 3 [] (.ref 367) .none .none (.str "dilithium_py.polynomials.polynomials" 526) none (.ref 373) .none 0) := ⟨_, by conv => rhs; whnf⟩
abbrev o374x1 : Obj := to374x1.1
def o375x1 : Obj := ⟨.type "tuple", none, .seq #[] 0, #[]⟩
def o376x1 : Obj := ⟨.none, none, .fields #[], #[]⟩
def o377x1 : Obj := ⟨.type "tuple", none, .seq #[.str "self" 662, .str "value" 663] 0, #[]⟩
def o378x1 : Obj := ⟨.type "tuple", none, .seq #[] 0, #[]⟩
def o379x1 : Obj := fnO (.none) none #[] (nth (inner (nth body 7)) 13) "PolynomialRing.is_element" 0 [] .none .none .none .none none .none .none 0
def o380x1 : Obj := ⟨.type "code", none, .fields #[.str "is_element" 659, .str "PolynomialRing.is_element" 660, .str "/claim/cut.py" 661, .int 259 0, .int 2 0, .int 0 0, .int 0 0, .int 3 0, .ref 375, .bool true, .int 181 0, .ref 376, .none, .ref 377, .ref 378, .ref 379, .int 664 0, .int 259 0, .str "/claim/cut.py" 665], #[]⟩
def to381x1 : Lit (fnO (.type "function") none #[] (nth (inner (nth body 7)) 13) "PolynomialRing.is_element" 3 [] .none .none .none (.str "dilithium_py.polynomials.polynomials" 526) none (.ref 380) .none 0) := ⟨_, by conv => rhs; whnf⟩
abbrev o381x1 : Obj := to381x1.1
def o382x1 : Obj := ⟨.type "tuple", none, .seq #[.str "n" 667, .str "ntt_f" 668, .str "ntt_zetas" 669, .str "q" 670, .str "shake128" 671, .str "shake256" 672] 0, #[]⟩
def o383x1 (P : Params) : Obj := ⟨.type "dict", none, .dict #[⟨kh P "__module__", .str "__module__" 535, .str "dilithium_py.polynomials.polynomials" 526⟩, ⟨kh P "__firstlineno__", .str "__firstlineno__" 539, .int 180 538⟩, ⟨kh P "__init__", .str "__init__" 545, .ref 294⟩, ⟨kh P "br", .str "br" 566, .ref 303⟩, ⟨kh P "sample_in_ball", .str "sample_in_ball" 575, .ref 311⟩, ⟨kh P "rejection_sample_ntt_poly", .str "rejection_sample_ntt_poly" 585, .ref 318⟩, ⟨kh P "rejection_bounded_poly", .str "rejection_bounded_poly" 595, .ref 325⟩, ⟨kh P "sample_mask_polynomial", .str "sample_mask_polynomial" 606, .ref 332⟩, ⟨kh P "_bit_unpack", .str "_bit_unpack" 612, .ref 337⟩, ⟨kh P "bit_unpack_t0", .str "bit_unpack_t0" 618, .ref 342⟩, ⟨kh P "bit_unpack_t1", .str "bit_unpack_t1" 627, .ref 349⟩, ⟨kh P "bit_unpack_s", .str "bit_unpack_s" 633, .ref 354⟩, ⟨kh P "bit_unpack_w", .str "bit_unpack_w" 643, .ref 361⟩, ⟨kh P "bit_unpack_z", .str "bit_unpack_z" 649, .ref 366⟩, ⟨kh P "__call__", .str "__call__" 658, .ref 374⟩, ⟨kh P "is_element", .str "is_element" 666, .ref 381⟩, ⟨kh P "__static_attributes__", .str "__static_attributes__" 673, .ref 382⟩, ⟨kh P "__doc__", .str "__doc__" 674, .none⟩] 2, #[]⟩
def o384x1 : Obj := ⟨.type "type", none, .cls { name := "PolynomialRing", bases := [.ref 66], mro := [.ref 384, .ref 66, .type "object"], ns := 383, qualname := "PolynomialRing", hasDict := true, slotNames := [], subclasses := [], abstract := false, collection := none, hasDel := false }, #[(some (.ref 283)), none, (some (.str "PolynomialRing" 528)), (some (.str "PolynomialRing" 536)), (some (.builtin "object.__new__")), (some (.bool true))]⟩
def o385x1 : Obj := ⟨.type "super", none, .fields #[.ref 384, .ref 384, .ref 384], #[]⟩
def o386x1 : Obj := ⟨.type "builtin_function_or_method", none, .fields #[.builtin "object.__init_subclass__", .ref 384], #[]⟩
def T1 (P : Params) : BT := .node (o0 P) (.node (o1 P) (.node (o3x1 P) (.node o7 (.node o15x1 (.node o31x1 (.node o63x1 (.node o127x1 (.node o255x1 .nil .nil) (.node (o383x1 P) .nil .nil)) (.node o191x1 (.node o319x1 .nil .nil) .nil)) (.node o95x1 (.node o159x1 (.node o287x1 .nil .nil) .nil) (.node o223x1 (.node o351x1 .nil .nil) .nil))) (.node o47x1 (.node o79x1 (.node o143x1 (.node o271x1 .nil .nil) .nil) (.node o207x1 (.node o335x1 .nil .nil) .nil)) (.node o111x1 (.node o175x1 (.node o303x1 .nil .nil) .nil) (.node o239x1 (.node o367x1 .nil .nil) .nil)))) (.node o23x1 (.node o39x1 (.node o71x1 (.node o135x1 (.node o263x1 .nil .nil) .nil) (.node o199x1 (.node o327x1 .nil .nil) .nil)) (.node o103x1 (.node o167x1 (.node o295x1 .nil .nil) .nil) (.node o231x1 (.node o359x1 .nil .nil) .nil))) (.node o55x1 (.node o87x1 (.node o151x1 (.node o279x1 .nil .nil) .nil) (.node o215x1 (.node o343x1 .nil .nil) .nil)) (.node o119x1 (.node o183x1 (.node o311x1 .nil .nil) .nil) (.node o247x1 (.node o375x1 .nil .nil) .nil))))) (.node o11 (.node o19x1 (.node o35x1 (.node o67x1 (.node o131x1 (.node o259x1 .nil .nil) .nil) (.node o195x1 (.node o323x1 .nil .nil) .nil)) (.node o99x1 (.node o163x1 (.node o291x1 .nil .nil) .nil) (.node o227x1 (.node o355x1 .nil .nil) .nil))) (.node o51x1 (.node o83x1 (.node o147x1 (.node o275x1 .nil .nil) .nil) (.node o211x1 (.node o339x1 .nil .nil) .nil)) (.node o115x1 (.node o179x1 (.node o307x1 .nil .nil) .nil) (.node o243x1 (.node o371x1 .nil .nil) .nil)))) (.node o27x1 (.node o43x1 (.node o75x1 (.node o139x1 (.node o267x1 .nil .nil) .nil) (.node o203x1 (.node o331x1 .nil .nil) .nil)) (.node o107x1 (.node o171x1 (.node o299x1 .nil .nil) .nil) (.node o235x1 (.node o363x1 .nil .nil) .nil))) (.node o59x1 (.node o91x1 (.node o155x1 (.node o283x1 .nil .nil) .nil) (.node o219x1 (.node o347x1 .nil .nil) .nil)) (.node o123x1 (.node o187x1 (.node o315x1 .nil .nil) .nil) (.node o251x1 (.node o379x1 .nil .nil) .nil)))))) (.node o5 (.node o9 (.node o17x1 (.node o33x1 (.node (o65x1 P) (.node o129x1 (.node o257x1 .nil .nil) (.node o385x1 .nil .nil)) (.node o193x1 (.node o321x1 .nil .nil) .nil)) (.node o97x1 (.node o161x1 (.node o289x1 .nil .nil) .nil) (.node o225x1 (.node o353x1 .nil .nil) .nil))) (.node o49x1 (.node o81x1 (.node o145x1 (.node o273x1 .nil .nil) .nil) (.node o209x1 (.node o337x1 .nil .nil) .nil)) (.node o113x1 (.node o177x1 (.node o305x1 .nil .nil) .nil) (.node o241x1 (.node o369x1 .nil .nil) .nil)))) (.node o25x1 (.node o41x1 (.node (o73x1 P) (.node o137x1 (.node o265x1 .nil .nil) .nil) (.node o201x1 (.node o329x1 .nil .nil) .nil)) (.node o105x1 (.node o169x1 (.node o297x1 .nil .nil) .nil) (.node o233x1 (.node o361x1 .nil .nil) .nil))) (.node o57x1 (.node o89x1 (.node o153x1 (.node o281x1 .nil .nil) .nil) (.node o217x1 (.node o345x1 .nil .nil) .nil)) (.node o121x1 (.node o185x1 (.node o313x1 .nil .nil) .nil) (.node o249x1 (.node o377x1 .nil .nil) .nil))))) (.node o13 (.node o21x1 (.node o37x1 (.node o69x1 (.node o133x1 (.node o261x1 .nil .nil) .nil) (.node o197x1 (.node o325x1 .nil .nil) .nil)) (.node o101x1 (.node o165x1 (.node o293x1 .nil .nil) .nil) (.node o229x1 (.node o357x1 .nil .nil) .nil))) (.node o53x1 (.node o85x1 (.node o149x1 (.node (o277x1 P) .nil .nil) .nil) (.node o213x1 (.node o341x1 .nil .nil) .nil)) (.node o117x1 (.node o181x1 (.node o309x1 .nil .nil) .nil) (.node o245x1 (.node o373x1 .nil .nil) .nil)))) (.node o29x1 (.node o45x1 (.node o77x1 (.node o141x1 (.node o269x1 .nil .nil) .nil) (.node o205x1 (.node o333x1 .nil .nil) .nil)) (.node o109x1 (.node o173x1 (.node o301x1 .nil .nil) .nil) (.node o237x1 (.node o365x1 .nil .nil) .nil))) (.node o61x1 (.node o93x1 (.node o157x1 (.node (o285x1 P) .nil .nil) .nil) (.node o221x1 (.node o349x1 .nil .nil) .nil)) (.node o125x1 (.node o189x1 (.node o317x1 .nil .nil) .nil) (.node o253x1 (.node o381x1 .nil .nil) .nil))))))) (.node o2 (.node o4 (.node o8 (.node o16x1 (.node o32x1 (.node o64x1 (.node o128x1 (.node o256x1 .nil .nil) (.node o384x1 .nil .nil)) (.node o192x1 (.node o320x1 .nil .nil) .nil)) (.node o96x1 (.node o160x1 (.node o288x1 .nil .nil) .nil) (.node o224x1 (.node o352x1 .nil .nil) .nil))) (.node o48x1 (.node o80x1 (.node o144x1 (.node o272x1 .nil .nil) .nil) (.node o208x1 (.node o336x1 .nil .nil) .nil)) (.node o112x1 (.node o176x1 (.node o304x1 .nil .nil) .nil) (.node o240x1 (.node o368x1 .nil .nil) .nil)))) (.node (o24x1 P) (.node o40x1 (.node o72x1 (.node o136x1 (.node o264x1 .nil .nil) .nil) (.node o200x1 (.node o328x1 .nil .nil) .nil)) (.node o104x1 (.node o168x1 (.node o296x1 .nil .nil) .nil) (.node o232x1 (.node o360x1 .nil .nil) .nil))) (.node o56x1 (.node o88x1 (.node o152x1 (.node o280x1 .nil .nil) .nil) (.node o216x1 (.node o344x1 .nil .nil) .nil)) (.node o120x1 (.node o184x1 (.node o312x1 .nil .nil) .nil) (.node o248x1 (.node o376x1 .nil .nil) .nil))))) (.node o12x1 (.node o20x1 (.node o36x1 (.node o68x1 (.node o132x1 (.node o260x1 .nil .nil) .nil) (.node o196x1 (.node o324x1 .nil .nil) .nil)) (.node o100x1 (.node o164x1 (.node o292x1 .nil .nil) .nil) (.node (o228x1 P) (.node o356x1 .nil .nil) .nil))) (.node o52x1 (.node o84x1 (.node o148x1 (.node o276x1 .nil .nil) .nil) (.node o212x1 (.node o340x1 .nil .nil) .nil)) (.node o116x1 (.node o180x1 (.node o308x1 .nil .nil) .nil) (.node o244x1 (.node o372x1 .nil .nil) .nil)))) (.node o28x1 (.node o44x1 (.node o76x1 (.node o140x1 (.node o268x1 .nil .nil) .nil) (.node o204x1 (.node o332x1 .nil .nil) .nil)) (.node o108x1 (.node o172x1 (.node o300x1 .nil .nil) .nil) (.node (o236x1 P) (.node o364x1 .nil .nil) .nil))) (.node o60x1 (.node o92x1 (.node o156x1 (.node o284x1 .nil .nil) .nil) (.node o220x1 (.node o348x1 .nil .nil) .nil)) (.node o124x1 (.node o188x1 (.node o316x1 .nil .nil) .nil) (.node o252x1 (.node o380x1 .nil .nil) .nil)))))) (.node o6 (.node o10 (.node o18x1 (.node o34x1 (.node o66x1 (.node o130x1 (.node o258x1 .nil .nil) (.node o386x1 .nil .nil)) (.node o194x1 (.node o322x1 .nil .nil) .nil)) (.node o98x1 (.node o162x1 (.node o290x1 .nil .nil) .nil) (.node o226x1 (.node o354x1 .nil .nil) .nil))) (.node o50x1 (.node o82x1 (.node o146x1 (.node o274x1 .nil .nil) .nil) (.node o210x1 (.node o338x1 .nil .nil) .nil)) (.node o114x1 (.node o178x1 (.node o306x1 .nil .nil) .nil) (.node o242x1 (.node o370x1 .nil .nil) .nil)))) (.node o26x1 (.node o42x1 (.node o74x1 (.node o138x1 (.node o266x1 .nil .nil) .nil) (.node o202x1 (.node o330x1 .nil .nil) .nil)) (.node o106x1 (.node o170x1 (.node o298x1 .nil .nil) .nil) (.node o234x1 (.node o362x1 .nil .nil) .nil))) (.node o58x1 (.node o90x1 (.node o154x1 (.node o282x1 .nil .nil) .nil) (.node o218x1 (.node o346x1 .nil .nil) .nil)) (.node o122x1 (.node o186x1 (.node o314x1 .nil .nil) .nil) (.node o250x1 (.node o378x1 .nil .nil) .nil))))) (.node o14 (.node o22x1 (.node o38x1 (.node o70x1 (.node o134x1 (.node o262x1 .nil .nil) .nil) (.node o198x1 (.node o326x1 .nil .nil) .nil)) (.node o102x1 (.node o166x1 (.node o294x1 .nil .nil) .nil) (.node o230x1 (.node o358x1 .nil .nil) .nil))) (.node o54x1 (.node o86x1 (.node o150x1 (.node o278x1 .nil .nil) .nil) (.node o214x1 (.node o342x1 .nil .nil) .nil)) (.node o118x1 (.node o182x1 (.node o310x1 .nil .nil) .nil) (.node o246x1 (.node o374x1 .nil .nil) .nil)))) (.node o30x1 (.node o46x1 (.node o78x1 (.node o142x1 (.node o270x1 .nil .nil) .nil) (.node o206x1 (.node o334x1 .nil .nil) .nil)) (.node o110x1 (.node o174x1 (.node (o302x1 P) .nil .nil) .nil) (.node o238x1 (.node o366x1 .nil .nil) .nil))) (.node o62x1 (.node o94x1 (.node o158x1 (.node o286x1 .nil .nil) .nil) (.node o222x1 (.node o350x1 .nil .nil) .nil)) (.node o126x1 (.node o190x1 (.node o318x1 .nil .nil) .nil) (.node o254x1 (.node o382x1 .nil .nil) .nil)))))))
def S1 (w : World) (os : OsState) : SharedT := { tree := T1 w.params, n := 387, life := life, gens := ⟨[]⟩, drawn := {}, toks := 677, os := os }
abbrev ps1 : Pos := ⟨180, 0, 260, 44⟩
def o3x2 (P : Params) : Obj := ⟨.type "dict", none, .dict #[⟨kh P "__name__", .str "__name__" 165, .str "dilithium_py.modules.modules_generic" 925⟩, ⟨kh P "__doc__", .str "__doc__" 166, .none⟩, ⟨kh P "__package__", .str "__package__" 167, .none⟩, ⟨kh P "__loader__", .str "__loader__" 168, .builtin "__main__.__loader__#opaque"⟩, ⟨kh P "__spec__", .str "__spec__" 169, .none⟩, ⟨kh P "__annotations__", .str "__annotations__" 170, .ref 6⟩, ⟨kh P "__builtins__", .str "__builtins__" 171, .ref 4⟩, ⟨kh P "__file__", .str "__file__" 173, .str "/claim/cut.py" 172⟩, ⟨kh P "__cached__", .str "__cached__" 174, .none⟩, ⟨kh P "_wall", .str "_wall" 193, .ref 21⟩, ⟨kh P "PolynomialRingGeneric", .str "PolynomialRingGeneric" 256, .ref 66⟩, ⟨kh P "PolynomialGeneric", .str "PolynomialGeneric" 455, .ref 229⟩, ⟨kh P "Shake", .str "Shake" 525, .ref 278⟩, ⟨kh P "PolynomialRing", .str "PolynomialRing" 676, .ref 384⟩, ⟨kh P "Polynomial", .str "Polynomial" 844, .ref 514⟩, ⟨kh P "PolynomialNTT", .str "PolynomialNTT" 924, .ref 578⟩, ⟨kh P "MatrixGeneric", .str "MatrixGeneric" 1079, .ref 701⟩] 17, #[]⟩
def o12x2 : Obj := ⟨.none, none, .fields #[.int 1 0, .int 0 0, .ref 20, .int 5 0, .int 0 0, .ref 27, .int 26 0, .int 0 0, .ref 76, .int 151 0, .int 0 0, .ref 239, .int 180 0, .int 0 0, .ref 288, .int 261 0, .int 0 0, .ref 392, .int 333 0, .int 0 0, .ref 522, .int 371 0, .int 0 0, .ref 586], #[]⟩
def o229x2 : Obj := ⟨.type "type", none, .cls { name := "PolynomialGeneric", bases := [.type "object"], mro := [.ref 229, .type "object"], ns := 228, qualname := "PolynomialGeneric", hasDict := true, slotNames := [], subclasses := [.ref 514], abstract := false, collection := none, hasDel := false }, #[none, none, (some (.str "PolynomialGeneric" 257)), (some (.str "PolynomialGeneric" 265)), (some (.builtin "object.__new__")), (some (.bool true))]⟩
def o387x2 : Obj := ⟨.type "tuple", none, .seq #[.ref 229] 0, #[]⟩
def o388x2 : Obj := ⟨.type "builtin_function_or_method", none, .fields #[.builtin "type.__prepare__", .type "type"], #[]⟩
def o389x2 (P : Params) : Obj := ⟨.type "dict", none, .dict #[⟨kh P "__module__", .str "__module__" 684, .str "dilithium_py.polynomials.polynomials" 526⟩, ⟨kh P "__qualname__", .str "__qualname__" 686, .str "Polynomial" 685⟩, ⟨kh P "__firstlineno__", .str "__firstlineno__" 688, .int 261 687⟩, ⟨kh P "__init__", .str "__init__" 697, .ref 400⟩, ⟨kh P "to_ntt", .str "to_ntt" 704, .ref 407⟩, ⟨kh P "from_ntt", .str "from_ntt" 711, .ref 414⟩, ⟨kh P "power_2_round", .str "power_2_round" 719, .ref 421⟩, ⟨kh P "high_bits", .str "high_bits" 728, .ref 429⟩, ⟨kh P "low_bits", .str "low_bits" 737, .ref 437⟩, ⟨kh P "decompose", .str "decompose" 746, .ref 444⟩, ⟨kh P "check_norm_bound", .str "check_norm_bound" 754, .ref 451⟩, ⟨kh P "_bit_pack", .str "_bit_pack" 778, .ref 460⟩, ⟨kh P "bit_pack_t0", .str "bit_pack_t0" 784, .ref 466⟩, ⟨kh P "bit_pack_t1", .str "bit_pack_t1" 791, .ref 473⟩, ⟨kh P "bit_pack_s", .str "bit_pack_s" 797, .ref 478⟩, ⟨kh P "bit_pack_w", .str "bit_pack_w" 805, .ref 485⟩, ⟨kh P "bit_pack_z", .str "bit_pack_z" 811, .ref 490⟩, ⟨kh P "make_hint", .str "make_hint" 820, .ref 497⟩, ⟨kh P "make_hint_optimised", .str "make_hint_optimised" 829, .ref 504⟩, ⟨kh P "use_hint", .str "use_hint" 838, .ref 511⟩, ⟨kh P "__static_attributes__", .str "__static_attributes__" 841, .ref 512⟩] 21, #[]⟩
def o390x2 : Obj := ⟨.type "tuple", none, .seq #[] 0, #[]⟩
def o391x2 : Obj := ⟨.none, none, .fields #[.int 263 0, .int 4 0, .ref 399, .int 267 0, .int 4 0, .ref 406, .int 270 0, .int 4 0, .ref 413, .int 273 0, .int 4 0, .ref 420, .int 276 0, .int 4 0, .ref 428, .int 279 0, .int 4 0, .ref 436, .int 283 0, .int 4 0, .ref 443, .int 286 0, .int 4 0, .ref 450, .int 291 0, .int 4 0, .ref 457, .int 298 0, .int 4 0, .ref 465, .int 302 0, .int 4 0, .ref 472, .int 305 0, .int 4 0, .ref 477, .int 312 0, .int 4 0, .ref 484, .int 318 0, .int 4 0, .ref 489, .int 325 0, .int 4 0, .ref 496, .int 328 0, .int 4 0, .ref 503, .int 331 0, .int 4 0, .ref 510], #[]⟩
def o392x2 : Obj := ⟨.type "code", none, .fields #[.str "Polynomial" 679, .str "Polynomial" 680, .str "/claim/cut.py" 681, .int 261 0, .int 0 0, .int 0 0, .int 0 0, .int 0 0, .ref 390, .bool false, .int 181 0, .ref 391, .none, .none, .none, .none, .int 682 0, .int 261 0, .str "/claim/cut.py" 683], #[]⟩
def o393x2 : Obj := ⟨.type "frame", none, .plain, #[(some (.ref 392)), (some (.ref 3)), (some (.ref 389)), none, (some (.str "dilithium_py.polynomials.polynomials" 526)), none, (some (.ref 0))]⟩
def o394x2 : Obj := ⟨.type "tuple", none, .seq #[] 0, #[]⟩
def o395x2 : Obj := ⟨.none, none, .fields #[], #[]⟩
def o396x2 : Obj := ⟨.type "tuple", none, .seq #[.str "self" 692, .str "parent" 693, .str "coefficients" 694] 0, #[]⟩
def o397x2 : Obj := ⟨.type "tuple", none, .seq #[] 0, #[]⟩
def o398x2 : Obj := fnO (.none) none #[] (nth (inner (nth body 8)) 0) "Polynomial.__init__" 0 [] .none .none .none .none none .none .none 0
def o399x2 : Obj := ⟨.type "code", none, .fields #[.str "__init__" 689, .str "Polynomial.__init__" 690, .str "/claim/cut.py" 691, .int 263 0, .int 3 0, .int 0 0, .int 0 0, .int 3 0, .ref 394, .bool true, .int 181 0, .ref 395, .none, .ref 396, .ref 397, .ref 398, .int 695 0, .int 263 0, .str "/claim/cut.py" 696], #[]⟩
def to400x2 : Lit (fnO (.type "function") none #[] (nth (inner (nth body 8)) 0) "Polynomial.__init__" 3 [] .none .none .none (.str "dilithium_py.polynomials.polynomials" 526) none (.ref 399) .none 0) := ⟨_, by conv => rhs; whnf⟩
abbrev o400x2 : Obj := to400x2.1
def o401x2 : Obj := ⟨.type "tuple", none, .seq #[] 0, #[]⟩
def o402x2 : Obj := ⟨.none, none, .fields #[], #[]⟩
def o403x2 : Obj := ⟨.type "tuple", none, .seq #[.str "self" 701] 0, #[]⟩
def o404x2 : Obj := ⟨.type "tuple", none, .seq #[] 0, #[]⟩
def o405x2 : Obj := fnO (.none) none #[] (nth (inner (nth body 8)) 1) "Polynomial.to_ntt" 0 [] .none .none .none .none none .none .none 0
def o406x2 : Obj := ⟨.type "code", none, .fields #[.str "to_ntt" 698, .str "Polynomial.to_ntt" 699, .str "/claim/cut.py" 700, .int 267 0, .int 1 0, .int 0 0, .int 0 0, .int 3 0, .ref 401, .bool true, .int 181 0, .ref 402, .none, .ref 403, .ref 404, .ref 405, .int 702 0, .int 267 0, .str "/claim/cut.py" 703], #[]⟩
def to407x2 : Lit (fnO (.type "function") none #[] (nth (inner (nth body 8)) 1) "Polynomial.to_ntt" 3 [] .none .none .none (.str "dilithium_py.polynomials.polynomials" 526) none (.ref 406) .none 0) := ⟨_, by conv => rhs; whnf⟩
abbrev o407x2 : Obj := to407x2.1
def o408x2 : Obj := ⟨.type "tuple", none, .seq #[] 0, #[]⟩
def o409x2 : Obj := ⟨.none, none, .fields #[], #[]⟩
def o410x2 : Obj := ⟨.type "tuple", none, .seq #[.str "self" 708] 0, #[]⟩
def o411x2 : Obj := ⟨.type "tuple", none, .seq #[] 0, #[]⟩
def o412x2 : Obj := fnO (.none) none #[] (nth (inner (nth body 8)) 2) "Polynomial.from_ntt" 0 [] .none .none .none .none none .none .none 0
def o413x2 : Obj := ⟨.type "code", none, .fields #[.str "from_ntt" 705, .str "Polynomial.from_ntt" 706, .str "/claim/cut.py" 707, .int 270 0, .int 1 0, .int 0 0, .int 0 0, .int 3 0, .ref 408, .bool true, .int 181 0, .ref 409, .none, .ref 410, .ref 411, .ref 412, .int 709 0, .int 270 0, .str "/claim/cut.py" 710], #[]⟩
def to414x2 : Lit (fnO (.type "function") none #[] (nth (inner (nth body 8)) 2) "Polynomial.from_ntt" 3 [] .none .none .none (.str "dilithium_py.polynomials.polynomials" 526) none (.ref 413) .none 0) := ⟨_, by conv => rhs; whnf⟩
abbrev o414x2 : Obj := to414x2.1
def o415x2 : Obj := ⟨.type "tuple", none, .seq #[] 0, #[]⟩
def o416x2 : Obj := ⟨.none, none, .fields #[], #[]⟩
def o417x2 : Obj := ⟨.type "tuple", none, .seq #[.str "self" 715, .str "d" 716] 0, #[]⟩
def o418x2 : Obj := ⟨.type "tuple", none, .seq #[] 0, #[]⟩
def o419x2 : Obj := fnO (.none) none #[] (nth (inner (nth body 8)) 3) "Polynomial.power_2_round" 0 [] .none .none .none .none none .none .none 0
def o420x2 : Obj := ⟨.type "code", none, .fields #[.str "power_2_round" 712, .str "Polynomial.power_2_round" 713, .str "/claim/cut.py" 714, .int 273 0, .int 2 0, .int 0 0, .int 0 0, .int 3 0, .ref 415, .bool true, .int 181 0, .ref 416, .none, .ref 417, .ref 418, .ref 419, .int 717 0, .int 273 0, .str "/claim/cut.py" 718], #[]⟩
def to421x2 : Lit (fnO (.type "function") none #[] (nth (inner (nth body 8)) 3) "Polynomial.power_2_round" 3 [] .none .none .none (.str "dilithium_py.polynomials.polynomials" 526) none (.ref 420) .none 0) := ⟨_, by conv => rhs; whnf⟩
abbrev o421x2 : Obj := to421x2.1
def o422x2 : Obj := ⟨.type "tuple", none, .seq #[.bool false] 0, #[]⟩
def o423x2 : Obj := ⟨.type "tuple", none, .seq #[] 0, #[]⟩
def o424x2 : Obj := ⟨.none, none, .fields #[], #[]⟩
def o425x2 : Obj := ⟨.type "tuple", none, .seq #[.str "self" 723, .str "alpha" 724, .str "is_ntt" 725] 0, #[]⟩
def o426x2 : Obj := ⟨.type "tuple", none, .seq #[] 0, #[]⟩
def o427x2 : Obj := fnO (.none) none #[] (nth (inner (nth body 8)) 4) "Polynomial.high_bits" 0 [] .none .none .none .none none .none .none 0
def o428x2 : Obj := ⟨.type "code", none, .fields #[.str "high_bits" 720, .str "Polynomial.high_bits" 721, .str "/claim/cut.py" 722, .int 276 0, .int 3 0, .int 0 0, .int 0 0, .int 3 0, .ref 423, .bool true, .int 181 0, .ref 424, .none, .ref 425, .ref 426, .ref 427, .int 726 0, .int 276 0, .str "/claim/cut.py" 727], #[]⟩
def to429x2 : Lit (fnO (.type "function") none #[] (nth (inner (nth body 8)) 4) "Polynomial.high_bits" 3 [] (.ref 422) .none .none (.str "dilithium_py.polynomials.polynomials" 526) none (.ref 428) .none 0) := ⟨_, by conv => rhs; whnf⟩
abbrev o429x2 : Obj := to429x2.1
def o430x2 : Obj := ⟨.type "tuple", none, .seq #[.bool false] 0, #[]⟩
def o431x2 : Obj := ⟨.type "tuple", none, .seq #[] 0, #[]⟩
def o432x2 : Obj := ⟨.none, none, .fields #[], #[]⟩
def o433x2 : Obj := ⟨.type "tuple", none, .seq #[.str "self" 732, .str "alpha" 733, .str "is_ntt" 734] 0, #[]⟩
def o434x2 : Obj := ⟨.type "tuple", none, .seq #[] 0, #[]⟩
def o435x2 : Obj := fnO (.none) none #[] (nth (inner (nth body 8)) 5) "Polynomial.low_bits" 0 [] .none .none .none .none none .none .none 0
def o436x2 : Obj := ⟨.type "code", none, .fields #[.str "low_bits" 729, .str "Polynomial.low_bits" 730, .str "/claim/cut.py" 731, .int 279 0, .int 3 0, .int 0 0, .int 0 0, .int 3 0, .ref 431, .bool true, .int 181 0, .ref 432, .none, .ref 433, .ref 434, .ref 435, .int 735 0, .int 279 0, .str "/claim/cut.py" 736], #[]⟩
def to437x2 : Lit (fnO (.type "function") none #[] (nth (inner (nth body 8)) 5) "Polynomial.low_bits" 3 [] (.ref 430) .none .none (.str "dilithium_py.polynomials.polynomials" 526) none (.ref 436) .none 0) := ⟨_, by conv => rhs; whnf⟩
abbrev o437x2 : Obj := to437x2.1
def o438x2 : Obj := ⟨.type "tuple", none, .seq #[] 0, #[]⟩
def o439x2 : Obj := ⟨.none, none, .fields #[], #[]⟩
def o440x2 : Obj := ⟨.type "tuple", none, .seq #[.str "self" 742, .str "alpha" 743] 0, #[]⟩
def o441x2 : Obj := ⟨.type "tuple", none, .seq #[] 0, #[]⟩
def o442x2 : Obj := fnO (.none) none #[] (nth (inner (nth body 8)) 7) "Polynomial.decompose" 0 [] .none .none .none .none none .none .none 0
def o443x2 : Obj := ⟨.type "code", none, .fields #[.str "decompose" 739, .str "Polynomial.decompose" 740, .str "/claim/cut.py" 741, .int 283 0, .int 2 0, .int 0 0, .int 0 0, .int 3 0, .ref 438, .bool true, .int 181 0, .ref 439, .none, .ref 440, .ref 441, .ref 442, .int 744 0, .int 283 0, .str "/claim/cut.py" 745], #[]⟩
def to444x2 : Lit (fnO (.type "function") none #[] (nth (inner (nth body 8)) 7) "Polynomial.decompose" 3 [] .none .none .none (.str "dilithium_py.polynomials.polynomials" 526) none (.ref 443) .none 0) := ⟨_, by conv => rhs; whnf⟩
abbrev o444x2 : Obj := to444x2.1
def o445x2 : Obj := ⟨.type "tuple", none, .seq #[] 0, #[]⟩
def o446x2 : Obj := ⟨.none, none, .fields #[], #[]⟩
def o447x2 : Obj := ⟨.type "tuple", none, .seq #[.str "self" 750, .str "bound" 751] 0, #[]⟩
def o448x2 : Obj := ⟨.type "tuple", none, .seq #[] 0, #[]⟩
def o449x2 : Obj := fnO (.none) none #[] (nth (inner (nth body 8)) 8) "Polynomial.check_norm_bound" 0 [] .none .none .none .none none .none .none 0
def o450x2 : Obj := ⟨.type "code", none, .fields #[.str "check_norm_bound" 747, .str "Polynomial.check_norm_bound" 748, .str "/claim/cut.py" 749, .int 286 0, .int 2 0, .int 0 0, .int 0 0, .int 3 0, .ref 445, .bool true, .int 181 0, .ref 446, .none, .ref 447, .ref 448, .ref 449, .int 752 0, .int 286 0, .str "/claim/cut.py" 753], #[]⟩
def to451x2 : Lit (fnO (.type "function") none #[] (nth (inner (nth body 8)) 8) "Polynomial.check_norm_bound" 3 [] .none .none .none (.str "dilithium_py.polynomials.polynomials" 526) none (.ref 450) .none 0) := ⟨_, by conv => rhs; whnf⟩
abbrev o451x2 : Obj := to451x2.1
def o452x2 : Obj := ⟨.type "tuple", none, .seq #[] 0, #[]⟩
def o453x2 : Obj := ⟨.none, none, .fields #[], #[]⟩
def o454x2 : Obj := ⟨.type "tuple", none, .seq #[.str "coeffs" 759, .str "n_bits" 760, .str "n_bytes" 761, .str "r" 762, .str "c" 763] 0, #[]⟩
def o455x2 : Obj := ⟨.type "tuple", none, .seq #[] 0, #[]⟩
def o456x2 : Obj := fnO (.none) none #[] (nth (inner (nth body 8)) 10) "Polynomial._bit_pack" 0 [] .none .none .none .none none .none .none 0
def o457x2 : Obj := ⟨.type "code", none, .fields #[.str "_bit_pack" 756, .str "Polynomial._bit_pack" 757, .str "/claim/cut.py" 758, .int 290 0, .int 3 0, .int 0 0, .int 0 0, .int 3 0, .ref 452, .bool true, .int 181 0, .ref 453, .none, .ref 454, .ref 455, .ref 456, .int 764 0, .int 290 0, .str "/claim/cut.py" 765], #[]⟩
def to458x2 : Lit (fnO (.type "function") none #[] (nth (inner (nth body 8)) 10) "Polynomial._bit_pack" 3 [] .none .none .none (.str "dilithium_py.polynomials.polynomials" 526) (some (461)) (.ref 457) .none 0) := ⟨_, by conv => rhs; whnf⟩
abbrev o458x2 : Obj := to458x2.1
def o459x2 (P : Params) : Obj := ⟨.type "dict", none, .dict #[⟨kh P "__module__", .str "__module__" 767, .str "dilithium_py.polynomials.polynomials" 526⟩, ⟨kh P "__name__", .str "__name__" 770, .str "_bit_pack" 769⟩, ⟨kh P "__qualname__", .str "__qualname__" 773, .str "Polynomial._bit_pack" 772⟩, ⟨kh P "__doc__", .str "__doc__" 775, .none⟩, ⟨kh P "__annotations__", .str "__annotations__" 777, .ref 461⟩] 5, #[]⟩
def o460x2 : Obj := ⟨.type "staticmethod", some 459, .fields #[.ref 458, .bool false], #[]⟩
def o461x2 : Obj := ⟨.type "dict", none, .dict #[] 0, #[]⟩
def o462x2 : Obj := ⟨.type "tuple", none, .seq #[] 0, #[]⟩
def o463x2 : Obj := ⟨.none, none, .fields #[], #[]⟩
def o464x2 : Obj := fnO (.none) none #[] (nth (inner (nth body 8)) 11) "Polynomial.bit_pack_t0" 0 [] .none .none .none .none none .none .none 0
def o465x2 : Obj := ⟨.type "code", none, .fields #[.str "bit_pack_t0" 779, .str "Polynomial.bit_pack_t0" 780, .str "/claim/cut.py" 781, .int 298 0, .int 1 0, .int 0 0, .int 0 0, .int 3 0, .ref 462, .bool true, .int 181 0, .ref 463, .none, .none, .none, .ref 464, .int 782 0, .int 298 0, .str "/claim/cut.py" 783], #[]⟩
def to466x2 : Lit (fnO (.type "function") none #[] (nth (inner (nth body 8)) 11) "Polynomial.bit_pack_t0" 3 [] .none .none .none (.str "dilithium_py.polynomials.polynomials" 526) none (.ref 465) .none 0) := ⟨_, by conv => rhs; whnf⟩
abbrev o466x2 : Obj := to466x2.1
def o467x2 : Obj := ⟨.type "tuple", none, .seq #[] 0, #[]⟩
def o468x2 : Obj := ⟨.none, none, .fields #[], #[]⟩
def o469x2 : Obj := ⟨.type "tuple", none, .seq #[.str "self" 788] 0, #[]⟩
def o470x2 : Obj := ⟨.type "tuple", none, .seq #[] 0, #[]⟩
def o471x2 : Obj := fnO (.none) none #[] (nth (inner (nth body 8)) 12) "Polynomial.bit_pack_t1" 0 [] .none .none .none .none none .none .none 0
def o472x2 : Obj := ⟨.type "code", none, .fields #[.str "bit_pack_t1" 785, .str "Polynomial.bit_pack_t1" 786, .str "/claim/cut.py" 787, .int 302 0, .int 1 0, .int 0 0, .int 0 0, .int 3 0, .ref 467, .bool true, .int 181 0, .ref 468, .none, .ref 469, .ref 470, .ref 471, .int 789 0, .int 302 0, .str "/claim/cut.py" 790], #[]⟩
def to473x2 : Lit (fnO (.type "function") none #[] (nth (inner (nth body 8)) 12) "Polynomial.bit_pack_t1" 3 [] .none .none .none (.str "dilithium_py.polynomials.polynomials" 526) none (.ref 472) .none 0) := ⟨_, by conv => rhs; whnf⟩
abbrev o473x2 : Obj := to473x2.1
def o474x2 : Obj := ⟨.type "tuple", none, .seq #[] 0, #[]⟩
def o475x2 : Obj := ⟨.none, none, .fields #[], #[]⟩
def o476x2 : Obj := fnO (.none) none #[] (nth (inner (nth body 8)) 13) "Polynomial.bit_pack_s" 0 [] .none .none .none .none none .none .none 0
def o477x2 : Obj := ⟨.type "code", none, .fields #[.str "bit_pack_s" 792, .str "Polynomial.bit_pack_s" 793, .str "/claim/cut.py" 794, .int 305 0, .int 2 0, .int 0 0, .int 0 0, .int 3 0, .ref 474, .bool true, .int 181 0, .ref 475, .none, .none, .none, .ref 476, .int 795 0, .int 305 0, .str "/claim/cut.py" 796], #[]⟩
def to478x2 : Lit (fnO (.type "function") none #[] (nth (inner (nth body 8)) 13) "Polynomial.bit_pack_s" 3 [] .none .none .none (.str "dilithium_py.polynomials.polynomials" 526) none (.ref 477) .none 0) := ⟨_, by conv => rhs; whnf⟩
abbrev o478x2 : Obj := to478x2.1
def o479x2 : Obj := ⟨.type "tuple", none, .seq #[] 0, #[]⟩
def o480x2 : Obj := ⟨.none, none, .fields #[], #[]⟩
def o481x2 : Obj := ⟨.type "tuple", none, .seq #[.str "self" 801, .str "gamma_2" 802] 0, #[]⟩
def o482x2 : Obj := ⟨.type "tuple", none, .seq #[] 0, #[]⟩
def o483x2 : Obj := fnO (.none) none #[] (nth (inner (nth body 8)) 14) "Polynomial.bit_pack_w" 0 [] .none .none .none .none none .none .none 0
def o484x2 : Obj := ⟨.type "code", none, .fields #[.str "bit_pack_w" 798, .str "Polynomial.bit_pack_w" 799, .str "/claim/cut.py" 800, .int 312 0, .int 2 0, .int 0 0, .int 0 0, .int 3 0, .ref 479, .bool true, .int 181 0, .ref 480, .none, .ref 481, .ref 482, .ref 483, .int 803 0, .int 312 0, .str "/claim/cut.py" 804], #[]⟩
def to485x2 : Lit (fnO (.type "function") none #[] (nth (inner (nth body 8)) 14) "Polynomial.bit_pack_w" 3 [] .none .none .none (.str "dilithium_py.polynomials.polynomials" 526) none (.ref 484) .none 0) := ⟨_, by conv => rhs; whnf⟩
abbrev o485x2 : Obj := to485x2.1
def o486x2 : Obj := ⟨.type "tuple", none, .seq #[] 0, #[]⟩
def o487x2 : Obj := ⟨.none, none, .fields #[], #[]⟩
def o488x2 : Obj := fnO (.none) none #[] (nth (inner (nth body 8)) 15) "Polynomial.bit_pack_z" 0 [] .none .none .none .none none .none .none 0
def o489x2 : Obj := ⟨.type "code", none, .fields #[.str "bit_pack_z" 806, .str "Polynomial.bit_pack_z" 807, .str "/claim/cut.py" 808, .int 318 0, .int 2 0, .int 0 0, .int 0 0, .int 3 0, .ref 486, .bool true, .int 181 0, .ref 487, .none, .none, .none, .ref 488, .int 809 0, .int 318 0, .str "/claim/cut.py" 810], #[]⟩
def to490x2 : Lit (fnO (.type "function") none #[] (nth (inner (nth body 8)) 15) "Polynomial.bit_pack_z" 3 [] .none .none .none (.str "dilithium_py.polynomials.polynomials" 526) none (.ref 489) .none 0) := ⟨_, by conv => rhs; whnf⟩
abbrev o490x2 : Obj := to490x2.1
def o491x2 : Obj := ⟨.type "tuple", none, .seq #[] 0, #[]⟩
def o492x2 : Obj := ⟨.none, none, .fields #[], #[]⟩
def o493x2 : Obj := ⟨.type "tuple", none, .seq #[.str "self" 815, .str "other" 816, .str "alpha" 817] 0, #[]⟩
def o494x2 : Obj := ⟨.type "tuple", none, .seq #[] 0, #[]⟩
def o495x2 : Obj := fnO (.none) none #[] (nth (inner (nth body 8)) 16) "Polynomial.make_hint" 0 [] .none .none .none .none none .none .none 0
def o496x2 : Obj := ⟨.type "code", none, .fields #[.str "make_hint" 812, .str "Polynomial.make_hint" 813, .str "/claim/cut.py" 814, .int 325 0, .int 3 0, .int 0 0, .int 0 0, .int 3 0, .ref 491, .bool true, .int 181 0, .ref 492, .none, .ref 493, .ref 494, .ref 495, .int 818 0, .int 325 0, .str "/claim/cut.py" 819], #[]⟩
def to497x2 : Lit (fnO (.type "function") none #[] (nth (inner (nth body 8)) 16) "Polynomial.make_hint" 3 [] .none .none .none (.str "dilithium_py.polynomials.polynomials" 526) none (.ref 496) .none 0) := ⟨_, by conv => rhs; whnf⟩
abbrev o497x2 : Obj := to497x2.1
def o498x2 : Obj := ⟨.type "tuple", none, .seq #[] 0, #[]⟩
def o499x2 : Obj := ⟨.none, none, .fields #[], #[]⟩
def o500x2 : Obj := ⟨.type "tuple", none, .seq #[.str "self" 824, .str "other" 825, .str "alpha" 826] 0, #[]⟩
def o501x2 : Obj := ⟨.type "tuple", none, .seq #[] 0, #[]⟩
def o502x2 : Obj := fnO (.none) none #[] (nth (inner (nth body 8)) 17) "Polynomial.make_hint_optimised" 0 [] .none .none .none .none none .none .none 0
def o503x2 : Obj := ⟨.type "code", none, .fields #[.str "make_hint_optimised" 821, .str "Polynomial.make_hint_optimised" 822, .str "/claim/cut.py" 823, .int 328 0, .int 3 0, .int 0 0, .int 0 0, .int 3 0, .ref 498, .bool true, .int 181 0, .ref 499, .none, .ref 500, .ref 501, .ref 502, .int 827 0, .int 328 0, .str "/claim/cut.py" 828], #[]⟩
def to504x2 : Lit (fnO (.type "function") none #[] (nth (inner (nth body 8)) 17) "Polynomial.make_hint_optimised" 3 [] .none .none .none (.str "dilithium_py.polynomials.polynomials" 526) none (.ref 503) .none 0) := ⟨_, by conv => rhs; whnf⟩
abbrev o504x2 : Obj := to504x2.1
def o505x2 : Obj := ⟨.type "tuple", none, .seq #[] 0, #[]⟩
def o506x2 : Obj := ⟨.none, none, .fields #[], #[]⟩
def o507x2 : Obj := ⟨.type "tuple", none, .seq #[.str "self" 833, .str "other" 834, .str "alpha" 835] 0, #[]⟩
def o508x2 : Obj := ⟨.type "tuple", none, .seq #[] 0, #[]⟩
def o509x2 : Obj := fnO (.none) none #[] (nth (inner (nth body 8)) 18) "Polynomial.use_hint" 0 [] .none .none .none .none none .none .none 0
def o510x2 : Obj := ⟨.type "code", none, .fields #[.str "use_hint" 830, .str "Polynomial.use_hint" 831, .str "/claim/cut.py" 832, .int 331 0, .int 3 0, .int 0 0, .int 0 0, .int 3 0, .ref 505, .bool true, .int 181 0, .ref 506, .none, .ref 507, .ref 508, .ref 509, .int 836 0, .int 331 0, .str "/claim/cut.py" 837], #[]⟩
def to511x2 : Lit (fnO (.type "function") none #[] (nth (inner (nth body 8)) 18) "Polynomial.use_hint" 3 [] .none .none .none (.str "dilithium_py.polynomials.polynomials" 526) none (.ref 510) .none 0) := ⟨_, by conv => rhs; whnf⟩
abbrev o511x2 : Obj := to511x2.1
def o512x2 : Obj := ⟨.type "tuple", none, .seq #[.str "coeffs" 839, .str "parent" 840] 0, #[]⟩
def o513x2 (P : Params) : Obj := ⟨.type "dict", none, .dict #[⟨kh P "__module__", .str "__module__" 684, .str "dilithium_py.polynomials.polynomials" 526⟩, ⟨kh P "__firstlineno__", .str "__firstlineno__" 688, .int 261 687⟩, ⟨kh P "__init__", .str "__init__" 697, .ref 400⟩, ⟨kh P "to_ntt", .str "to_ntt" 704, .ref 407⟩, ⟨kh P "from_ntt", .str "from_ntt" 711, .ref 414⟩, ⟨kh P "power_2_round", .str "power_2_round" 719, .ref 421⟩, ⟨kh P "high_bits", .str "high_bits" 728, .ref 429⟩, ⟨kh P "low_bits", .str "low_bits" 737, .ref 437⟩, ⟨kh P "decompose", .str "decompose" 746, .ref 444⟩, ⟨kh P "check_norm_bound", .str "check_norm_bound" 754, .ref 451⟩, ⟨kh P "_bit_pack", .str "_bit_pack" 778, .ref 460⟩, ⟨kh P "bit_pack_t0", .str "bit_pack_t0" 784, .ref 466⟩, ⟨kh P "bit_pack_t1", .str "bit_pack_t1" 791, .ref 473⟩, ⟨kh P "bit_pack_s", .str "bit_pack_s" 797, .ref 478⟩, ⟨kh P "bit_pack_w", .str "bit_pack_w" 805, .ref 485⟩, ⟨kh P "bit_pack_z", .str "bit_pack_z" 811, .ref 490⟩, ⟨kh P "make_hint", .str "make_hint" 820, .ref 497⟩, ⟨kh P "make_hint_optimised", .str "make_hint_optimised" 829, .ref 504⟩, ⟨kh P "use_hint", .str "use_hint" 838, .ref 511⟩, ⟨kh P "__static_attributes__", .str "__static_attributes__" 841, .ref 512⟩, ⟨kh P "__doc__", .str "__doc__" 842, .none⟩] 2, #[]⟩
def o514x2 : Obj := ⟨.type "type", none, .cls { name := "Polynomial", bases := [.ref 229], mro := [.ref 514, .ref 229, .type "object"], ns := 513, qualname := "Polynomial", hasDict := true, slotNames := [], subclasses := [.ref 578], abstract := false, collection := none, hasDel := false }, #[(some (.ref 387)), none, (some (.str "Polynomial" 677)), (some (.str "Polynomial" 685)), (some (.builtin "object.__new__")), (some (.bool true))]⟩
def o515x2 : Obj := ⟨.type "super", none, .fields #[.ref 514, .ref 514, .ref 514], #[]⟩
def o516x2 : Obj := ⟨.type "builtin_function_or_method", none, .fields #[.builtin "object.__init_subclass__", .ref 514], #[]⟩
def o517x2 : Obj := ⟨.type "tuple", none, .seq #[.ref 514] 0, #[]⟩
def o518x2 : Obj := ⟨.type "builtin_function_or_method", none, .fields #[.builtin "type.__prepare__", .type "type"], #[]⟩
def o519x2 (P : Params) : Obj := ⟨.type "dict", none, .dict #[⟨kh P "__module__", .str "__module__" 852, .str "dilithium_py.polynomials.polynomials" 526⟩, ⟨kh P "__qualname__", .str "__qualname__" 854, .str "PolynomialNTT" 853⟩, ⟨kh P "__firstlineno__", .str "__firstlineno__" 856, .int 333 855⟩, ⟨kh P "__init__", .str "__init__" 865, .ref 530⟩, ⟨kh P "to_ntt", .str "to_ntt" 872, .ref 537⟩, ⟨kh P "from_ntt", .str "from_ntt" 879, .ref 544⟩, ⟨kh P "ntt_coefficient_multiplication", .str "ntt_coefficient_multiplication" 885, .ref 549⟩, ⟨kh P "ntt_multiplication", .str "ntt_multiplication" 894, .ref 556⟩, ⟨kh P "__add__", .str "__add__" 903, .ref 563⟩, ⟨kh P "__sub__", .str "__sub__" 912, .ref 570⟩, ⟨kh P "__mul__", .str "__mul__" 918, .ref 575⟩, ⟨kh P "__static_attributes__", .str "__static_attributes__" 921, .ref 576⟩] 12, #[]⟩
def o520x2 : Obj := ⟨.type "tuple", none, .seq #[] 0, #[]⟩
def o521x2 : Obj := ⟨.none, none, .fields #[.int 335 0, .int 4 0, .ref 529, .int 339 0, .int 4 0, .ref 536, .int 342 0, .int 4 0, .ref 543, .int 345 0, .int 4 0, .ref 548, .int 348 0, .int 4 0, .ref 555, .int 354 0, .int 4 0, .ref 562, .int 358 0, .int 4 0, .ref 569, .int 362 0, .int 4 0, .ref 574], #[]⟩
def o522x2 : Obj := ⟨.type "code", none, .fields #[.str "PolynomialNTT" 847, .str "PolynomialNTT" 848, .str "/claim/cut.py" 849, .int 333 0, .int 0 0, .int 0 0, .int 0 0, .int 0 0, .ref 520, .bool false, .int 181 0, .ref 521, .none, .none, .none, .none, .int 850 0, .int 333 0, .str "/claim/cut.py" 851], #[]⟩
def o523x2 : Obj := ⟨.type "frame", none, .plain, #[(some (.ref 522)), (some (.ref 3)), (some (.ref 519)), none, (some (.str "dilithium_py.polynomials.polynomials" 526)), none, (some (.ref 0))]⟩
def o524x2 : Obj := ⟨.type "tuple", none, .seq #[] 0, #[]⟩
def o525x2 : Obj := ⟨.none, none, .fields #[], #[]⟩
def o526x2 : Obj := ⟨.type "tuple", none, .seq #[.str "self" 860, .str "parent" 861, .str "coefficients" 862] 0, #[]⟩
def o527x2 : Obj := ⟨.type "tuple", none, .seq #[] 0, #[]⟩
def o528x2 : Obj := fnO (.none) none #[] (nth (inner (nth body 9)) 0) "PolynomialNTT.__init__" 0 [] .none .none .none .none none .none .none 0
def o529x2 : Obj := ⟨.type "code", none, .fields #[.str "__init__" 857, .str "PolynomialNTT.__init__" 858, .str "/claim/cut.py" 859, .int 335 0, .int 3 0, .int 0 0, .int 0 0, .int 3 0, .ref 524, .bool true, .int 181 0, .ref 525, .none, .ref 526, .ref 527, .ref 528, .int 863 0, .int 335 0, .str "/claim/cut.py" 864], #[]⟩
def to530x2 : Lit (fnO (.type "function") none #[] (nth (inner (nth body 9)) 0) "PolynomialNTT.__init__" 3 [] .none .none .none (.str "dilithium_py.polynomials.polynomials" 526) none (.ref 529) .none 0) := ⟨_, by conv => rhs; whnf⟩
abbrev o530x2 : Obj := to530x2.1
def o531x2 : Obj := ⟨.type "tuple", none, .seq #[] 0, #[]⟩
def o532x2 : Obj := ⟨.none, none, .fields #[], #[]⟩
def o533x2 : Obj := ⟨.type "tuple", none, .seq #[.str "self" 869] 0, #[]⟩
def o534x2 : Obj := ⟨.type "tuple", none, .seq #[] 0, #[]⟩
def o535x2 : Obj := fnO (.none) none #[] (nth (inner (nth body 9)) 1) "PolynomialNTT.to_ntt" 0 [] .none .none .none .none none .none .none 0
def o536x2 : Obj := ⟨.type "code", none, .fields #[.str "to_ntt" 866, .str "PolynomialNTT.to_ntt" 867, .str "/claim/cut.py" 868, .int 339 0, .int 1 0, .int 0 0, .int 0 0, .int 3 0, .ref 531, .bool true, .int 181 0, .ref 532, .none, .ref 533, .ref 534, .ref 535, .int 870 0, .int 339 0, .str "/claim/cut.py" 871], #[]⟩
def to537x2 : Lit (fnO (.type "function") none #[] (nth (inner (nth body 9)) 1) "PolynomialNTT.to_ntt" 3 [] .none .none .none (.str "dilithium_py.polynomials.polynomials" 526) none (.ref 536) .none 0) := ⟨_, by conv => rhs; whnf⟩
abbrev o537x2 : Obj := to537x2.1
def o538x2 : Obj := ⟨.type "tuple", none, .seq #[] 0, #[]⟩
def o539x2 : Obj := ⟨.none, none, .fields #[], #[]⟩
def o540x2 : Obj := ⟨.type "tuple", none, .seq #[.str "self" 876] 0, #[]⟩
def o541x2 : Obj := ⟨.type "tuple", none, .seq #[] 0, #[]⟩
def o542x2 : Obj := fnO (.none) none #[] (nth (inner (nth body 9)) 2) "PolynomialNTT.from_ntt" 0 [] .none .none .none .none none .none .none 0
def o543x2 : Obj := ⟨.type "code", none, .fields #[.str "from_ntt" 873, .str "PolynomialNTT.from_ntt" 874, .str "/claim/cut.py" 875, .int 342 0, .int 1 0, .int 0 0, .int 0 0, .int 3 0, .ref 538, .bool true, .int 181 0, .ref 539, .none, .ref 540, .ref 541, .ref 542, .int 877 0, .int 342 0, .str "/claim/cut.py" 878], #[]⟩
def to544x2 : Lit (fnO (.type "function") none #[] (nth (inner (nth body 9)) 2) "PolynomialNTT.from_ntt" 3 [] .none .none .none (.str "dilithium_py.polynomials.polynomials" 526) none (.ref 543) .none 0) := ⟨_, by conv => rhs; whnf⟩
abbrev o544x2 : Obj := to544x2.1
def o545x2 : Obj := ⟨.type "tuple", none, .seq #[] 0, #[]⟩
def o546x2 : Obj := ⟨.none, none, .fields #[], #[]⟩
def o547x2 : Obj := fnO (.none) none #[] (nth (inner (nth body 9)) 3) "PolynomialNTT.ntt_coefficient_multiplication" 0 [] .none .none .none .none none .none .none 0
def o548x2 : Obj := ⟨.type "code", none, .fields #[.str "ntt_coefficient_multiplication" 880, .str "PolynomialNTT.ntt_coefficient_multiplication" 881, .str "/claim/cut.py" 882, .int 345 0, .int 3 0, .int 0 0, .int 0 0, .int 3 0, .ref 545, .bool true, .int 181 0, .ref 546, .none, .none, .none, .ref 547, .int 883 0, .int 345 0, .str "/claim/cut.py" 884], #[]⟩
def to549x2 : Lit (fnO (.type "function") none #[] (nth (inner (nth body 9)) 3) "PolynomialNTT.ntt_coefficient_multiplication" 3 [] .none .none .none (.str "dilithium_py.polynomials.polynomials" 526) none (.ref 548) .none 0) := ⟨_, by conv => rhs; whnf⟩
abbrev o549x2 : Obj := to549x2.1
def o550x2 : Obj := ⟨.type "tuple", none, .seq #[] 0, #[]⟩
def o551x2 : Obj := ⟨.none, none, .fields #[], #[]⟩
def o552x2 : Obj := ⟨.type "tuple", none, .seq #[.str "self" 889, .str "other" 890, .str "new_coeffs" 891] 0, #[]⟩
def o553x2 : Obj := ⟨.type "tuple", none, .seq #[] 0, #[]⟩
def o554x2 : Obj := fnO (.none) none #[] (nth (inner (nth body 9)) 4) "PolynomialNTT.ntt_multiplication" 0 [] .none .none .none .none none .none .none 0
def o555x2 : Obj := ⟨.type "code", none, .fields #[.str "ntt_multiplication" 886, .str "PolynomialNTT.ntt_multiplication" 887, .str "/claim/cut.py" 888, .int 348 0, .int 2 0, .int 0 0, .int 0 0, .int 3 0, .ref 550, .bool true, .int 181 0, .ref 551, .none, .ref 552, .ref 553, .ref 554, .int 892 0, .int 348 0, .str "/claim/cut.py" 893], #[]⟩
def to556x2 : Lit (fnO (.type "function") none #[] (nth (inner (nth body 9)) 4) "PolynomialNTT.ntt_multiplication" 3 [] .none .none .none (.str "dilithium_py.polynomials.polynomials" 526) none (.ref 555) .none 0) := ⟨_, by conv => rhs; whnf⟩
abbrev o556x2 : Obj := to556x2.1
def o557x2 : Obj := ⟨.type "tuple", none, .seq #[] 0, #[]⟩
def o558x2 : Obj := ⟨.none, none, .fields #[], #[]⟩
def o559x2 : Obj := ⟨.type "tuple", none, .seq #[.str "self" 898, .str "other" 899, .str "new_coeffs" 900] 0, #[]⟩
def o560x2 : Obj := ⟨.type "tuple", none, .seq #[] 0, #[]⟩
def o561x2 : Obj := fnO (.none) none #[] (nth (inner (nth body 9)) 5) "PolynomialNTT.__add__" 0 [] .none .none .none .none none .none .none 0
def o562x2 : Obj := ⟨.type "code", none, .fields #[.str "__add__" 895, .str "PolynomialNTT.__add__" 896, .str "/claim/cut.py" 897, .int 354 0, .int 2 0, .int 0 0, .int 0 0, .int 3 0, .ref 557, .bool true, .int 181 0, .ref 558, .none, .ref 559, .ref 560, .ref 561, .int 901 0, .int 354 0, .str "/claim/cut.py" 902], #[]⟩
def to563x2 : Lit (fnO (.type "function") none #[] (nth (inner (nth body 9)) 5) "PolynomialNTT.__add__" 3 [] .none .none .none (.str "dilithium_py.polynomials.polynomials" 526) none (.ref 562) .none 0) := ⟨_, by conv => rhs; whnf⟩
abbrev o563x2 : Obj := to563x2.1
def o564x2 : Obj := ⟨.type "tuple", none, .seq #[] 0, #[]⟩
def o565x2 : Obj := ⟨.none, none, .fields #[], #[]⟩
def o566x2 : Obj := ⟨.type "tuple", none, .seq #[.str "self" 907, .str "other" 908, .str "new_coeffs" 909] 0, #[]⟩
def o567x2 : Obj := ⟨.type "tuple", none, .seq #[] 0, #[]⟩
def o568x2 : Obj := fnO (.none) none #[] (nth (inner (nth body 9)) 6) "PolynomialNTT.__sub__" 0 [] .none .none .none .none none .none .none 0
def o569x2 : Obj := ⟨.type "code", none, .fields #[.str "__sub__" 904, .str "PolynomialNTT.__sub__" 905, .str "/claim/cut.py" 906, .int 358 0, .int 2 0, .int 0 0, .int 0 0, .int 3 0, .ref 564, .bool true, .int 181 0, .ref 565, .none, .ref 566, .ref 567, .ref 568, .int 910 0, .int 358 0, .str "/claim/cut.py" 911], #[]⟩
def to570x2 : Lit (fnO (.type "function") none #[] (nth (inner (nth body 9)) 6) "PolynomialNTT.__sub__" 3 [] .none .none .none (.str "dilithium_py.polynomials.polynomials" 526) none (.ref 569) .none 0) := ⟨_, by conv => rhs; whnf⟩
abbrev o570x2 : Obj := to570x2.1
def o571x2 : Obj := ⟨.type "tuple", none, .seq #[] 0, #[]⟩
def o572x2 : Obj := ⟨.none, none, .fields #[], #[]⟩
def o573x2 : Obj := fnO (.none) none #[] (nth (inner (nth body 9)) 7) "PolynomialNTT.__mul__" 0 [] .none .none .none .none none .none .none 0
def o574x2 : Obj := ⟨.type "code", none, .fields #[.str "__mul__" 913, .str "PolynomialNTT.__mul__" 914, .str "/claim/cut.py" 915, .int 362 0, .int 2 0, .int 0 0, .int 0 0, .int 3 0, .ref 571, .bool true, .int 181 0, .ref 572, .none, .none, .none, .ref 573, .int 916 0, .int 362 0, .str "/claim/cut.py" 917], #[]⟩
def to575x2 : Lit (fnO (.type "function") none #[] (nth (inner (nth body 9)) 7) "PolynomialNTT.__mul__" 3 [] .none .none .none (.str "dilithium_py.polynomials.polynomials" 526) none (.ref 574) .none 0) := ⟨_, by conv => rhs; whnf⟩
abbrev o575x2 : Obj := to575x2.1
def o576x2 : Obj := ⟨.type "tuple", none, .seq #[.str "coeffs" 919, .str "parent" 920] 0, #[]⟩
def o577x2 (P : Params) : Obj := ⟨.type "dict", none, .dict #[⟨kh P "__module__", .str "__module__" 852, .str "dilithium_py.polynomials.polynomials" 526⟩, ⟨kh P "__firstlineno__", .str "__firstlineno__" 856, .int 333 855⟩, ⟨kh P "__init__", .str "__init__" 865, .ref 530⟩, ⟨kh P "to_ntt", .str "to_ntt" 872, .ref 537⟩, ⟨kh P "from_ntt", .str "from_ntt" 879, .ref 544⟩, ⟨kh P "ntt_coefficient_multiplication", .str "ntt_coefficient_multiplication" 885, .ref 549⟩, ⟨kh P "ntt_multiplication", .str "ntt_multiplication" 894, .ref 556⟩, ⟨kh P "__add__", .str "__add__" 903, .ref 563⟩, ⟨kh P "__sub__", .str "__sub__" 912, .ref 570⟩, ⟨kh P "__mul__", .str "__mul__" 918, .ref 575⟩, ⟨kh P "__static_attributes__", .str "__static_attributes__" 921, .ref 576⟩, ⟨kh P "__doc__", .str "__doc__" 922, .none⟩] 2, #[]⟩
def o578x2 : Obj := ⟨.type "type", none, .cls { name := "PolynomialNTT", bases := [.ref 514], mro := [.ref 578, .ref 514, .ref 229, .type "object"], ns := 577, qualname := "PolynomialNTT", hasDict := true, slotNames := [], subclasses := [], abstract := false, collection := none, hasDel := false }, #[(some (.ref 517)), none, (some (.str "PolynomialNTT" 845)), (some (.str "PolynomialNTT" 853)), (some (.builtin "object.__new__")), (some (.bool true))]⟩
def o579x2 : Obj := ⟨.type "super", none, .fields #[.ref 578, .ref 578, .ref 578], #[]⟩
def o580x2 : Obj := ⟨.type "builtin_function_or_method", none, .fields #[.builtin "object.__init_subclass__", .ref 578], #[]⟩
def o581x2 : Obj := ⟨.type "tuple", none, .seq #[] 0, #[]⟩
def o582x2 : Obj := ⟨.type "builtin_function_or_method", none, .fields #[.builtin "type.__prepare__", .type "type"], #[]⟩
def o583x2 (P : Params) : Obj := ⟨.type "dict", none, .dict #[⟨kh P "__module__", .str "__module__" 934, .str "dilithium_py.modules.modules_generic" 925⟩, ⟨kh P "__qualname__", .str "__qualname__" 936, .str "MatrixGeneric" 935⟩, ⟨kh P "__firstlineno__", .str "__firstlineno__" 938, .int 371 937⟩, ⟨kh P "__init__", .str "__init__" 948, .ref 595⟩, ⟨kh P "_check_dimensions", .str "_check_dimensions" 954, .ref 600⟩, ⟨kh P "dim", .str "dim" 961, .ref 607⟩, ⟨kh P "transpose", .str "transpose" 968, .ref 614⟩, ⟨kh P "transpose_self", .str "transpose_self" 975, .ref 621⟩, ⟨kh P "T", .str "T" 977, .ref 622⟩, ⟨kh P "reduce_coefficients", .str "reduce_coefficients" 984, .ref 629⟩, ⟨kh P "__getitem__", .str "__getitem__" 992, .ref 636⟩, ⟨kh P "rows", .str "rows" 999, .ref 643⟩, ⟨kh P "__eq__", .str "__eq__" 1011, .ref 650⟩, ⟨kh P "__neg__", .str "__neg__" 1017, .ref 655⟩, ⟨kh P "__add__", .str "__add__" 1023, .ref 660⟩, ⟨kh P "__iadd__", .str "__iadd__" 1031, .ref 667⟩, ⟨kh P "__sub__", .str "__sub__" 1037, .ref 672⟩, ⟨kh P "__isub__", .str "__isub__" 1045, .ref 679⟩, ⟨kh P "__matmul__", .str "__matmul__" 1051, .ref 684⟩, ⟨kh P "scale", .str "scale" 1059, .ref 691⟩, ⟨kh P "dot", .str "dot" 1067, .ref 698⟩, ⟨kh P "__static_attributes__", .str "__static_attributes__" 1071, .ref 699⟩] 22, #[]⟩
def o584x2 : Obj := ⟨.type "tuple", none, .seq #[] 0, #[]⟩
def o585x2 : Obj := ⟨.none, none, .fields #[.int 373 0, .int 4 0, .ref 594, .int 380 0, .int 4 0, .ref 599, .int 383 0, .int 4 0, .ref 606, .int 389 0, .int 4 0, .ref 613, .int 392 0, .int 4 0, .ref 620, .int 396 0, .int 4 0, .ref 628, .int 399 0, .int 4 0, .ref 635, .int 406 0, .int 4 0, .ref 642, .int 412 0, .int 4 0, .ref 649, .int 418 0, .int 4 0, .ref 654, .int 422 0, .int 4 0, .ref 659, .int 432 0, .int 4 0, .ref 666, .int 435 0, .int 4 0, .ref 671, .int 445 0, .int 4 0, .ref 678, .int 448 0, .int 4 0, .ref 683, .int 459 0, .int 4 0, .ref 690, .int 462 0, .int 4 0, .ref 697], #[]⟩
def o586x2 : Obj := ⟨.type "code", none, .fields #[.str "MatrixGeneric" 929, .str "MatrixGeneric" 930, .str "/claim/cut.py" 931, .int 371 0, .int 0 0, .int 0 0, .int 0 0, .int 0 0, .ref 584, .bool false, .int 181 0, .ref 585, .none, .none, .none, .none, .int 932 0, .int 371 0, .str "/claim/cut.py" 933], #[]⟩
def o587x2 : Obj := ⟨.type "frame", none, .plain, #[(some (.ref 586)), (some (.ref 3)), (some (.ref 583)), none, (some (.str "dilithium_py.modules.modules_generic" 925)), none, (some (.ref 0))]⟩
def o588x2 : Obj := ⟨.type "tuple", none, .seq #[.bool false] 0, #[]⟩
def o589x2 : Obj := ⟨.type "tuple", none, .seq #[] 0, #[]⟩
def o590x2 : Obj := ⟨.none, none, .fields #[], #[]⟩
def o591x2 : Obj := ⟨.type "tuple", none, .seq #[.str "self" 942, .str "parent" 943, .str "matrix_data" 944, .str "transpose" 945] 0, #[]⟩
def o592x2 : Obj := ⟨.type "tuple", none, .seq #[] 0, #[]⟩
def o593x2 : Obj := fnO (.none) none #[] (nth (inner (nth body 11)) 0) "MatrixGeneric.__init__" 0 [] .none .none .none .none none .none .none 0
def o594x2 : Obj := ⟨.type "code", none, .fields #[.str "__init__" 939, .str "MatrixGeneric.__init__" 940, .str "/claim/cut.py" 941, .int 373 0, .int 4 0, .int 0 0, .int 0 0, .int 3 0, .ref 589, .bool true, .int 181 0, .ref 590, .none, .ref 591, .ref 592, .ref 593, .int 946 0, .int 373 0, .str "/claim/cut.py" 947], #[]⟩
def to595x2 : Lit (fnO (.type "function") none #[] (nth (inner (nth body 11)) 0) "MatrixGeneric.__init__" 3 [] (.ref 588) .none .none (.str "dilithium_py.modules.modules_generic" 925) none (.ref 594) .none 0) := ⟨_, by conv => rhs; whnf⟩
abbrev o595x2 : Obj := to595x2.1
def o596x2 : Obj := ⟨.type "tuple", none, .seq #[] 0, #[]⟩
def o597x2 : Obj := ⟨.none, none, .fields #[], #[]⟩
def o598x2 : Obj := fnO (.none) none #[] (nth (inner (nth body 11)) 1) "MatrixGeneric._check_dimensions" 0 [] .none .none .none .none none .none .none 0
def o599x2 : Obj := ⟨.type "code", none, .fields #[.str "_check_dimensions" 949, .str "MatrixGeneric._check_dimensions" 950, .str "/claim/cut.py" 951, .int 380 0, .int 1 0, .int 0 0, .int 0 0, .int 3 0, .ref 596, .bool true, .int 181 0, .ref 597, .none, .none, .none, .ref 598, .int 952 0, .int 380 0, .str "/claim/cut.py" 953], #[]⟩
def to600x2 : Lit (fnO (.type "function") none #[] (nth (inner (nth body 11)) 1) "MatrixGeneric._check_dimensions" 3 [] .none .none .none (.str "dilithium_py.modules.modules_generic" 925) none (.ref 599) .none 0) := ⟨_, by conv => rhs; whnf⟩
abbrev o600x2 : Obj := to600x2.1
def o601x2 : Obj := ⟨.type "tuple", none, .seq #[] 0, #[]⟩
def o602x2 : Obj := ⟨.none, none, .fields #[], #[]⟩
def o603x2 : Obj := ⟨.type "tuple", none, .seq #[.str "self" 958] 0, #[]⟩
def o604x2 : Obj := ⟨.type "tuple", none, .seq #[] 0, #[]⟩
def o605x2 : Obj := fnO (.none) none #[] (nth (inner (nth body 11)) 2) "MatrixGeneric.dim" 0 [] .none .none .none .none none .none .none 0
def o606x2 : Obj := ⟨.type "code", none, .fields #[.str "dim" 955, .str "MatrixGeneric.dim" 956, .str "/claim/cut.py" 957, .int 383 0, .int 1 0, .int 0 0, .int 0 0, .int 3 0, .ref 601, .bool true, .int 181 0, .ref 602, .none, .ref 603, .ref 604, .ref 605, .int 959 0, .int 383 0, .str "/claim/cut.py" 960], #[]⟩
def to607x2 : Lit (fnO (.type "function") none #[] (nth (inner (nth body 11)) 2) "MatrixGeneric.dim" 3 [] .none .none .none (.str "dilithium_py.modules.modules_generic" 925) none (.ref 606) .none 0) := ⟨_, by conv => rhs; whnf⟩
abbrev o607x2 : Obj := to607x2.1
def o608x2 : Obj := ⟨.type "tuple", none, .seq #[] 0, #[]⟩
def o609x2 : Obj := ⟨.none, none, .fields #[], #[]⟩
def o610x2 : Obj := ⟨.type "tuple", none, .seq #[.str "self" 965] 0, #[]⟩
def o611x2 : Obj := ⟨.type "tuple", none, .seq #[] 0, #[]⟩
def o612x2 : Obj := fnO (.none) none #[] (nth (inner (nth body 11)) 3) "MatrixGeneric.transpose" 0 [] .none .none .none .none none .none .none 0
def o613x2 : Obj := ⟨.type "code", none, .fields #[.str "transpose" 962, .str "MatrixGeneric.transpose" 963, .str "/claim/cut.py" 964, .int 389 0, .int 1 0, .int 0 0, .int 0 0, .int 3 0, .ref 608, .bool true, .int 181 0, .ref 609, .none, .ref 610, .ref 611, .ref 612, .int 966 0, .int 389 0, .str "/claim/cut.py" 967], #[]⟩
def to614x2 : Lit (fnO (.type "function") none #[] (nth (inner (nth body 11)) 3) "MatrixGeneric.transpose" 3 [] .none .none .none (.str "dilithium_py.modules.modules_generic" 925) none (.ref 613) .none 0) := ⟨_, by conv => rhs; whnf⟩
abbrev o614x2 : Obj := to614x2.1
def o615x2 : Obj := ⟨.type "tuple", none, .seq #[] 0, #[]⟩
def o616x2 : Obj := ⟨.none, none, .fields #[], #[]⟩
def o617x2 : Obj := ⟨.type "tuple", none, .seq #[.str "self" 972] 0, #[]⟩
def o618x2 : Obj := ⟨.type "tuple", none, .seq #[] 0, #[]⟩
def o619x2 : Obj := fnO (.none) none #[] (nth (inner (nth body 11)) 4) "MatrixGeneric.transpose_self" 0 [] .none .none .none .none none .none .none 0
def o620x2 : Obj := ⟨.type "code", none, .fields #[.str "transpose_self" 969, .str "MatrixGeneric.transpose_self" 970, .str "/claim/cut.py" 971, .int 392 0, .int 1 0, .int 0 0, .int 0 0, .int 3 0, .ref 615, .bool true, .int 181 0, .ref 616, .none, .ref 617, .ref 618, .ref 619, .int 973 0, .int 392 0, .str "/claim/cut.py" 974], #[]⟩
def to621x2 : Lit (fnO (.type "function") none #[] (nth (inner (nth body 11)) 4) "MatrixGeneric.transpose_self" 3 [] .none .none .none (.str "dilithium_py.modules.modules_generic" 925) none (.ref 620) .none 0) := ⟨_, by conv => rhs; whnf⟩
abbrev o621x2 : Obj := to621x2.1
def o622x2 : Obj := ⟨.type "property", none, .fields #[.ref 614, .none, .none, .none, .str "T" 977, .bool false], #[]⟩
def o623x2 : Obj := ⟨.type "tuple", none, .seq #[] 0, #[]⟩
def o624x2 : Obj := ⟨.none, none, .fields #[], #[]⟩
def o625x2 : Obj := ⟨.type "tuple", none, .seq #[.str "self" 981] 0, #[]⟩
def o626x2 : Obj := ⟨.type "tuple", none, .seq #[] 0, #[]⟩
def o627x2 : Obj := fnO (.none) none #[] (nth (inner (nth body 11)) 6) "MatrixGeneric.reduce_coefficients" 0 [] .none .none .none .none none .none .none 0
def o628x2 : Obj := ⟨.type "code", none, .fields #[.str "reduce_coefficients" 978, .str "MatrixGeneric.reduce_coefficients" 979, .str "/claim/cut.py" 980, .int 396 0, .int 1 0, .int 0 0, .int 0 0, .int 3 0, .ref 623, .bool true, .int 181 0, .ref 624, .none, .ref 625, .ref 626, .ref 627, .int 982 0, .int 396 0, .str "/claim/cut.py" 983], #[]⟩
def to629x2 : Lit (fnO (.type "function") none #[] (nth (inner (nth body 11)) 6) "MatrixGeneric.reduce_coefficients" 3 [] .none .none .none (.str "dilithium_py.modules.modules_generic" 925) none (.ref 628) .none 0) := ⟨_, by conv => rhs; whnf⟩
abbrev o629x2 : Obj := to629x2.1
def o630x2 : Obj := ⟨.type "tuple", none, .seq #[] 0, #[]⟩
def o631x2 : Obj := ⟨.none, none, .fields #[], #[]⟩
def o632x2 : Obj := ⟨.type "tuple", none, .seq #[.str "self" 988, .str "idx" 989] 0, #[]⟩
def o633x2 : Obj := ⟨.type "tuple", none, .seq #[] 0, #[]⟩
def o634x2 : Obj := fnO (.none) none #[] (nth (inner (nth body 11)) 7) "MatrixGeneric.__getitem__" 0 [] .none .none .none .none none .none .none 0
def o635x2 : Obj := ⟨.type "code", none, .fields #[.str "__getitem__" 985, .str "MatrixGeneric.__getitem__" 986, .str "/claim/cut.py" 987, .int 399 0, .int 2 0, .int 0 0, .int 0 0, .int 3 0, .ref 630, .bool true, .int 181 0, .ref 631, .none, .ref 632, .ref 633, .ref 634, .int 990 0, .int 399 0, .str "/claim/cut.py" 991], #[]⟩
def to636x2 : Lit (fnO (.type "function") none #[] (nth (inner (nth body 11)) 7) "MatrixGeneric.__getitem__" 3 [] .none .none .none (.str "dilithium_py.modules.modules_generic" 925) none (.ref 635) .none 0) := ⟨_, by conv => rhs; whnf⟩
abbrev o636x2 : Obj := to636x2.1
def o637x2 : Obj := ⟨.type "tuple", none, .seq #[] 0, #[]⟩
def o638x2 : Obj := ⟨.none, none, .fields #[], #[]⟩
def o639x2 : Obj := ⟨.type "tuple", none, .seq #[.str "self" 996] 0, #[]⟩
def o640x2 : Obj := ⟨.type "tuple", none, .seq #[] 0, #[]⟩
def o641x2 : Obj := fnO (.none) none #[] (nth (inner (nth body 11)) 8) "MatrixGeneric.rows" 0 [] .none .none .none .none none .none .none 0
def o642x2 : Obj := ⟨.type "code", none, .fields #[.str "rows" 993, .str "MatrixGeneric.rows" 994, .str "/claim/cut.py" 995, .int 406 0, .int 1 0, .int 0 0, .int 0 0, .int 3 0, .ref 637, .bool true, .int 181 0, .ref 638, .none, .ref 639, .ref 640, .ref 641, .int 997 0, .int 406 0, .str "/claim/cut.py" 998], #[]⟩
def to643x2 : Lit (fnO (.type "function") none #[] (nth (inner (nth body 11)) 8) "MatrixGeneric.rows" 3 [] .none .none .none (.str "dilithium_py.modules.modules_generic" 925) none (.ref 642) .none 0) := ⟨_, by conv => rhs; whnf⟩
abbrev o643x2 : Obj := to643x2.1
def o644x2 : Obj := ⟨.type "tuple", none, .seq #[] 0, #[]⟩
def o645x2 : Obj := ⟨.none, none, .fields #[], #[]⟩
def o646x2 : Obj := ⟨.type "tuple", none, .seq #[.str "self" 1003, .str "other" 1004, .str "m" 1005] 0, #[]⟩
def o647x2 : Obj := ⟨.type "tuple", none, .seq #[.str "self" 1006, .str "other" 1007, .str "n" 1008] 0, #[]⟩
def o648x2 : Obj := fnO (.none) none #[] (nth (inner (nth body 11)) 9) "MatrixGeneric.__eq__" 0 [] .none .none .none .none none .none .none 0
def o649x2 : Obj := ⟨.type "code", none, .fields #[.str "__eq__" 1000, .str "MatrixGeneric.__eq__" 1001, .str "/claim/cut.py" 1002, .int 412 0, .int 2 0, .int 0 0, .int 0 0, .int 3 0, .ref 644, .bool true, .int 181 0, .ref 645, .none, .ref 646, .ref 647, .ref 648, .int 1009 0, .int 412 0, .str "/claim/cut.py" 1010], #[]⟩
def to650x2 : Lit (fnO (.type "function") none #[] (nth (inner (nth body 11)) 9) "MatrixGeneric.__eq__" 3 [] .none .none .none (.str "dilithium_py.modules.modules_generic" 925) none (.ref 649) .none 0) := ⟨_, by conv => rhs; whnf⟩
abbrev o650x2 : Obj := to650x2.1
def o651x2 : Obj := ⟨.type "tuple", none, .seq #[] 0, #[]⟩
def o652x2 : Obj := ⟨.none, none, .fields #[], #[]⟩
def o653x2 : Obj := fnO (.none) none #[] (nth (inner (nth body 11)) 10) "MatrixGeneric.__neg__" 0 [] .none .none .none .none none .none .none 0
def o654x2 : Obj := ⟨.type "code", none, .fields #[.str "__neg__" 1012, .str "MatrixGeneric.__neg__" 1013, .str "/claim/cut.py" 1014, .int 418 0, .int 1 0, .int 0 0, .int 0 0, .int 3 0, .ref 651, .bool true, .int 181 0, .ref 652, .none, .none, .none, .ref 653, .int 1015 0, .int 418 0, .str "/claim/cut.py" 1016], #[]⟩
def to655x2 : Lit (fnO (.type "function") none #[] (nth (inner (nth body 11)) 10) "MatrixGeneric.__neg__" 3 [] .none .none .none (.str "dilithium_py.modules.modules_generic" 925) none (.ref 654) .none 0) := ⟨_, by conv => rhs; whnf⟩
abbrev o655x2 : Obj := to655x2.1
def o656x2 : Obj := ⟨.type "tuple", none, .seq #[] 0, #[]⟩
def o657x2 : Obj := ⟨.none, none, .fields #[], #[]⟩
def o658x2 : Obj := fnO (.none) none #[] (nth (inner (nth body 11)) 11) "MatrixGeneric.__add__" 0 [] .none .none .none .none none .none .none 0
def o659x2 : Obj := ⟨.type "code", none, .fields #[.str "__add__" 1018, .str "MatrixGeneric.__add__" 1019, .str "/claim/cut.py" 1020, .int 422 0, .int 2 0, .int 0 0, .int 0 0, .int 3 0, .ref 656, .bool true, .int 181 0, .ref 657, .none, .none, .none, .ref 658, .int 1021 0, .int 422 0, .str "/claim/cut.py" 1022], #[]⟩
def to660x2 : Lit (fnO (.type "function") none #[] (nth (inner (nth body 11)) 11) "MatrixGeneric.__add__" 3 [] .none .none .none (.str "dilithium_py.modules.modules_generic" 925) none (.ref 659) .none 0) := ⟨_, by conv => rhs; whnf⟩
abbrev o660x2 : Obj := to660x2.1
def o661x2 : Obj := ⟨.type "tuple", none, .seq #[] 0, #[]⟩
def o662x2 : Obj := ⟨.none, none, .fields #[], #[]⟩
def o663x2 : Obj := ⟨.type "tuple", none, .seq #[.str "self" 1027, .str "other" 1028] 0, #[]⟩
def o664x2 : Obj := ⟨.type "tuple", none, .seq #[] 0, #[]⟩
def o665x2 : Obj := fnO (.none) none #[] (nth (inner (nth body 11)) 12) "MatrixGeneric.__iadd__" 0 [] .none .none .none .none none .none .none 0
def o666x2 : Obj := ⟨.type "code", none, .fields #[.str "__iadd__" 1024, .str "MatrixGeneric.__iadd__" 1025, .str "/claim/cut.py" 1026, .int 432 0, .int 2 0, .int 0 0, .int 0 0, .int 3 0, .ref 661, .bool true, .int 181 0, .ref 662, .none, .ref 663, .ref 664, .ref 665, .int 1029 0, .int 432 0, .str "/claim/cut.py" 1030], #[]⟩
def to667x2 : Lit (fnO (.type "function") none #[] (nth (inner (nth body 11)) 12) "MatrixGeneric.__iadd__" 3 [] .none .none .none (.str "dilithium_py.modules.modules_generic" 925) none (.ref 666) .none 0) := ⟨_, by conv => rhs; whnf⟩
abbrev o667x2 : Obj := to667x2.1
def o668x2 : Obj := ⟨.type "tuple", none, .seq #[] 0, #[]⟩
def o669x2 : Obj := ⟨.none, none, .fields #[], #[]⟩
def o670x2 : Obj := fnO (.none) none #[] (nth (inner (nth body 11)) 13) "MatrixGeneric.__sub__" 0 [] .none .none .none .none none .none .none 0
def o671x2 : Obj := ⟨.type "code", none, .fields #[.str "__sub__" 1032, .str "MatrixGeneric.__sub__" 1033, .str "/claim/cut.py" 1034, .int 435 0, .int 2 0, .int 0 0, .int 0 0, .int 3 0, .ref 668, .bool true, .int 181 0, .ref 669, .none, .none, .none, .ref 670, .int 1035 0, .int 435 0, .str "/claim/cut.py" 1036], #[]⟩
def to672x2 : Lit (fnO (.type "function") none #[] (nth (inner (nth body 11)) 13) "MatrixGeneric.__sub__" 3 [] .none .none .none (.str "dilithium_py.modules.modules_generic" 925) none (.ref 671) .none 0) := ⟨_, by conv => rhs; whnf⟩
abbrev o672x2 : Obj := to672x2.1
def o673x2 : Obj := ⟨.type "tuple", none, .seq #[] 0, #[]⟩
def o674x2 : Obj := ⟨.none, none, .fields #[], #[]⟩
def o675x2 : Obj := ⟨.type "tuple", none, .seq #[.str "self" 1041, .str "other" 1042] 0, #[]⟩
def o676x2 : Obj := ⟨.type "tuple", none, .seq #[] 0, #[]⟩
def o677x2 : Obj := fnO (.none) none #[] (nth (inner (nth body 11)) 14) "MatrixGeneric.__isub__" 0 [] .none .none .none .none none .none .none 0
def o678x2 : Obj := ⟨.type "code", none, .fields #[.str "__isub__" 1038, .str "MatrixGeneric.__isub__" 1039, .str "/claim/cut.py" 1040, .int 445 0, .int 2 0, .int 0 0, .int 0 0, .int 3 0, .ref 673, .bool true, .int 181 0, .ref 674, .none, .ref 675, .ref 676, .ref 677, .int 1043 0, .int 445 0, .str "/claim/cut.py" 1044], #[]⟩
def to679x2 : Lit (fnO (.type "function") none #[] (nth (inner (nth body 11)) 14) "MatrixGeneric.__isub__" 3 [] .none .none .none (.str "dilithium_py.modules.modules_generic" 925) none (.ref 678) .none 0) := ⟨_, by conv => rhs; whnf⟩
abbrev o679x2 : Obj := to679x2.1
def o680x2 : Obj := ⟨.type "tuple", none, .seq #[] 0, #[]⟩
def o681x2 : Obj := ⟨.none, none, .fields #[], #[]⟩
def o682x2 : Obj := fnO (.none) none #[] (nth (inner (nth body 11)) 15) "MatrixGeneric.__matmul__" 0 [] .none .none .none .none none .none .none 0
def o683x2 : Obj := ⟨.type "code", none, .fields #[.str "__matmul__" 1046, .str "MatrixGeneric.__matmul__" 1047, .str "/claim/cut.py" 1048, .int 448 0, .int 2 0, .int 0 0, .int 0 0, .int 3 0, .ref 680, .bool true, .int 181 0, .ref 681, .none, .none, .none, .ref 682, .int 1049 0, .int 448 0, .str "/claim/cut.py" 1050], #[]⟩
def to684x2 : Lit (fnO (.type "function") none #[] (nth (inner (nth body 11)) 15) "MatrixGeneric.__matmul__" 3 [] .none .none .none (.str "dilithium_py.modules.modules_generic" 925) none (.ref 683) .none 0) := ⟨_, by conv => rhs; whnf⟩
abbrev o684x2 : Obj := to684x2.1
def o685x2 : Obj := ⟨.type "tuple", none, .seq #[] 0, #[]⟩
def o686x2 : Obj := ⟨.none, none, .fields #[], #[]⟩
def o687x2 : Obj := ⟨.type "tuple", none, .seq #[.str "self" 1055, .str "other" 1056] 0, #[]⟩
def o688x2 : Obj := ⟨.type "tuple", none, .seq #[] 0, #[]⟩
def o689x2 : Obj := fnO (.none) none #[] (nth (inner (nth body 11)) 16) "MatrixGeneric.scale" 0 [] .none .none .none .none none .none .none 0
def o690x2 : Obj := ⟨.type "code", none, .fields #[.str "scale" 1052, .str "MatrixGeneric.scale" 1053, .str "/claim/cut.py" 1054, .int 459 0, .int 2 0, .int 0 0, .int 0 0, .int 3 0, .ref 685, .bool true, .int 181 0, .ref 686, .none, .ref 687, .ref 688, .ref 689, .int 1057 0, .int 459 0, .str "/claim/cut.py" 1058], #[]⟩
def to691x2 : Lit (fnO (.type "function") none #[] (nth (inner (nth body 11)) 16) "MatrixGeneric.scale" 3 [] .none .none .none (.str "dilithium_py.modules.modules_generic" 925) none (.ref 690) .none 0) := ⟨_, by conv => rhs; whnf⟩
abbrev o691x2 : Obj := to691x2.1
def o692x2 : Obj := ⟨.type "tuple", none, .seq #[] 0, #[]⟩
def o693x2 : Obj := ⟨.none, none, .fields #[], #[]⟩
def o694x2 : Obj := ⟨.type "tuple", none, .seq #[.str "self" 1063, .str "other" 1064] 0, #[]⟩
def o695x2 : Obj := ⟨.type "tuple", none, .seq #[] 0, #[]⟩
def o696x2 : Obj := fnO (.none) none #[] (nth (inner (nth body 11)) 17) "MatrixGeneric.dot" 0 [] .none .none .none .none none .none .none 0
def o697x2 : Obj := ⟨.type "code", none, .fields #[.str "dot" 1060, .str "MatrixGeneric.dot" 1061, .str "/claim/cut.py" 1062, .int 462 0, .int 2 0, .int 0 0, .int 0 0, .int 3 0, .ref 692, .bool true, .int 181 0, .ref 693, .none, .ref 694, .ref 695, .ref 696, .int 1065 0, .int 462 0, .str "/claim/cut.py" 1066], #[]⟩
def to698x2 : Lit (fnO (.type "function") none #[] (nth (inner (nth body 11)) 17) "MatrixGeneric.dot" 3 [] .none .none .none (.str "dilithium_py.modules.modules_generic" 925) none (.ref 697) .none 0) := ⟨_, by conv => rhs; whnf⟩
abbrev o698x2 : Obj := to698x2.1
def o699x2 : Obj := ⟨.type "tuple", none, .seq #[.str "_data" 1068, .str "_transpose" 1069, .str "parent" 1070] 0, #[]⟩
def o700x2 (P : Params) : Obj := ⟨.type "dict", none, .dict #[⟨kh P "__module__", .str "__module__" 934, .str "dilithium_py.modules.modules_generic" 925⟩, ⟨kh P "__firstlineno__", .str "__firstlineno__" 938, .int 371 937⟩, ⟨kh P "__init__", .str "__init__" 948, .ref 595⟩, ⟨kh P "_check_dimensions", .str "_check_dimensions" 954, .ref 600⟩, ⟨kh P "dim", .str "dim" 961, .ref 607⟩, ⟨kh P "transpose", .str "transpose" 968, .ref 614⟩, ⟨kh P "transpose_self", .str "transpose_self" 975, .ref 621⟩, ⟨kh P "T", .str "T" 977, .ref 622⟩, ⟨kh P "reduce_coefficients", .str "reduce_coefficients" 984, .ref 629⟩, ⟨kh P "__getitem__", .str "__getitem__" 992, .ref 636⟩, ⟨kh P "rows", .str "rows" 999, .ref 643⟩, ⟨kh P "__eq__", .str "__eq__" 1011, .ref 650⟩, ⟨kh P "__neg__", .str "__neg__" 1017, .ref 655⟩, ⟨kh P "__add__", .str "__add__" 1023, .ref 660⟩, ⟨kh P "__iadd__", .str "__iadd__" 1031, .ref 667⟩, ⟨kh P "__sub__", .str "__sub__" 1037, .ref 672⟩, ⟨kh P "__isub__", .str "__isub__" 1045, .ref 679⟩, ⟨kh P "__matmul__", .str "__matmul__" 1051, .ref 684⟩, ⟨kh P "scale", .str "scale" 1059, .ref 691⟩, ⟨kh P "dot", .str "dot" 1067, .ref 698⟩, ⟨kh P "__static_attributes__", .str "__static_attributes__" 1071, .ref 699⟩, ⟨kh P "__dict__", .str "__dict__" 1073, .ref 702⟩, ⟨kh P "__weakref__", .str "__weakref__" 1075, .ref 703⟩, ⟨kh P "__doc__", .str "__doc__" 1076, .none⟩, ⟨kh P "__hash__", .str "__hash__" 1077, .none⟩] 5, #[]⟩
def o701x2 : Obj := ⟨.type "type", none, .cls { name := "MatrixGeneric", bases := [.type "object"], mro := [.ref 701, .type "object"], ns := 700, qualname := "MatrixGeneric", hasDict := true, slotNames := [], subclasses := [], abstract := false, collection := none, hasDel := false }, #[none, none, (some (.str "MatrixGeneric" 927)), (some (.str "MatrixGeneric" 935)), (some (.builtin "object.__new__")), (some (.bool true))]⟩
def o702x2 : Obj := ⟨.type "getset_descriptor", none, .fields #[.str "__dict__" 1072, .ref 701, .builtin "function.__dict__", .builtin "function.__dict__#set"], #[]⟩
def o703x2 : Obj := ⟨.type "getset_descriptor", none, .fields #[.str "__weakref__" 1074, .ref 701, .builtin "ExceptionGroup.__weakref__", .none], #[]⟩
def o704x2 : Obj := ⟨.type "super", none, .fields #[.ref 701, .ref 701, .ref 701], #[]⟩
def o705x2 : Obj := ⟨.type "builtin_function_or_method", none, .fields #[.builtin "object.__init_subclass__", .ref 701], #[]⟩
def T2 (P : Params) : BT := .node (o0 P) (.node (o1 P) (.node (o3x2 P) (.node o7 (.node o15x1 (.node o31x1 (.node o63x1 (.node o127x1 (.node o255x1 (.node o511x2 .nil .nil) .nil) (.node (o383x1 P) (.node o639x2 .nil .nil) .nil)) (.node o191x1 (.node o319x1 (.node o575x2 .nil .nil) .nil) (.node o447x2 (.node o703x2 .nil .nil) .nil))) (.node o95x1 (.node o159x1 (.node o287x1 (.node o543x2 .nil .nil) .nil) (.node o415x2 (.node o671x2 .nil .nil) .nil)) (.node o223x1 (.node o351x1 (.node o607x2 .nil .nil) .nil) (.node o479x2 .nil .nil)))) (.node o47x1 (.node o79x1 (.node o143x1 (.node o271x1 (.node o527x2 .nil .nil) .nil) (.node o399x2 (.node o655x2 .nil .nil) .nil)) (.node o207x1 (.node o335x1 (.node o591x2 .nil .nil) .nil) (.node o463x2 .nil .nil))) (.node o111x1 (.node o175x1 (.node o303x1 (.node o559x2 .nil .nil) .nil) (.node o431x2 (.node o687x2 .nil .nil) .nil)) (.node o239x1 (.node o367x1 (.node o623x2 .nil .nil) .nil) (.node o495x2 .nil .nil))))) (.node o23x1 (.node o39x1 (.node o71x1 (.node o135x1 (.node o263x1 (.node (o519x2 P) .nil .nil) .nil) (.node o391x2 (.node o647x2 .nil .nil) .nil)) (.node o199x1 (.node o327x1 (.node (o583x2 P) .nil .nil) .nil) (.node o455x2 .nil .nil))) (.node o103x1 (.node o167x1 (.node o295x1 (.node o551x2 .nil .nil) .nil) (.node o423x2 (.node o679x2 .nil .nil) .nil)) (.node o231x1 (.node o359x1 (.node o615x2 .nil .nil) .nil) (.node o487x2 .nil .nil)))) (.node o55x1 (.node o87x1 (.node o151x1 (.node o279x1 (.node o535x2 .nil .nil) .nil) (.node o407x2 (.node o663x2 .nil .nil) .nil)) (.node o215x1 (.node o343x1 (.node o599x2 .nil .nil) .nil) (.node o471x2 .nil .nil))) (.node o119x1 (.node o183x1 (.node o311x1 (.node o567x2 .nil .nil) .nil) (.node o439x2 (.node o695x2 .nil .nil) .nil)) (.node o247x1 (.node o375x1 (.node o631x2 .nil .nil) .nil) (.node o503x2 .nil .nil)))))) (.node o11 (.node o19x1 (.node o35x1 (.node o67x1 (.node o131x1 (.node o259x1 (.node o515x2 .nil .nil) .nil) (.node o387x2 (.node o643x2 .nil .nil) .nil)) (.node o195x1 (.node o323x1 (.node o579x2 .nil .nil) .nil) (.node o451x2 .nil .nil))) (.node o99x1 (.node o163x1 (.node o291x1 (.node o547x2 .nil .nil) .nil) (.node o419x2 (.node o675x2 .nil .nil) .nil)) (.node o227x1 (.node o355x1 (.node o611x2 .nil .nil) .nil) (.node o483x2 .nil .nil)))) (.node o51x1 (.node o83x1 (.node o147x1 (.node o275x1 (.node o531x2 .nil .nil) .nil) (.node o403x2 (.node o659x2 .nil .nil) .nil)) (.node o211x1 (.node o339x1 (.node o595x2 .nil .nil) .nil) (.node o467x2 .nil .nil))) (.node o115x1 (.node o179x1 (.node o307x1 (.node o563x2 .nil .nil) .nil) (.node o435x2 (.node o691x2 .nil .nil) .nil)) (.node o243x1 (.node o371x1 (.node o627x2 .nil .nil) .nil) (.node o499x2 .nil .nil))))) (.node o27x1 (.node o43x1 (.node o75x1 (.node o139x1 (.node o267x1 (.node o523x2 .nil .nil) .nil) (.node o395x2 (.node o651x2 .nil .nil) .nil)) (.node o203x1 (.node o331x1 (.node o587x2 .nil .nil) .nil) (.node (o459x2 P) .nil .nil))) (.node o107x1 (.node o171x1 (.node o299x1 (.node o555x2 .nil .nil) .nil) (.node o427x2 (.node o683x2 .nil .nil) .nil)) (.node o235x1 (.node o363x1 (.node o619x2 .nil .nil) .nil) (.node o491x2 .nil .nil)))) (.node o59x1 (.node o91x1 (.node o155x1 (.node o283x1 (.node o539x2 .nil .nil) .nil) (.node o411x2 (.node o667x2 .nil .nil) .nil)) (.node o219x1 (.node o347x1 (.node o603x2 .nil .nil) .nil) (.node o475x2 .nil .nil))) (.node o123x1 (.node o187x1 (.node o315x1 (.node o571x2 .nil .nil) .nil) (.node o443x2 (.node o699x2 .nil .nil) .nil)) (.node o251x1 (.node o379x1 (.node o635x2 .nil .nil) .nil) (.node o507x2 .nil .nil))))))) (.node o5 (.node o9 (.node o17x1 (.node o33x1 (.node (o65x1 P) (.node o129x1 (.node o257x1 (.node (o513x2 P) .nil .nil) .nil) (.node o385x1 (.node o641x2 .nil .nil) .nil)) (.node o193x1 (.node o321x1 (.node (o577x2 P) .nil .nil) .nil) (.node o449x2 (.node o705x2 .nil .nil) .nil))) (.node o97x1 (.node o161x1 (.node o289x1 (.node o545x2 .nil .nil) .nil) (.node o417x2 (.node o673x2 .nil .nil) .nil)) (.node o225x1 (.node o353x1 (.node o609x2 .nil .nil) .nil) (.node o481x2 .nil .nil)))) (.node o49x1 (.node o81x1 (.node o145x1 (.node o273x1 (.node o529x2 .nil .nil) .nil) (.node o401x2 (.node o657x2 .nil .nil) .nil)) (.node o209x1 (.node o337x1 (.node o593x2 .nil .nil) .nil) (.node o465x2 .nil .nil))) (.node o113x1 (.node o177x1 (.node o305x1 (.node o561x2 .nil .nil) .nil) (.node o433x2 (.node o689x2 .nil .nil) .nil)) (.node o241x1 (.node o369x1 (.node o625x2 .nil .nil) .nil) (.node o497x2 .nil .nil))))) (.node o25x1 (.node o41x1 (.node (o73x1 P) (.node o137x1 (.node o265x1 (.node o521x2 .nil .nil) .nil) (.node o393x2 (.node o649x2 .nil .nil) .nil)) (.node o201x1 (.node o329x1 (.node o585x2 .nil .nil) .nil) (.node o457x2 .nil .nil))) (.node o105x1 (.node o169x1 (.node o297x1 (.node o553x2 .nil .nil) .nil) (.node o425x2 (.node o681x2 .nil .nil) .nil)) (.node o233x1 (.node o361x1 (.node o617x2 .nil .nil) .nil) (.node o489x2 .nil .nil)))) (.node o57x1 (.node o89x1 (.node o153x1 (.node o281x1 (.node o537x2 .nil .nil) .nil) (.node o409x2 (.node o665x2 .nil .nil) .nil)) (.node o217x1 (.node o345x1 (.node o601x2 .nil .nil) .nil) (.node o473x2 .nil .nil))) (.node o121x1 (.node o185x1 (.node o313x1 (.node o569x2 .nil .nil) .nil) (.node o441x2 (.node o697x2 .nil .nil) .nil)) (.node o249x1 (.node o377x1 (.node o633x2 .nil .nil) .nil) (.node o505x2 .nil .nil)))))) (.node o13 (.node o21x1 (.node o37x1 (.node o69x1 (.node o133x1 (.node o261x1 (.node o517x2 .nil .nil) .nil) (.node (o389x2 P) (.node o645x2 .nil .nil) .nil)) (.node o197x1 (.node o325x1 (.node o581x2 .nil .nil) .nil) (.node o453x2 .nil .nil))) (.node o101x1 (.node o165x1 (.node o293x1 (.node o549x2 .nil .nil) .nil) (.node o421x2 (.node o677x2 .nil .nil) .nil)) (.node o229x2 (.node o357x1 (.node o613x2 .nil .nil) .nil) (.node o485x2 .nil .nil)))) (.node o53x1 (.node o85x1 (.node o149x1 (.node (o277x1 P) (.node o533x2 .nil .nil) .nil) (.node o405x2 (.node o661x2 .nil .nil) .nil)) (.node o213x1 (.node o341x1 (.node o597x2 .nil .nil) .nil) (.node o469x2 .nil .nil))) (.node o117x1 (.node o181x1 (.node o309x1 (.node o565x2 .nil .nil) .nil) (.node o437x2 (.node o693x2 .nil .nil) .nil)) (.node o245x1 (.node o373x1 (.node o629x2 .nil .nil) .nil) (.node o501x2 .nil .nil))))) (.node o29x1 (.node o45x1 (.node o77x1 (.node o141x1 (.node o269x1 (.node o525x2 .nil .nil) .nil) (.node o397x2 (.node o653x2 .nil .nil) .nil)) (.node o205x1 (.node o333x1 (.node o589x2 .nil .nil) .nil) (.node o461x2 .nil .nil))) (.node o109x1 (.node o173x1 (.node o301x1 (.node o557x2 .nil .nil) .nil) (.node o429x2 (.node o685x2 .nil .nil) .nil)) (.node o237x1 (.node o365x1 (.node o621x2 .nil .nil) .nil) (.node o493x2 .nil .nil)))) (.node o61x1 (.node o93x1 (.node o157x1 (.node (o285x1 P) (.node o541x2 .nil .nil) .nil) (.node o413x2 (.node o669x2 .nil .nil) .nil)) (.node o221x1 (.node o349x1 (.node o605x2 .nil .nil) .nil) (.node o477x2 .nil .nil))) (.node o125x1 (.node o189x1 (.node o317x1 (.node o573x2 .nil .nil) .nil) (.node o445x2 (.node o701x2 .nil .nil) .nil)) (.node o253x1 (.node o381x1 (.node o637x2 .nil .nil) .nil) (.node o509x2 .nil .nil)))))))) (.node o2 (.node o4 (.node o8 (.node o16x1 (.node o32x1 (.node o64x1 (.node o128x1 (.node o256x1 (.node o512x2 .nil .nil) .nil) (.node o384x1 (.node o640x2 .nil .nil) .nil)) (.node o192x1 (.node o320x1 (.node o576x2 .nil .nil) .nil) (.node o448x2 (.node o704x2 .nil .nil) .nil))) (.node o96x1 (.node o160x1 (.node o288x1 (.node o544x2 .nil .nil) .nil) (.node o416x2 (.node o672x2 .nil .nil) .nil)) (.node o224x1 (.node o352x1 (.node o608x2 .nil .nil) .nil) (.node o480x2 .nil .nil)))) (.node o48x1 (.node o80x1 (.node o144x1 (.node o272x1 (.node o528x2 .nil .nil) .nil) (.node o400x2 (.node o656x2 .nil .nil) .nil)) (.node o208x1 (.node o336x1 (.node o592x2 .nil .nil) .nil) (.node o464x2 .nil .nil))) (.node o112x1 (.node o176x1 (.node o304x1 (.node o560x2 .nil .nil) .nil) (.node o432x2 (.node o688x2 .nil .nil) .nil)) (.node o240x1 (.node o368x1 (.node o624x2 .nil .nil) .nil) (.node o496x2 .nil .nil))))) (.node (o24x1 P) (.node o40x1 (.node o72x1 (.node o136x1 (.node o264x1 (.node o520x2 .nil .nil) .nil) (.node o392x2 (.node o648x2 .nil .nil) .nil)) (.node o200x1 (.node o328x1 (.node o584x2 .nil .nil) .nil) (.node o456x2 .nil .nil))) (.node o104x1 (.node o168x1 (.node o296x1 (.node o552x2 .nil .nil) .nil) (.node o424x2 (.node o680x2 .nil .nil) .nil)) (.node o232x1 (.node o360x1 (.node o616x2 .nil .nil) .nil) (.node o488x2 .nil .nil)))) (.node o56x1 (.node o88x1 (.node o152x1 (.node o280x1 (.node o536x2 .nil .nil) .nil) (.node o408x2 (.node o664x2 .nil .nil) .nil)) (.node o216x1 (.node o344x1 (.node o600x2 .nil .nil) .nil) (.node o472x2 .nil .nil))) (.node o120x1 (.node o184x1 (.node o312x1 (.node o568x2 .nil .nil) .nil) (.node o440x2 (.node o696x2 .nil .nil) .nil)) (.node o248x1 (.node o376x1 (.node o632x2 .nil .nil) .nil) (.node o504x2 .nil .nil)))))) (.node o12x2 (.node o20x1 (.node o36x1 (.node o68x1 (.node o132x1 (.node o260x1 (.node o516x2 .nil .nil) .nil) (.node o388x2 (.node o644x2 .nil .nil) .nil)) (.node o196x1 (.node o324x1 (.node o580x2 .nil .nil) .nil) (.node o452x2 .nil .nil))) (.node o100x1 (.node o164x1 (.node o292x1 (.node o548x2 .nil .nil) .nil) (.node o420x2 (.node o676x2 .nil .nil) .nil)) (.node (o228x1 P) (.node o356x1 (.node o612x2 .nil .nil) .nil) (.node o484x2 .nil .nil)))) (.node o52x1 (.node o84x1 (.node o148x1 (.node o276x1 (.node o532x2 .nil .nil) .nil) (.node o404x2 (.node o660x2 .nil .nil) .nil)) (.node o212x1 (.node o340x1 (.node o596x2 .nil .nil) .nil) (.node o468x2 .nil .nil))) (.node o116x1 (.node o180x1 (.node o308x1 (.node o564x2 .nil .nil) .nil) (.node o436x2 (.node o692x2 .nil .nil) .nil)) (.node o244x1 (.node o372x1 (.node o628x2 .nil .nil) .nil) (.node o500x2 .nil .nil))))) (.node o28x1 (.node o44x1 (.node o76x1 (.node o140x1 (.node o268x1 (.node o524x2 .nil .nil) .nil) (.node o396x2 (.node o652x2 .nil .nil) .nil)) (.node o204x1 (.node o332x1 (.node o588x2 .nil .nil) .nil) (.node o460x2 .nil .nil))) (.node o108x1 (.node o172x1 (.node o300x1 (.node o556x2 .nil .nil) .nil) (.node o428x2 (.node o684x2 .nil .nil) .nil)) (.node (o236x1 P) (.node o364x1 (.node o620x2 .nil .nil) .nil) (.node o492x2 .nil .nil)))) (.node o60x1 (.node o92x1 (.node o156x1 (.node o284x1 (.node o540x2 .nil .nil) .nil) (.node o412x2 (.node o668x2 .nil .nil) .nil)) (.node o220x1 (.node o348x1 (.node o604x2 .nil .nil) .nil) (.node o476x2 .nil .nil))) (.node o124x1 (.node o188x1 (.node o316x1 (.node o572x2 .nil .nil) .nil) (.node o444x2 (.node (o700x2 P) .nil .nil) .nil)) (.node o252x1 (.node o380x1 (.node o636x2 .nil .nil) .nil) (.node o508x2 .nil .nil))))))) (.node o6 (.node o10 (.node o18x1 (.node o34x1 (.node o66x1 (.node o130x1 (.node o258x1 (.node o514x2 .nil .nil) .nil) (.node o386x1 (.node o642x2 .nil .nil) .nil)) (.node o194x1 (.node o322x1 (.node o578x2 .nil .nil) .nil) (.node o450x2 .nil .nil))) (.node o98x1 (.node o162x1 (.node o290x1 (.node o546x2 .nil .nil) .nil) (.node o418x2 (.node o674x2 .nil .nil) .nil)) (.node o226x1 (.node o354x1 (.node o610x2 .nil .nil) .nil) (.node o482x2 .nil .nil)))) (.node o50x1 (.node o82x1 (.node o146x1 (.node o274x1 (.node o530x2 .nil .nil) .nil) (.node o402x2 (.node o658x2 .nil .nil) .nil)) (.node o210x1 (.node o338x1 (.node o594x2 .nil .nil) .nil) (.node o466x2 .nil .nil))) (.node o114x1 (.node o178x1 (.node o306x1 (.node o562x2 .nil .nil) .nil) (.node o434x2 (.node o690x2 .nil .nil) .nil)) (.node o242x1 (.node o370x1 (.node o626x2 .nil .nil) .nil) (.node o498x2 .nil .nil))))) (.node o26x1 (.node o42x1 (.node o74x1 (.node o138x1 (.node o266x1 (.node o522x2 .nil .nil) .nil) (.node o394x2 (.node o650x2 .nil .nil) .nil)) (.node o202x1 (.node o330x1 (.node o586x2 .nil .nil) .nil) (.node o458x2 .nil .nil))) (.node o106x1 (.node o170x1 (.node o298x1 (.node o554x2 .nil .nil) .nil) (.node o426x2 (.node o682x2 .nil .nil) .nil)) (.node o234x1 (.node o362x1 (.node o618x2 .nil .nil) .nil) (.node o490x2 .nil .nil)))) (.node o58x1 (.node o90x1 (.node o154x1 (.node o282x1 (.node o538x2 .nil .nil) .nil) (.node o410x2 (.node o666x2 .nil .nil) .nil)) (.node o218x1 (.node o346x1 (.node o602x2 .nil .nil) .nil) (.node o474x2 .nil .nil))) (.node o122x1 (.node o186x1 (.node o314x1 (.node o570x2 .nil .nil) .nil) (.node o442x2 (.node o698x2 .nil .nil) .nil)) (.node o250x1 (.node o378x1 (.node o634x2 .nil .nil) .nil) (.node o506x2 .nil .nil)))))) (.node o14 (.node o22x1 (.node o38x1 (.node o70x1 (.node o134x1 (.node o262x1 (.node o518x2 .nil .nil) .nil) (.node o390x2 (.node o646x2 .nil .nil) .nil)) (.node o198x1 (.node o326x1 (.node o582x2 .nil .nil) .nil) (.node o454x2 .nil .nil))) (.node o102x1 (.node o166x1 (.node o294x1 (.node o550x2 .nil .nil) .nil) (.node o422x2 (.node o678x2 .nil .nil) .nil)) (.node o230x1 (.node o358x1 (.node o614x2 .nil .nil) .nil) (.node o486x2 .nil .nil)))) (.node o54x1 (.node o86x1 (.node o150x1 (.node o278x1 (.node o534x2 .nil .nil) .nil) (.node o406x2 (.node o662x2 .nil .nil) .nil)) (.node o214x1 (.node o342x1 (.node o598x2 .nil .nil) .nil) (.node o470x2 .nil .nil))) (.node o118x1 (.node o182x1 (.node o310x1 (.node o566x2 .nil .nil) .nil) (.node o438x2 (.node o694x2 .nil .nil) .nil)) (.node o246x1 (.node o374x1 (.node o630x2 .nil .nil) .nil) (.node o502x2 .nil .nil))))) (.node o30x1 (.node o46x1 (.node o78x1 (.node o142x1 (.node o270x1 (.node o526x2 .nil .nil) .nil) (.node o398x2 (.node o654x2 .nil .nil) .nil)) (.node o206x1 (.node o334x1 (.node o590x2 .nil .nil) .nil) (.node o462x2 .nil .nil))) (.node o110x1 (.node o174x1 (.node (o302x1 P) (.node o558x2 .nil .nil) .nil) (.node o430x2 (.node o686x2 .nil .nil) .nil)) (.node o238x1 (.node o366x1 (.node o622x2 .nil .nil) .nil) (.node o494x2 .nil .nil)))) (.node o62x1 (.node o94x1 (.node o158x1 (.node o286x1 (.node o542x2 .nil .nil) .nil) (.node o414x2 (.node o670x2 .nil .nil) .nil)) (.node o222x1 (.node o350x1 (.node o606x2 .nil .nil) .nil) (.node o478x2 .nil .nil))) (.node o126x1 (.node o190x1 (.node o318x1 (.node o574x2 .nil .nil) .nil) (.node o446x2 (.node o702x2 .nil .nil) .nil)) (.node o254x1 (.node o382x1 (.node o638x2 .nil .nil) .nil) (.node o510x2 .nil .nil))))))))
def S2 (w : World) (os : OsState) : SharedT := { tree := T2 w.params, n := 706, life := life, gens := ⟨[]⟩, drawn := {}, toks := 1080, os := os }
abbrev ps2 : Pos := ⟨371, 0, 463, 17⟩
def o3x3 (P : Params) : Obj := ⟨.type "dict", none, .dict #[⟨kh P "__name__", .str "__name__" 165, .str "law_bn0016_01" 1396⟩, ⟨kh P "__doc__", .str "__doc__" 166, .none⟩, ⟨kh P "__package__", .str "__package__" 167, .none⟩, ⟨kh P "__loader__", .str "__loader__" 168, .builtin "__main__.__loader__#opaque"⟩, ⟨kh P "__spec__", .str "__spec__" 169, .none⟩, ⟨kh P "__annotations__", .str "__annotations__" 170, .ref 6⟩, ⟨kh P "__builtins__", .str "__builtins__" 171, .ref 4⟩, ⟨kh P "__file__", .str "__file__" 173, .str "/claim/cut.py" 172⟩, ⟨kh P "__cached__", .str "__cached__" 174, .none⟩, ⟨kh P "_wall", .str "_wall" 193, .ref 21⟩, ⟨kh P "PolynomialRingGeneric", .str "PolynomialRingGeneric" 256, .ref 66⟩, ⟨kh P "PolynomialGeneric", .str "PolynomialGeneric" 455, .ref 229⟩, ⟨kh P "Shake", .str "Shake" 525, .ref 278⟩, ⟨kh P "PolynomialRing", .str "PolynomialRing" 676, .ref 384⟩, ⟨kh P "Polynomial", .str "Polynomial" 844, .ref 514⟩, ⟨kh P "PolynomialNTT", .str "PolynomialNTT" 924, .ref 578⟩, ⟨kh P "MatrixGeneric", .str "MatrixGeneric" 1079, .ref 701⟩, ⟨kh P "ModuleGeneric", .str "ModuleGeneric" 1128, .ref 738⟩, ⟨kh P "Matrix", .str "Matrix" 1289, .ref 876⟩, ⟨kh P "Vector", .str "Vector" 1316, .ref 897⟩, ⟨kh P "Module", .str "Module" 1395, .ref 961⟩, ⟨kh P "_law_more", .str "_law_more" 1399, .int 271828182845904523536028747135266249775724709369995 1398⟩, ⟨kh P "_law_packed", .str "_law_packed" 1407, .ref 970⟩, ⟨kh P "_law_read", .str "_law_read" 1418, .ref 977⟩, ⟨kh P "_law_refused", .str "_law_refused" 1425, .ref 984⟩, ⟨kh P "law", .str "law" 1431, .ref 989⟩] 26, #[]⟩
def o12x3 : Obj := ⟨.none, none, .fields #[.int 1 0, .int 0 0, .ref 20, .int 5 0, .int 0 0, .ref 27, .int 26 0, .int 0 0, .ref 76, .int 151 0, .int 0 0, .ref 239, .int 180 0, .int 0 0, .ref 288, .int 261 0, .int 0 0, .ref 392, .int 333 0, .int 0 0, .ref 522, .int 371 0, .int 0 0, .ref 586, .int 464 0, .int 0 0, .ref 711, .int 487 0, .int 0 0, .ref 749, .int 539 0, .int 0 0, .ref 885, .int 543 0, .int 0 0, .ref 905, .int 603 0, .int 0 0, .ref 969, .int 613 0, .int 0 0, .ref 976, .int 623 0, .int 0 0, .ref 983, .int 629 0, .int 0 0, .ref 988], #[]⟩
def o701x3 : Obj := ⟨.type "type", none, .cls { name := "MatrixGeneric", bases := [.type "object"], mro := [.ref 701, .type "object"], ns := 700, qualname := "MatrixGeneric", hasDict := true, slotNames := [], subclasses := [.ref 876], abstract := false, collection := none, hasDel := false }, #[none, none, (some (.str "MatrixGeneric" 927)), (some (.str "MatrixGeneric" 935)), (some (.builtin "object.__new__")), (some (.bool true))]⟩
def o706x3 : Obj := ⟨.type "tuple", none, .seq #[] 0, #[]⟩
def o707x3 : Obj := ⟨.type "builtin_function_or_method", none, .fields #[.builtin "type.__prepare__", .type "type"], #[]⟩
def o708x3 (P : Params) : Obj := ⟨.type "dict", none, .dict #[⟨kh P "__module__", .str "__module__" 1087, .str "dilithium_py.modules.modules_generic" 925⟩, ⟨kh P "__qualname__", .str "__qualname__" 1089, .str "ModuleGeneric" 1088⟩, ⟨kh P "__firstlineno__", .str "__firstlineno__" 1091, .int 464 1090⟩, ⟨kh P "__init__", .str "__init__" 1099, .ref 719⟩, ⟨kh P "matrix_of", .str "matrix_of" 1108, .ref 727⟩, ⟨kh P "__call__", .str "__call__" 1119, .ref 735⟩, ⟨kh P "__static_attributes__", .str "__static_attributes__" 1121, .ref 736⟩] 7, #[]⟩
def o709x3 : Obj := ⟨.type "tuple", none, .seq #[] 0, #[]⟩
def o710x3 : Obj := ⟨.none, none, .fields #[.int 466 0, .int 4 0, .ref 718, .int 469 0, .int 4 0, .ref 726, .int 472 0, .int 4 0, .ref 734], #[]⟩
def o711x3 : Obj := ⟨.type "code", none, .fields #[.str "ModuleGeneric" 1082, .str "ModuleGeneric" 1083, .str "/claim/cut.py" 1084, .int 464 0, .int 0 0, .int 0 0, .int 0 0, .int 0 0, .ref 709, .bool false, .int 181 0, .ref 710, .none, .none, .none, .none, .int 1085 0, .int 464 0, .str "/claim/cut.py" 1086], #[]⟩
def o712x3 : Obj := ⟨.type "frame", none, .plain, #[(some (.ref 711)), (some (.ref 3)), (some (.ref 708)), none, (some (.str "dilithium_py.modules.modules_generic" 925)), none, (some (.ref 0))]⟩
def o713x3 : Obj := ⟨.type "tuple", none, .seq #[] 0, #[]⟩
def o714x3 : Obj := ⟨.none, none, .fields #[], #[]⟩
def o715x3 : Obj := ⟨.type "tuple", none, .seq #[.str "self" 1095, .str "ring" 1096] 0, #[]⟩
def o716x3 : Obj := ⟨.type "tuple", none, .seq #[] 0, #[]⟩
def o717x3 : Obj := fnO (.none) none #[] (nth (inner (nth body 12)) 0) "ModuleGeneric.__init__" 0 [] .none .none .none .none none .none .none 0
def o718x3 : Obj := ⟨.type "code", none, .fields #[.str "__init__" 1092, .str "ModuleGeneric.__init__" 1093, .str "/claim/cut.py" 1094, .int 466 0, .int 2 0, .int 0 0, .int 0 0, .int 3 0, .ref 713, .bool true, .int 181 0, .ref 714, .none, .ref 715, .ref 716, .ref 717, .int 1097 0, .int 466 0, .str "/claim/cut.py" 1098], #[]⟩
def to719x3 : Lit (fnO (.type "function") none #[] (nth (inner (nth body 12)) 0) "ModuleGeneric.__init__" 3 [] .none .none .none (.str "dilithium_py.modules.modules_generic" 925) none (.ref 718) .none 0) := ⟨_, by conv => rhs; whnf⟩
abbrev o719x3 : Obj := to719x3.1
def o720x3 : Obj := ⟨.type "tuple", none, .seq #[.bool false] 0, #[]⟩
def o721x3 : Obj := ⟨.type "tuple", none, .seq #[] 0, #[]⟩
def o722x3 : Obj := ⟨.none, none, .fields #[], #[]⟩
def o723x3 : Obj := ⟨.type "tuple", none, .seq #[.str "self" 1103, .str "data" 1104, .str "transpose" 1105] 0, #[]⟩
def o724x3 : Obj := ⟨.type "tuple", none, .seq #[] 0, #[]⟩
def o725x3 : Obj := fnO (.none) none #[] (nth (inner (nth body 12)) 1) "ModuleGeneric.matrix_of" 0 [] .none .none .none .none none .none .none 0
def o726x3 : Obj := ⟨.type "code", none, .fields #[.str "matrix_of" 1100, .str "ModuleGeneric.matrix_of" 1101, .str "/claim/cut.py" 1102, .int 469 0, .int 3 0, .int 0 0, .int 0 0, .int 3 0, .ref 721, .bool true, .int 181 0, .ref 722, .none, .ref 723, .ref 724, .ref 725, .int 1106 0, .int 469 0, .str "/claim/cut.py" 1107], #[]⟩
def to727x3 : Lit (fnO (.type "function") none #[] (nth (inner (nth body 12)) 1) "ModuleGeneric.matrix_of" 3 [] (.ref 720) .none .none (.str "dilithium_py.modules.modules_generic" 925) none (.ref 726) .none 0) := ⟨_, by conv => rhs; whnf⟩
abbrev o727x3 : Obj := to727x3.1
def o728x3 : Obj := ⟨.type "tuple", none, .seq #[.bool false] 0, #[]⟩
def o729x3 : Obj := ⟨.type "tuple", none, .seq #[] 0, #[]⟩
def o730x3 : Obj := ⟨.none, none, .fields #[], #[]⟩
def o731x3 : Obj := ⟨.type "tuple", none, .seq #[.str "self" 1112, .str "matrix_elements" 1113, .str "transpose" 1114, .str "element_list" 1115] 0, #[]⟩
def o732x3 : Obj := ⟨.type "tuple", none, .seq #[.str "self" 1116] 0, #[]⟩
def o733x3 : Obj := fnO (.none) none #[] (nth (inner (nth body 12)) 2) "ModuleGeneric.__call__" 0 [] .none .none .none .none none .none .none 0
def o734x3 : Obj := ⟨.type "code", none, .fields #[.str "__call__" 1109, .str "ModuleGeneric.__call__" 1110, .str "/claim/cut.py" 1111, .int 472 0, .int 3 0, .int 0 0, .int 0 0, .int 3 0, .ref 729, .bool true, .int 181 0, .ref 730, .none, .ref 731, .ref 732, .ref 733, .int 1117 0, .int 472 0, .str "/claim/cut.py" 1118], #[]⟩
def to735x3 : Lit (fnO (.type "function") none #[] (nth (inner (nth body 12)) 2) "ModuleGeneric.__call__" 3 [] (.ref 728) .none .none (.str "dilithium_py.modules.modules_generic" 925) none (.ref 734) .none 0) := ⟨_, by conv => rhs; whnf⟩
abbrev o735x3 : Obj := to735x3.1
def o736x3 : Obj := ⟨.type "tuple", none, .seq #[.str "ring" 1120] 0, #[]⟩
def o737x3 (P : Params) : Obj := ⟨.type "dict", none, .dict #[⟨kh P "__module__", .str "__module__" 1087, .str "dilithium_py.modules.modules_generic" 925⟩, ⟨kh P "__firstlineno__", .str "__firstlineno__" 1091, .int 464 1090⟩, ⟨kh P "__init__", .str "__init__" 1099, .ref 719⟩, ⟨kh P "matrix_of", .str "matrix_of" 1108, .ref 727⟩, ⟨kh P "__call__", .str "__call__" 1119, .ref 735⟩, ⟨kh P "__static_attributes__", .str "__static_attributes__" 1121, .ref 736⟩, ⟨kh P "__dict__", .str "__dict__" 1123, .ref 739⟩, ⟨kh P "__weakref__", .str "__weakref__" 1125, .ref 740⟩, ⟨kh P "__doc__", .str "__doc__" 1126, .none⟩] 4, #[]⟩
def o738x3 : Obj := ⟨.type "type", none, .cls { name := "ModuleGeneric", bases := [.type "object"], mro := [.ref 738, .type "object"], ns := 737, qualname := "ModuleGeneric", hasDict := true, slotNames := [], subclasses := [.ref 961], abstract := false, collection := none, hasDel := false }, #[none, none, (some (.str "ModuleGeneric" 1080)), (some (.str "ModuleGeneric" 1088)), (some (.builtin "object.__new__")), (some (.bool true))]⟩
def o739x3 : Obj := ⟨.type "getset_descriptor", none, .fields #[.str "__dict__" 1122, .ref 738, .builtin "function.__dict__", .builtin "function.__dict__#set"], #[]⟩
def o740x3 : Obj := ⟨.type "getset_descriptor", none, .fields #[.str "__weakref__" 1124, .ref 738, .builtin "ExceptionGroup.__weakref__", .none], #[]⟩
def o741x3 : Obj := ⟨.type "super", none, .fields #[.ref 738, .ref 738, .ref 738], #[]⟩
def o742x3 : Obj := ⟨.type "builtin_function_or_method", none, .fields #[.builtin "object.__init_subclass__", .ref 738], #[]⟩
def o743x3 : Obj := ⟨.type "tuple", none, .seq #[.ref 701] 0, #[]⟩
def o744x3 : Obj := ⟨.type "builtin_function_or_method", none, .fields #[.builtin "type.__prepare__", .type "type"], #[]⟩
def o745x3 (P : Params) : Obj := ⟨.type "dict", none, .dict #[⟨kh P "__module__", .str "__module__" 1138, .str "dilithium_py.modules.modules" 1129⟩, ⟨kh P "__qualname__", .str "__qualname__" 1140, .str "Matrix" 1139⟩, ⟨kh P "__firstlineno__", .str "__firstlineno__" 1142, .int 487 1141⟩, ⟨kh P "__init__", .str "__init__" 1153, .ref 759⟩, ⟨kh P "check_norm_bound", .str "check_norm_bound" 1161, .ref 766⟩, ⟨kh P "power_2_round", .str "power_2_round" 1169, .ref 773⟩, ⟨kh P "decompose", .str "decompose" 1177, .ref 780⟩, ⟨kh P "bit_pack_t1", .str "bit_pack_t1" 1184, .ref 787⟩, ⟨kh P "bit_pack_t0", .str "bit_pack_t0" 1191, .ref 794⟩, ⟨kh P "bit_pack_s", .str "bit_pack_s" 1200, .ref 801⟩, ⟨kh P "bit_pack_w", .str "bit_pack_w" 1209, .ref 808⟩, ⟨kh P "bit_pack_z", .str "bit_pack_z" 1218, .ref 815⟩, ⟨kh P "to_ntt", .str "to_ntt" 1225, .ref 822⟩, ⟨kh P "from_ntt", .str "from_ntt" 1232, .ref 829⟩, ⟨kh P "high_bits", .str "high_bits" 1241, .ref 837⟩, ⟨kh P "low_bits", .str "low_bits" 1250, .ref 845⟩, ⟨kh P "make_hint", .str "make_hint" 1259, .ref 852⟩, ⟨kh P "make_hint_optimised", .str "make_hint_optimised" 1268, .ref 859⟩, ⟨kh P "use_hint", .str "use_hint" 1277, .ref 866⟩, ⟨kh P "sum_hint", .str "sum_hint" 1284, .ref 873⟩, ⟨kh P "__static_attributes__", .str "__static_attributes__" 1285, .ref 874⟩, ⟨kh P "__classcell__", .str "__classcell__" 1286, .ref 746⟩] 22, #[]⟩
def o746x3 : Obj := ⟨.type "cell", none, .cell (some (.ref 876)), #[]⟩
def o747x3 : Obj := ⟨.type "tuple", none, .seq #[] 0, #[]⟩
def o748x3 : Obj := ⟨.none, none, .fields #[.int 489 0, .int 4 0, .ref 758, .int 492 0, .int 4 0, .ref 765, .int 495 0, .int 4 0, .ref 772, .int 498 0, .int 4 0, .ref 779, .int 501 0, .int 4 0, .ref 786, .int 504 0, .int 4 0, .ref 793, .int 507 0, .int 4 0, .ref 800, .int 510 0, .int 4 0, .ref 807, .int 513 0, .int 4 0, .ref 814, .int 516 0, .int 4 0, .ref 821, .int 519 0, .int 4 0, .ref 828, .int 522 0, .int 4 0, .ref 836, .int 525 0, .int 4 0, .ref 844, .int 528 0, .int 4 0, .ref 851, .int 531 0, .int 4 0, .ref 858, .int 534 0, .int 4 0, .ref 865, .int 537 0, .int 4 0, .ref 872], #[]⟩
def o749x3 : Obj := ⟨.type "code", none, .fields #[.str "Matrix" 1133, .str "Matrix" 1134, .str "/claim/cut.py" 1135, .int 487 0, .int 0 0, .int 0 0, .int 0 0, .int 0 0, .ref 747, .bool false, .int 181 0, .ref 748, .none, .none, .none, .none, .int 1136 0, .int 487 0, .str "/claim/cut.py" 1137], #[]⟩
def o750x3 : Obj := ⟨.type "frame", none, .plain, #[(some (.ref 749)), (some (.ref 3)), (some (.ref 745)), none, (some (.str "dilithium_py.modules.modules" 1129)), none, (some (.ref 0))]⟩
def o751x3 : Obj := ⟨.type "tuple", none, .seq #[.bool false] 0, #[]⟩
def o752x3 : Obj := ⟨.type "tuple", none, .seq #[.ref 746] 0, #[]⟩
def o753x3 : Obj := ⟨.type "tuple", none, .seq #[.str "__class__" 1146] 0, #[]⟩
def o754x3 : Obj := ⟨.none, none, .fields #[], #[]⟩
def o755x3 : Obj := ⟨.type "tuple", none, .seq #[.str "self" 1147, .str "parent" 1148, .str "matrix_data" 1149, .str "transpose" 1150] 0, #[]⟩
def o756x3 : Obj := ⟨.type "tuple", none, .seq #[] 0, #[]⟩
def o757x3 : Obj := fnO (.none) none #[] (nth (inner (nth body 14)) 0) "Matrix.__init__" 0 [] .none .none .none .none none .none .none 0
def o758x3 : Obj := ⟨.type "code", none, .fields #[.str "__init__" 1143, .str "Matrix.__init__" 1144, .str "/claim/cut.py" 1145, .int 489 0, .int 4 0, .int 0 0, .int 0 0, .int 3 0, .ref 753, .bool true, .int 181 0, .ref 754, .none, .ref 755, .ref 756, .ref 757, .int 1151 0, .int 489 0, .str "/claim/cut.py" 1152], #[]⟩
def to759x3 : Lit (fnO (.type "function") none #[] (nth (inner (nth body 14)) 0) "Matrix.__init__" 3 [("__class__", 746)] (.ref 751) .none .none (.str "dilithium_py.modules.modules" 1129) none (.ref 758) (.ref 752) 0) := ⟨_, by conv => rhs; whnf⟩
abbrev o759x3 : Obj := to759x3.1
def o760x3 : Obj := ⟨.type "tuple", none, .seq #[] 0, #[]⟩
def o761x3 : Obj := ⟨.none, none, .fields #[], #[]⟩
def o762x3 : Obj := ⟨.type "tuple", none, .seq #[.str "self" 1157, .str "bound" 1158] 0, #[]⟩
def o763x3 : Obj := ⟨.type "tuple", none, .seq #[] 0, #[]⟩
def o764x3 : Obj := fnO (.none) none #[] (nth (inner (nth body 14)) 1) "Matrix.check_norm_bound" 0 [] .none .none .none .none none .none .none 0
def o765x3 : Obj := ⟨.type "code", none, .fields #[.str "check_norm_bound" 1154, .str "Matrix.check_norm_bound" 1155, .str "/claim/cut.py" 1156, .int 492 0, .int 2 0, .int 0 0, .int 0 0, .int 3 0, .ref 760, .bool true, .int 181 0, .ref 761, .none, .ref 762, .ref 763, .ref 764, .int 1159 0, .int 492 0, .str "/claim/cut.py" 1160], #[]⟩
def to766x3 : Lit (fnO (.type "function") none #[] (nth (inner (nth body 14)) 1) "Matrix.check_norm_bound" 3 [] .none .none .none (.str "dilithium_py.modules.modules" 1129) none (.ref 765) .none 0) := ⟨_, by conv => rhs; whnf⟩
abbrev o766x3 : Obj := to766x3.1
def o767x3 : Obj := ⟨.type "tuple", none, .seq #[] 0, #[]⟩
def o768x3 : Obj := ⟨.none, none, .fields #[], #[]⟩
def o769x3 : Obj := ⟨.type "tuple", none, .seq #[.str "self" 1165, .str "d" 1166] 0, #[]⟩
def o770x3 : Obj := ⟨.type "tuple", none, .seq #[] 0, #[]⟩
def o771x3 : Obj := fnO (.none) none #[] (nth (inner (nth body 14)) 2) "Matrix.power_2_round" 0 [] .none .none .none .none none .none .none 0
def o772x3 : Obj := ⟨.type "code", none, .fields #[.str "power_2_round" 1162, .str "Matrix.power_2_round" 1163, .str "/claim/cut.py" 1164, .int 495 0, .int 2 0, .int 0 0, .int 0 0, .int 3 0, .ref 767, .bool true, .int 181 0, .ref 768, .none, .ref 769, .ref 770, .ref 771, .int 1167 0, .int 495 0, .str "/claim/cut.py" 1168], #[]⟩
def to773x3 : Lit (fnO (.type "function") none #[] (nth (inner (nth body 14)) 2) "Matrix.power_2_round" 3 [] .none .none .none (.str "dilithium_py.modules.modules" 1129) none (.ref 772) .none 0) := ⟨_, by conv => rhs; whnf⟩
abbrev o773x3 : Obj := to773x3.1
def o774x3 : Obj := ⟨.type "tuple", none, .seq #[] 0, #[]⟩
def o775x3 : Obj := ⟨.none, none, .fields #[], #[]⟩
def o776x3 : Obj := ⟨.type "tuple", none, .seq #[.str "self" 1173, .str "alpha" 1174] 0, #[]⟩
def o777x3 : Obj := ⟨.type "tuple", none, .seq #[] 0, #[]⟩
def o778x3 : Obj := fnO (.none) none #[] (nth (inner (nth body 14)) 3) "Matrix.decompose" 0 [] .none .none .none .none none .none .none 0
def o779x3 : Obj := ⟨.type "code", none, .fields #[.str "decompose" 1170, .str "Matrix.decompose" 1171, .str "/claim/cut.py" 1172, .int 498 0, .int 2 0, .int 0 0, .int 0 0, .int 3 0, .ref 774, .bool true, .int 181 0, .ref 775, .none, .ref 776, .ref 777, .ref 778, .int 1175 0, .int 498 0, .str "/claim/cut.py" 1176], #[]⟩
def to780x3 : Lit (fnO (.type "function") none #[] (nth (inner (nth body 14)) 3) "Matrix.decompose" 3 [] .none .none .none (.str "dilithium_py.modules.modules" 1129) none (.ref 779) .none 0) := ⟨_, by conv => rhs; whnf⟩
abbrev o780x3 : Obj := to780x3.1
def o781x3 : Obj := ⟨.type "tuple", none, .seq #[] 0, #[]⟩
def o782x3 : Obj := ⟨.none, none, .fields #[], #[]⟩
def o783x3 : Obj := ⟨.type "tuple", none, .seq #[.str "self" 1181] 0, #[]⟩
def o784x3 : Obj := ⟨.type "tuple", none, .seq #[] 0, #[]⟩
def o785x3 : Obj := fnO (.none) none #[] (nth (inner (nth body 14)) 4) "Matrix.bit_pack_t1" 0 [] .none .none .none .none none .none .none 0
def o786x3 : Obj := ⟨.type "code", none, .fields #[.str "bit_pack_t1" 1178, .str "Matrix.bit_pack_t1" 1179, .str "/claim/cut.py" 1180, .int 501 0, .int 1 0, .int 0 0, .int 0 0, .int 3 0, .ref 781, .bool true, .int 181 0, .ref 782, .none, .ref 783, .ref 784, .ref 785, .int 1182 0, .int 501 0, .str "/claim/cut.py" 1183], #[]⟩
def to787x3 : Lit (fnO (.type "function") none #[] (nth (inner (nth body 14)) 4) "Matrix.bit_pack_t1" 3 [] .none .none .none (.str "dilithium_py.modules.modules" 1129) none (.ref 786) .none 0) := ⟨_, by conv => rhs; whnf⟩
abbrev o787x3 : Obj := to787x3.1
def o788x3 : Obj := ⟨.type "tuple", none, .seq #[] 0, #[]⟩
def o789x3 : Obj := ⟨.none, none, .fields #[], #[]⟩
def o790x3 : Obj := ⟨.type "tuple", none, .seq #[.str "self" 1188] 0, #[]⟩
def o791x3 : Obj := ⟨.type "tuple", none, .seq #[] 0, #[]⟩
def o792x3 : Obj := fnO (.none) none #[] (nth (inner (nth body 14)) 5) "Matrix.bit_pack_t0" 0 [] .none .none .none .none none .none .none 0
def o793x3 : Obj := ⟨.type "code", none, .fields #[.str "bit_pack_t0" 1185, .str "Matrix.bit_pack_t0" 1186, .str "/claim/cut.py" 1187, .int 504 0, .int 1 0, .int 0 0, .int 0 0, .int 3 0, .ref 788, .bool true, .int 181 0, .ref 789, .none, .ref 790, .ref 791, .ref 792, .int 1189 0, .int 504 0, .str "/claim/cut.py" 1190], #[]⟩
def to794x3 : Lit (fnO (.type "function") none #[] (nth (inner (nth body 14)) 5) "Matrix.bit_pack_t0" 3 [] .none .none .none (.str "dilithium_py.modules.modules" 1129) none (.ref 793) .none 0) := ⟨_, by conv => rhs; whnf⟩
abbrev o794x3 : Obj := to794x3.1
def o795x3 : Obj := ⟨.type "tuple", none, .seq #[] 0, #[]⟩
def o796x3 : Obj := ⟨.none, none, .fields #[], #[]⟩
def o797x3 : Obj := ⟨.type "tuple", none, .seq #[.str "self" 1195, .str "eta" 1196] 0, #[]⟩
def o798x3 : Obj := ⟨.type "tuple", none, .seq #[.str "eta" 1197] 0, #[]⟩
def o799x3 : Obj := fnO (.none) none #[] (nth (inner (nth body 14)) 6) "Matrix.bit_pack_s" 0 [] .none .none .none .none none .none .none 0
def o800x3 : Obj := ⟨.type "code", none, .fields #[.str "bit_pack_s" 1192, .str "Matrix.bit_pack_s" 1193, .str "/claim/cut.py" 1194, .int 507 0, .int 2 0, .int 0 0, .int 0 0, .int 3 0, .ref 795, .bool true, .int 181 0, .ref 796, .none, .ref 797, .ref 798, .ref 799, .int 1198 0, .int 507 0, .str "/claim/cut.py" 1199], #[]⟩
def to801x3 : Lit (fnO (.type "function") none #[] (nth (inner (nth body 14)) 6) "Matrix.bit_pack_s" 3 [] .none .none .none (.str "dilithium_py.modules.modules" 1129) none (.ref 800) .none 0) := ⟨_, by conv => rhs; whnf⟩
abbrev o801x3 : Obj := to801x3.1
def o802x3 : Obj := ⟨.type "tuple", none, .seq #[] 0, #[]⟩
def o803x3 : Obj := ⟨.none, none, .fields #[], #[]⟩
def o804x3 : Obj := ⟨.type "tuple", none, .seq #[.str "self" 1204, .str "gamma_2" 1205] 0, #[]⟩
def o805x3 : Obj := ⟨.type "tuple", none, .seq #[.str "gamma_2" 1206] 0, #[]⟩
def o806x3 : Obj := fnO (.none) none #[] (nth (inner (nth body 14)) 7) "Matrix.bit_pack_w" 0 [] .none .none .none .none none .none .none 0
def o807x3 : Obj := ⟨.type "code", none, .fields #[.str "bit_pack_w" 1201, .str "Matrix.bit_pack_w" 1202, .str "/claim/cut.py" 1203, .int 510 0, .int 2 0, .int 0 0, .int 0 0, .int 3 0, .ref 802, .bool true, .int 181 0, .ref 803, .none, .ref 804, .ref 805, .ref 806, .int 1207 0, .int 510 0, .str "/claim/cut.py" 1208], #[]⟩
def to808x3 : Lit (fnO (.type "function") none #[] (nth (inner (nth body 14)) 7) "Matrix.bit_pack_w" 3 [] .none .none .none (.str "dilithium_py.modules.modules" 1129) none (.ref 807) .none 0) := ⟨_, by conv => rhs; whnf⟩
abbrev o808x3 : Obj := to808x3.1
def o809x3 : Obj := ⟨.type "tuple", none, .seq #[] 0, #[]⟩
def o810x3 : Obj := ⟨.none, none, .fields #[], #[]⟩
def o811x3 : Obj := ⟨.type "tuple", none, .seq #[.str "self" 1213, .str "gamma_1" 1214] 0, #[]⟩
def o812x3 : Obj := ⟨.type "tuple", none, .seq #[.str "gamma_1" 1215] 0, #[]⟩
def o813x3 : Obj := fnO (.none) none #[] (nth (inner (nth body 14)) 8) "Matrix.bit_pack_z" 0 [] .none .none .none .none none .none .none 0
def o814x3 : Obj := ⟨.type "code", none, .fields #[.str "bit_pack_z" 1210, .str "Matrix.bit_pack_z" 1211, .str "/claim/cut.py" 1212, .int 513 0, .int 2 0, .int 0 0, .int 0 0, .int 3 0, .ref 809, .bool true, .int 181 0, .ref 810, .none, .ref 811, .ref 812, .ref 813, .int 1216 0, .int 513 0, .str "/claim/cut.py" 1217], #[]⟩
def to815x3 : Lit (fnO (.type "function") none #[] (nth (inner (nth body 14)) 8) "Matrix.bit_pack_z" 3 [] .none .none .none (.str "dilithium_py.modules.modules" 1129) none (.ref 814) .none 0) := ⟨_, by conv => rhs; whnf⟩
abbrev o815x3 : Obj := to815x3.1
def o816x3 : Obj := ⟨.type "tuple", none, .seq #[] 0, #[]⟩
def o817x3 : Obj := ⟨.none, none, .fields #[], #[]⟩
def o818x3 : Obj := ⟨.type "tuple", none, .seq #[.str "self" 1222] 0, #[]⟩
def o819x3 : Obj := ⟨.type "tuple", none, .seq #[] 0, #[]⟩
def o820x3 : Obj := fnO (.none) none #[] (nth (inner (nth body 14)) 9) "Matrix.to_ntt" 0 [] .none .none .none .none none .none .none 0
def o821x3 : Obj := ⟨.type "code", none, .fields #[.str "to_ntt" 1219, .str "Matrix.to_ntt" 1220, .str "/claim/cut.py" 1221, .int 516 0, .int 1 0, .int 0 0, .int 0 0, .int 3 0, .ref 816, .bool true, .int 181 0, .ref 817, .none, .ref 818, .ref 819, .ref 820, .int 1223 0, .int 516 0, .str "/claim/cut.py" 1224], #[]⟩
def to822x3 : Lit (fnO (.type "function") none #[] (nth (inner (nth body 14)) 9) "Matrix.to_ntt" 3 [] .none .none .none (.str "dilithium_py.modules.modules" 1129) none (.ref 821) .none 0) := ⟨_, by conv => rhs; whnf⟩
abbrev o822x3 : Obj := to822x3.1
def o823x3 : Obj := ⟨.type "tuple", none, .seq #[] 0, #[]⟩
def o824x3 : Obj := ⟨.none, none, .fields #[], #[]⟩
def o825x3 : Obj := ⟨.type "tuple", none, .seq #[.str "self" 1229] 0, #[]⟩
def o826x3 : Obj := ⟨.type "tuple", none, .seq #[] 0, #[]⟩
def o827x3 : Obj := fnO (.none) none #[] (nth (inner (nth body 14)) 10) "Matrix.from_ntt" 0 [] .none .none .none .none none .none .none 0
def o828x3 : Obj := ⟨.type "code", none, .fields #[.str "from_ntt" 1226, .str "Matrix.from_ntt" 1227, .str "/claim/cut.py" 1228, .int 519 0, .int 1 0, .int 0 0, .int 0 0, .int 3 0, .ref 823, .bool true, .int 181 0, .ref 824, .none, .ref 825, .ref 826, .ref 827, .int 1230 0, .int 519 0, .str "/claim/cut.py" 1231], #[]⟩
def to829x3 : Lit (fnO (.type "function") none #[] (nth (inner (nth body 14)) 10) "Matrix.from_ntt" 3 [] .none .none .none (.str "dilithium_py.modules.modules" 1129) none (.ref 828) .none 0) := ⟨_, by conv => rhs; whnf⟩
abbrev o829x3 : Obj := to829x3.1
def o830x3 : Obj := ⟨.type "tuple", none, .seq #[.bool false] 0, #[]⟩
def o831x3 : Obj := ⟨.type "tuple", none, .seq #[] 0, #[]⟩
def o832x3 : Obj := ⟨.none, none, .fields #[], #[]⟩
def o833x3 : Obj := ⟨.type "tuple", none, .seq #[.str "self" 1236, .str "alpha" 1237, .str "is_ntt" 1238] 0, #[]⟩
def o834x3 : Obj := ⟨.type "tuple", none, .seq #[] 0, #[]⟩
def o835x3 : Obj := fnO (.none) none #[] (nth (inner (nth body 14)) 11) "Matrix.high_bits" 0 [] .none .none .none .none none .none .none 0
def o836x3 : Obj := ⟨.type "code", none, .fields #[.str "high_bits" 1233, .str "Matrix.high_bits" 1234, .str "/claim/cut.py" 1235, .int 522 0, .int 3 0, .int 0 0, .int 0 0, .int 3 0, .ref 831, .bool true, .int 181 0, .ref 832, .none, .ref 833, .ref 834, .ref 835, .int 1239 0, .int 522 0, .str "/claim/cut.py" 1240], #[]⟩
def to837x3 : Lit (fnO (.type "function") none #[] (nth (inner (nth body 14)) 11) "Matrix.high_bits" 3 [] (.ref 830) .none .none (.str "dilithium_py.modules.modules" 1129) none (.ref 836) .none 0) := ⟨_, by conv => rhs; whnf⟩
abbrev o837x3 : Obj := to837x3.1
def o838x3 : Obj := ⟨.type "tuple", none, .seq #[.bool false] 0, #[]⟩
def o839x3 : Obj := ⟨.type "tuple", none, .seq #[] 0, #[]⟩
def o840x3 : Obj := ⟨.none, none, .fields #[], #[]⟩
def o841x3 : Obj := ⟨.type "tuple", none, .seq #[.str "self" 1245, .str "alpha" 1246, .str "is_ntt" 1247] 0, #[]⟩
def o842x3 : Obj := ⟨.type "tuple", none, .seq #[] 0, #[]⟩
def o843x3 : Obj := fnO (.none) none #[] (nth (inner (nth body 14)) 12) "Matrix.low_bits" 0 [] .none .none .none .none none .none .none 0
def o844x3 : Obj := ⟨.type "code", none, .fields #[.str "low_bits" 1242, .str "Matrix.low_bits" 1243, .str "/claim/cut.py" 1244, .int 525 0, .int 3 0, .int 0 0, .int 0 0, .int 3 0, .ref 839, .bool true, .int 181 0, .ref 840, .none, .ref 841, .ref 842, .ref 843, .int 1248 0, .int 525 0, .str "/claim/cut.py" 1249], #[]⟩
def to845x3 : Lit (fnO (.type "function") none #[] (nth (inner (nth body 14)) 12) "Matrix.low_bits" 3 [] (.ref 838) .none .none (.str "dilithium_py.modules.modules" 1129) none (.ref 844) .none 0) := ⟨_, by conv => rhs; whnf⟩
abbrev o845x3 : Obj := to845x3.1
def o846x3 : Obj := ⟨.type "tuple", none, .seq #[] 0, #[]⟩
def o847x3 : Obj := ⟨.none, none, .fields #[], #[]⟩
def o848x3 : Obj := ⟨.type "tuple", none, .seq #[.str "self" 1254, .str "other" 1255, .str "alpha" 1256] 0, #[]⟩
def o849x3 : Obj := ⟨.type "tuple", none, .seq #[] 0, #[]⟩
def o850x3 : Obj := fnO (.none) none #[] (nth (inner (nth body 14)) 13) "Matrix.make_hint" 0 [] .none .none .none .none none .none .none 0
def o851x3 : Obj := ⟨.type "code", none, .fields #[.str "make_hint" 1251, .str "Matrix.make_hint" 1252, .str "/claim/cut.py" 1253, .int 528 0, .int 3 0, .int 0 0, .int 0 0, .int 3 0, .ref 846, .bool true, .int 181 0, .ref 847, .none, .ref 848, .ref 849, .ref 850, .int 1257 0, .int 528 0, .str "/claim/cut.py" 1258], #[]⟩
def to852x3 : Lit (fnO (.type "function") none #[] (nth (inner (nth body 14)) 13) "Matrix.make_hint" 3 [] .none .none .none (.str "dilithium_py.modules.modules" 1129) none (.ref 851) .none 0) := ⟨_, by conv => rhs; whnf⟩
abbrev o852x3 : Obj := to852x3.1
def o853x3 : Obj := ⟨.type "tuple", none, .seq #[] 0, #[]⟩
def o854x3 : Obj := ⟨.none, none, .fields #[], #[]⟩
def o855x3 : Obj := ⟨.type "tuple", none, .seq #[.str "self" 1263, .str "other" 1264, .str "alpha" 1265] 0, #[]⟩
def o856x3 : Obj := ⟨.type "tuple", none, .seq #[] 0, #[]⟩
def o857x3 : Obj := fnO (.none) none #[] (nth (inner (nth body 14)) 14) "Matrix.make_hint_optimised" 0 [] .none .none .none .none none .none .none 0
def o858x3 : Obj := ⟨.type "code", none, .fields #[.str "make_hint_optimised" 1260, .str "Matrix.make_hint_optimised" 1261, .str "/claim/cut.py" 1262, .int 531 0, .int 3 0, .int 0 0, .int 0 0, .int 3 0, .ref 853, .bool true, .int 181 0, .ref 854, .none, .ref 855, .ref 856, .ref 857, .int 1266 0, .int 531 0, .str "/claim/cut.py" 1267], #[]⟩
def to859x3 : Lit (fnO (.type "function") none #[] (nth (inner (nth body 14)) 14) "Matrix.make_hint_optimised" 3 [] .none .none .none (.str "dilithium_py.modules.modules" 1129) none (.ref 858) .none 0) := ⟨_, by conv => rhs; whnf⟩
abbrev o859x3 : Obj := to859x3.1
def o860x3 : Obj := ⟨.type "tuple", none, .seq #[] 0, #[]⟩
def o861x3 : Obj := ⟨.none, none, .fields #[], #[]⟩
def o862x3 : Obj := ⟨.type "tuple", none, .seq #[.str "self" 1272, .str "other" 1273, .str "alpha" 1274] 0, #[]⟩
def o863x3 : Obj := ⟨.type "tuple", none, .seq #[] 0, #[]⟩
def o864x3 : Obj := fnO (.none) none #[] (nth (inner (nth body 14)) 15) "Matrix.use_hint" 0 [] .none .none .none .none none .none .none 0
def o865x3 : Obj := ⟨.type "code", none, .fields #[.str "use_hint" 1269, .str "Matrix.use_hint" 1270, .str "/claim/cut.py" 1271, .int 534 0, .int 3 0, .int 0 0, .int 0 0, .int 3 0, .ref 860, .bool true, .int 181 0, .ref 861, .none, .ref 862, .ref 863, .ref 864, .int 1275 0, .int 534 0, .str "/claim/cut.py" 1276], #[]⟩
def to866x3 : Lit (fnO (.type "function") none #[] (nth (inner (nth body 14)) 15) "Matrix.use_hint" 3 [] .none .none .none (.str "dilithium_py.modules.modules" 1129) none (.ref 865) .none 0) := ⟨_, by conv => rhs; whnf⟩
abbrev o866x3 : Obj := to866x3.1
def o867x3 : Obj := ⟨.type "tuple", none, .seq #[] 0, #[]⟩
def o868x3 : Obj := ⟨.none, none, .fields #[], #[]⟩
def o869x3 : Obj := ⟨.type "tuple", none, .seq #[.str "self" 1281] 0, #[]⟩
def o870x3 : Obj := ⟨.type "tuple", none, .seq #[] 0, #[]⟩
def o871x3 : Obj := fnO (.none) none #[] (nth (inner (nth body 14)) 16) "Matrix.sum_hint" 0 [] .none .none .none .none none .none .none 0
def o872x3 : Obj := ⟨.type "code", none, .fields #[.str "sum_hint" 1278, .str "Matrix.sum_hint" 1279, .str "/claim/cut.py" 1280, .int 537 0, .int 1 0, .int 0 0, .int 0 0, .int 3 0, .ref 867, .bool true, .int 181 0, .ref 868, .none, .ref 869, .ref 870, .ref 871, .int 1282 0, .int 537 0, .str "/claim/cut.py" 1283], #[]⟩
def to873x3 : Lit (fnO (.type "function") none #[] (nth (inner (nth body 14)) 16) "Matrix.sum_hint" 3 [] .none .none .none (.str "dilithium_py.modules.modules" 1129) none (.ref 872) .none 0) := ⟨_, by conv => rhs; whnf⟩
abbrev o873x3 : Obj := to873x3.1
def o874x3 : Obj := ⟨.type "tuple", none, .seq #[] 0, #[]⟩
def o875x3 (P : Params) : Obj := ⟨.type "dict", none, .dict #[⟨kh P "__module__", .str "__module__" 1138, .str "dilithium_py.modules.modules" 1129⟩, ⟨kh P "__firstlineno__", .str "__firstlineno__" 1142, .int 487 1141⟩, ⟨kh P "__init__", .str "__init__" 1153, .ref 759⟩, ⟨kh P "check_norm_bound", .str "check_norm_bound" 1161, .ref 766⟩, ⟨kh P "power_2_round", .str "power_2_round" 1169, .ref 773⟩, ⟨kh P "decompose", .str "decompose" 1177, .ref 780⟩, ⟨kh P "bit_pack_t1", .str "bit_pack_t1" 1184, .ref 787⟩, ⟨kh P "bit_pack_t0", .str "bit_pack_t0" 1191, .ref 794⟩, ⟨kh P "bit_pack_s", .str "bit_pack_s" 1200, .ref 801⟩, ⟨kh P "bit_pack_w", .str "bit_pack_w" 1209, .ref 808⟩, ⟨kh P "bit_pack_z", .str "bit_pack_z" 1218, .ref 815⟩, ⟨kh P "to_ntt", .str "to_ntt" 1225, .ref 822⟩, ⟨kh P "from_ntt", .str "from_ntt" 1232, .ref 829⟩, ⟨kh P "high_bits", .str "high_bits" 1241, .ref 837⟩, ⟨kh P "low_bits", .str "low_bits" 1250, .ref 845⟩, ⟨kh P "make_hint", .str "make_hint" 1259, .ref 852⟩, ⟨kh P "make_hint_optimised", .str "make_hint_optimised" 1268, .ref 859⟩, ⟨kh P "use_hint", .str "use_hint" 1277, .ref 866⟩, ⟨kh P "sum_hint", .str "sum_hint" 1284, .ref 873⟩, ⟨kh P "__static_attributes__", .str "__static_attributes__" 1285, .ref 874⟩, ⟨kh P "__doc__", .str "__doc__" 1287, .none⟩] 3, #[]⟩
def o876x3 : Obj := ⟨.type "type", none, .cls { name := "Matrix", bases := [.ref 701], mro := [.ref 876, .ref 701, .type "object"], ns := 875, qualname := "Matrix", hasDict := true, slotNames := [], subclasses := [.ref 897], abstract := false, collection := none, hasDel := false }, #[(some (.ref 743)), none, (some (.str "Matrix" 1131)), (some (.str "Matrix" 1139)), (some (.builtin "object.__new__")), (some (.bool true))]⟩
def o877x3 : Obj := ⟨.type "super", none, .fields #[.ref 876, .ref 876, .ref 876], #[]⟩
def o878x3 : Obj := ⟨.type "builtin_function_or_method", none, .fields #[.builtin "object.__init_subclass__", .ref 876], #[]⟩
def o879x3 : Obj := ⟨.type "tuple", none, .seq #[.ref 876] 0, #[]⟩
def o880x3 : Obj := ⟨.type "builtin_function_or_method", none, .fields #[.builtin "type.__prepare__", .type "type"], #[]⟩
def o881x3 (P : Params) : Obj := ⟨.type "dict", none, .dict #[⟨kh P "__module__", .str "__module__" 1297, .str "dilithium_py.modules.modules" 1129⟩, ⟨kh P "__qualname__", .str "__qualname__" 1299, .str "Vector" 1298⟩, ⟨kh P "__firstlineno__", .str "__firstlineno__" 1301, .int 539 1300⟩, ⟨kh P "__init__", .str "__init__" 1311, .ref 894⟩, ⟨kh P "__static_attributes__", .str "__static_attributes__" 1312, .ref 895⟩, ⟨kh P "__classcell__", .str "__classcell__" 1313, .ref 882⟩] 6, #[]⟩
def o882x3 : Obj := ⟨.type "cell", none, .cell (some (.ref 897)), #[]⟩
def o883x3 : Obj := ⟨.type "tuple", none, .seq #[] 0, #[]⟩
def o884x3 : Obj := ⟨.none, none, .fields #[.int 541 0, .int 4 0, .ref 893], #[]⟩
def o885x3 : Obj := ⟨.type "code", none, .fields #[.str "Vector" 1292, .str "Vector" 1293, .str "/claim/cut.py" 1294, .int 539 0, .int 0 0, .int 0 0, .int 0 0, .int 0 0, .ref 883, .bool false, .int 181 0, .ref 884, .none, .none, .none, .none, .int 1295 0, .int 539 0, .str "/claim/cut.py" 1296], #[]⟩
def o886x3 : Obj := ⟨.type "frame", none, .plain, #[(some (.ref 885)), (some (.ref 3)), (some (.ref 881)), none, (some (.str "dilithium_py.modules.modules" 1129)), none, (some (.ref 0))]⟩
def o887x3 : Obj := ⟨.type "tuple", none, .seq #[.ref 882] 0, #[]⟩
def o888x3 : Obj := ⟨.type "tuple", none, .seq #[.str "__class__" 1305] 0, #[]⟩
def o889x3 : Obj := ⟨.none, none, .fields #[], #[]⟩
def o890x3 : Obj := ⟨.type "tuple", none, .seq #[.str "self" 1306, .str "parent" 1307, .str "vector_elements" 1308] 0, #[]⟩
def o891x3 : Obj := ⟨.type "tuple", none, .seq #[] 0, #[]⟩
def o892x3 : Obj := fnO (.none) none #[] (nth (inner (nth body 15)) 0) "Vector.__init__" 0 [] .none .none .none .none none .none .none 0
def o893x3 : Obj := ⟨.type "code", none, .fields #[.str "__init__" 1302, .str "Vector.__init__" 1303, .str "/claim/cut.py" 1304, .int 541 0, .int 3 0, .int 0 0, .int 0 0, .int 3 0, .ref 888, .bool true, .int 181 0, .ref 889, .none, .ref 890, .ref 891, .ref 892, .int 1309 0, .int 541 0, .str "/claim/cut.py" 1310], #[]⟩
def to894x3 : Lit (fnO (.type "function") none #[] (nth (inner (nth body 15)) 0) "Vector.__init__" 3 [("__class__", 882)] .none .none .none (.str "dilithium_py.modules.modules" 1129) none (.ref 893) (.ref 887) 0) := ⟨_, by conv => rhs; whnf⟩
abbrev o894x3 : Obj := to894x3.1
def o895x3 : Obj := ⟨.type "tuple", none, .seq #[] 0, #[]⟩
def o896x3 (P : Params) : Obj := ⟨.type "dict", none, .dict #[⟨kh P "__module__", .str "__module__" 1297, .str "dilithium_py.modules.modules" 1129⟩, ⟨kh P "__firstlineno__", .str "__firstlineno__" 1301, .int 539 1300⟩, ⟨kh P "__init__", .str "__init__" 1311, .ref 894⟩, ⟨kh P "__static_attributes__", .str "__static_attributes__" 1312, .ref 895⟩, ⟨kh P "__doc__", .str "__doc__" 1314, .none⟩] 3, #[]⟩
def o897x3 : Obj := ⟨.type "type", none, .cls { name := "Vector", bases := [.ref 876], mro := [.ref 897, .ref 876, .ref 701, .type "object"], ns := 896, qualname := "Vector", hasDict := true, slotNames := [], subclasses := [], abstract := false, collection := none, hasDel := false }, #[(some (.ref 879)), none, (some (.str "Vector" 1290)), (some (.str "Vector" 1298)), (some (.builtin "object.__new__")), (some (.bool true))]⟩
def o898x3 : Obj := ⟨.type "super", none, .fields #[.ref 897, .ref 897, .ref 897], #[]⟩
def o899x3 : Obj := ⟨.type "builtin_function_or_method", none, .fields #[.builtin "object.__init_subclass__", .ref 897], #[]⟩
def o900x3 : Obj := ⟨.type "tuple", none, .seq #[.ref 738] 0, #[]⟩
def o901x3 : Obj := ⟨.type "builtin_function_or_method", none, .fields #[.builtin "type.__prepare__", .type "type"], #[]⟩
def o902x3 (P : Params) : Obj := ⟨.type "dict", none, .dict #[⟨kh P "__module__", .str "__module__" 1324, .str "dilithium_py.modules.modules" 1129⟩, ⟨kh P "__qualname__", .str "__qualname__" 1326, .str "Module" 1325⟩, ⟨kh P "__firstlineno__", .str "__firstlineno__" 1328, .int 543 1327⟩, ⟨kh P "__init__", .str "__init__" 1337, .ref 913⟩, ⟨kh P "matrix_of", .str "matrix_of" 1346, .ref 921⟩, ⟨kh P "vector", .str "vector" 1354, .ref 928⟩, ⟨kh P "_bit_unpack", .str "_bit_unpack" 1360, .ref 933⟩, ⟨kh P "bit_unpack_t0", .str "bit_unpack_t0" 1366, .ref 938⟩, ⟨kh P "bit_unpack_t1", .str "bit_unpack_t1" 1372, .ref 943⟩, ⟨kh P "bit_unpack_s", .str "bit_unpack_s" 1378, .ref 948⟩, ⟨kh P "bit_unpack_w", .str "bit_unpack_w" 1384, .ref 953⟩, ⟨kh P "bit_unpack_z", .str "bit_unpack_z" 1390, .ref 958⟩, ⟨kh P "__static_attributes__", .str "__static_attributes__" 1392, .ref 959⟩] 13, #[]⟩
def o903x3 : Obj := ⟨.type "tuple", none, .seq #[] 0, #[]⟩
def o904x3 : Obj := ⟨.none, none, .fields #[.int 545 0, .int 4 0, .ref 912, .int 548 0, .int 4 0, .ref 920, .int 551 0, .int 4 0, .ref 927, .int 554 0, .int 4 0, .ref 932, .int 557 0, .int 4 0, .ref 937, .int 563 0, .int 4 0, .ref 942, .int 569 0, .int 4 0, .ref 947, .int 580 0, .int 4 0, .ref 952, .int 591 0, .int 4 0, .ref 957], #[]⟩
def o905x3 : Obj := ⟨.type "code", none, .fields #[.str "Module" 1319, .str "Module" 1320, .str "/claim/cut.py" 1321, .int 543 0, .int 0 0, .int 0 0, .int 0 0, .int 0 0, .ref 903, .bool false, .int 181 0, .ref 904, .none, .none, .none, .none, .int 1322 0, .int 543 0, .str "/claim/cut.py" 1323], #[]⟩
def o906x3 : Obj := ⟨.type "frame", none, .plain, #[(some (.ref 905)), (some (.ref 3)), (some (.ref 902)), none, (some (.str "dilithium_py.modules.modules" 1129)), none, (some (.ref 0))]⟩
def o907x3 : Obj := ⟨.type "tuple", none, .seq #[] 0, #[]⟩
def o908x3 : Obj := ⟨.none, none, .fields #[], #[]⟩
def o909x3 : Obj := ⟨.type "tuple", none, .seq #[.str "self" 1332, .str "shake_128" 1333, .str "shake_256" 1334] 0, #[]⟩
def o910x3 : Obj := ⟨.type "tuple", none, .seq #[] 0, #[]⟩
def o911x3 : Obj := fnO (.none) none #[] (nth (inner (nth body 16)) 0) "Module.__init__" 0 [] .none .none .none .none none .none .none 0
def o912x3 : Obj := ⟨.type "code", none, .fields #[.str "__init__" 1329, .str "Module.__init__" 1330, .str "/claim/cut.py" 1331, .int 545 0, .int 3 0, .int 0 0, .int 0 0, .int 3 0, .ref 907, .bool true, .int 181 0, .ref 908, .none, .ref 909, .ref 910, .ref 911, .int 1335 0, .int 545 0, .str "/claim/cut.py" 1336], #[]⟩
def to913x3 : Lit (fnO (.type "function") none #[] (nth (inner (nth body 16)) 0) "Module.__init__" 3 [] .none .none .none (.str "dilithium_py.modules.modules" 1129) none (.ref 912) .none 0) := ⟨_, by conv => rhs; whnf⟩
abbrev o913x3 : Obj := to913x3.1
def o914x3 : Obj := ⟨.type "tuple", none, .seq #[.bool false] 0, #[]⟩
def o915x3 : Obj := ⟨.type "tuple", none, .seq #[] 0, #[]⟩
def o916x3 : Obj := ⟨.none, none, .fields #[], #[]⟩
def o917x3 : Obj := ⟨.type "tuple", none, .seq #[.str "self" 1341, .str "data" 1342, .str "transpose" 1343] 0, #[]⟩
def o918x3 : Obj := ⟨.type "tuple", none, .seq #[] 0, #[]⟩
def o919x3 : Obj := fnO (.none) none #[] (nth (inner (nth body 16)) 1) "Module.matrix_of" 0 [] .none .none .none .none none .none .none 0
def o920x3 : Obj := ⟨.type "code", none, .fields #[.str "matrix_of" 1338, .str "Module.matrix_of" 1339, .str "/claim/cut.py" 1340, .int 548 0, .int 3 0, .int 0 0, .int 0 0, .int 3 0, .ref 915, .bool true, .int 181 0, .ref 916, .none, .ref 917, .ref 918, .ref 919, .int 1344 0, .int 548 0, .str "/claim/cut.py" 1345], #[]⟩
def to921x3 : Lit (fnO (.type "function") none #[] (nth (inner (nth body 16)) 1) "Module.matrix_of" 3 [] (.ref 914) .none .none (.str "dilithium_py.modules.modules" 1129) none (.ref 920) .none 0) := ⟨_, by conv => rhs; whnf⟩
abbrev o921x3 : Obj := to921x3.1
def o922x3 : Obj := ⟨.type "tuple", none, .seq #[] 0, #[]⟩
def o923x3 : Obj := ⟨.none, none, .fields #[], #[]⟩
def o924x3 : Obj := ⟨.type "tuple", none, .seq #[.str "self" 1350, .str "elements" 1351] 0, #[]⟩
def o925x3 : Obj := ⟨.type "tuple", none, .seq #[] 0, #[]⟩
def o926x3 : Obj := fnO (.none) none #[] (nth (inner (nth body 16)) 2) "Module.vector" 0 [] .none .none .none .none none .none .none 0
def o927x3 : Obj := ⟨.type "code", none, .fields #[.str "vector" 1347, .str "Module.vector" 1348, .str "/claim/cut.py" 1349, .int 551 0, .int 2 0, .int 0 0, .int 0 0, .int 3 0, .ref 922, .bool true, .int 181 0, .ref 923, .none, .ref 924, .ref 925, .ref 926, .int 1352 0, .int 551 0, .str "/claim/cut.py" 1353], #[]⟩
def to928x3 : Lit (fnO (.type "function") none #[] (nth (inner (nth body 16)) 2) "Module.vector" 3 [] .none .none .none (.str "dilithium_py.modules.modules" 1129) none (.ref 927) .none 0) := ⟨_, by conv => rhs; whnf⟩
abbrev o928x3 : Obj := to928x3.1
def o929x3 : Obj := ⟨.type "tuple", none, .seq #[] 0, #[]⟩
def o930x3 : Obj := ⟨.none, none, .fields #[], #[]⟩
def o931x3 : Obj := fnO (.none) none #[] (nth (inner (nth body 16)) 3) "Module._bit_unpack" 0 [] .none .none .none .none none .none .none 0
def o932x3 : Obj := ⟨.type "code", none, .fields #[.str "_bit_unpack" 1355, .str "Module._bit_unpack" 1356, .str "/claim/cut.py" 1357, .int 554 0, .int 3 0, .int 0 0, .int 0 0, .int 3 0, .ref 929, .bool true, .int 181 0, .ref 930, .none, .none, .none, .ref 931, .int 1358 0, .int 554 0, .str "/claim/cut.py" 1359], #[]⟩
def to933x3 : Lit (fnO (.type "function") none #[] (nth (inner (nth body 16)) 3) "Module._bit_unpack" 3 [] .none .none .none (.str "dilithium_py.modules.modules" 1129) none (.ref 932) .none 0) := ⟨_, by conv => rhs; whnf⟩
abbrev o933x3 : Obj := to933x3.1
def o934x3 : Obj := ⟨.type "tuple", none, .seq #[] 0, #[]⟩
def o935x3 : Obj := ⟨.none, none, .fields #[], #[]⟩
def o936x3 : Obj := fnO (.none) none #[] (nth (inner (nth body 16)) 4) "Module.bit_unpack_t0" 0 [] .none .none .none .none none .none .none 0
def o937x3 : Obj := ⟨.type "code", none, .fields #[.str "bit_unpack_t0" 1361, .str "Module.bit_unpack_t0" 1362, .str "/claim/cut.py" 1363, .int 557 0, .int 3 0, .int 0 0, .int 0 0, .int 3 0, .ref 934, .bool true, .int 181 0, .ref 935, .none, .none, .none, .ref 936, .int 1364 0, .int 557 0, .str "/claim/cut.py" 1365], #[]⟩
def to938x3 : Lit (fnO (.type "function") none #[] (nth (inner (nth body 16)) 4) "Module.bit_unpack_t0" 3 [] .none .none .none (.str "dilithium_py.modules.modules" 1129) none (.ref 937) .none 0) := ⟨_, by conv => rhs; whnf⟩
abbrev o938x3 : Obj := to938x3.1
def o939x3 : Obj := ⟨.type "tuple", none, .seq #[] 0, #[]⟩
def o940x3 : Obj := ⟨.none, none, .fields #[], #[]⟩
def o941x3 : Obj := fnO (.none) none #[] (nth (inner (nth body 16)) 5) "Module.bit_unpack_t1" 0 [] .none .none .none .none none .none .none 0
def o942x3 : Obj := ⟨.type "code", none, .fields #[.str "bit_unpack_t1" 1367, .str "Module.bit_unpack_t1" 1368, .str "/claim/cut.py" 1369, .int 563 0, .int 3 0, .int 0 0, .int 0 0, .int 3 0, .ref 939, .bool true, .int 181 0, .ref 940, .none, .none, .none, .ref 941, .int 1370 0, .int 563 0, .str "/claim/cut.py" 1371], #[]⟩
def to943x3 : Lit (fnO (.type "function") none #[] (nth (inner (nth body 16)) 5) "Module.bit_unpack_t1" 3 [] .none .none .none (.str "dilithium_py.modules.modules" 1129) none (.ref 942) .none 0) := ⟨_, by conv => rhs; whnf⟩
abbrev o943x3 : Obj := to943x3.1
def o944x3 : Obj := ⟨.type "tuple", none, .seq #[] 0, #[]⟩
def o945x3 : Obj := ⟨.none, none, .fields #[], #[]⟩
def o946x3 : Obj := fnO (.none) none #[] (nth (inner (nth body 16)) 6) "Module.bit_unpack_s" 0 [] .none .none .none .none none .none .none 0
def o947x3 : Obj := ⟨.type "code", none, .fields #[.str "bit_unpack_s" 1373, .str "Module.bit_unpack_s" 1374, .str "/claim/cut.py" 1375, .int 569 0, .int 4 0, .int 0 0, .int 0 0, .int 3 0, .ref 944, .bool true, .int 181 0, .ref 945, .none, .none, .none, .ref 946, .int 1376 0, .int 569 0, .str "/claim/cut.py" 1377], #[]⟩
def to948x3 : Lit (fnO (.type "function") none #[] (nth (inner (nth body 16)) 6) "Module.bit_unpack_s" 3 [] .none .none .none (.str "dilithium_py.modules.modules" 1129) none (.ref 947) .none 0) := ⟨_, by conv => rhs; whnf⟩
abbrev o948x3 : Obj := to948x3.1
def o949x3 : Obj := ⟨.type "tuple", none, .seq #[] 0, #[]⟩
def o950x3 : Obj := ⟨.none, none, .fields #[], #[]⟩
def o951x3 : Obj := fnO (.none) none #[] (nth (inner (nth body 16)) 7) "Module.bit_unpack_w" 0 [] .none .none .none .none none .none .none 0
def o952x3 : Obj := ⟨.type "code", none, .fields #[.str "bit_unpack_w" 1379, .str "Module.bit_unpack_w" 1380, .str "/claim/cut.py" 1381, .int 580 0, .int 4 0, .int 0 0, .int 0 0, .int 3 0, .ref 949, .bool true, .int 181 0, .ref 950, .none, .none, .none, .ref 951, .int 1382 0, .int 580 0, .str "/claim/cut.py" 1383], #[]⟩
def to953x3 : Lit (fnO (.type "function") none #[] (nth (inner (nth body 16)) 7) "Module.bit_unpack_w" 3 [] .none .none .none (.str "dilithium_py.modules.modules" 1129) none (.ref 952) .none 0) := ⟨_, by conv => rhs; whnf⟩
abbrev o953x3 : Obj := to953x3.1
def o954x3 : Obj := ⟨.type "tuple", none, .seq #[] 0, #[]⟩
def o955x3 : Obj := ⟨.none, none, .fields #[], #[]⟩
def o956x3 : Obj := fnO (.none) none #[] (nth (inner (nth body 16)) 8) "Module.bit_unpack_z" 0 [] .none .none .none .none none .none .none 0
def o957x3 : Obj := ⟨.type "code", none, .fields #[.str "bit_unpack_z" 1385, .str "Module.bit_unpack_z" 1386, .str "/claim/cut.py" 1387, .int 591 0, .int 4 0, .int 0 0, .int 0 0, .int 3 0, .ref 954, .bool true, .int 181 0, .ref 955, .none, .none, .none, .ref 956, .int 1388 0, .int 591 0, .str "/claim/cut.py" 1389], #[]⟩
def to958x3 : Lit (fnO (.type "function") none #[] (nth (inner (nth body 16)) 8) "Module.bit_unpack_z" 3 [] .none .none .none (.str "dilithium_py.modules.modules" 1129) none (.ref 957) .none 0) := ⟨_, by conv => rhs; whnf⟩
abbrev o958x3 : Obj := to958x3.1
def o959x3 : Obj := ⟨.type "tuple", none, .seq #[.str "ring" 1391] 0, #[]⟩
def o960x3 (P : Params) : Obj := ⟨.type "dict", none, .dict #[⟨kh P "__module__", .str "__module__" 1324, .str "dilithium_py.modules.modules" 1129⟩, ⟨kh P "__firstlineno__", .str "__firstlineno__" 1328, .int 543 1327⟩, ⟨kh P "__init__", .str "__init__" 1337, .ref 913⟩, ⟨kh P "matrix_of", .str "matrix_of" 1346, .ref 921⟩, ⟨kh P "vector", .str "vector" 1354, .ref 928⟩, ⟨kh P "_bit_unpack", .str "_bit_unpack" 1360, .ref 933⟩, ⟨kh P "bit_unpack_t0", .str "bit_unpack_t0" 1366, .ref 938⟩, ⟨kh P "bit_unpack_t1", .str "bit_unpack_t1" 1372, .ref 943⟩, ⟨kh P "bit_unpack_s", .str "bit_unpack_s" 1378, .ref 948⟩, ⟨kh P "bit_unpack_w", .str "bit_unpack_w" 1384, .ref 953⟩, ⟨kh P "bit_unpack_z", .str "bit_unpack_z" 1390, .ref 958⟩, ⟨kh P "__static_attributes__", .str "__static_attributes__" 1392, .ref 959⟩, ⟨kh P "__doc__", .str "__doc__" 1393, .none⟩] 2, #[]⟩
def o961x3 : Obj := ⟨.type "type", none, .cls { name := "Module", bases := [.ref 738], mro := [.ref 961, .ref 738, .type "object"], ns := 960, qualname := "Module", hasDict := true, slotNames := [], subclasses := [], abstract := false, collection := none, hasDel := false }, #[(some (.ref 900)), none, (some (.str "Module" 1317)), (some (.str "Module" 1325)), (some (.builtin "object.__new__")), (some (.bool true))]⟩
def o962x3 : Obj := ⟨.type "super", none, .fields #[.ref 961, .ref 961, .ref 961], #[]⟩
def o963x3 : Obj := ⟨.type "builtin_function_or_method", none, .fields #[.builtin "object.__init_subclass__", .ref 961], #[]⟩
def o964x3 : Obj := ⟨.type "tuple", none, .seq #[] 0, #[]⟩
def o965x3 : Obj := ⟨.none, none, .fields #[], #[]⟩
def o966x3 : Obj := ⟨.type "tuple", none, .seq #[.str "kind" 1403, .str "vector" 1404] 0, #[]⟩
def o967x3 : Obj := ⟨.type "tuple", none, .seq #[] 0, #[]⟩
def o968x3 : Obj := fnO (.none) none #[] (nth body 19) "_law_packed" 0 [] .none .none .none .none none .none .none 0
def o969x3 : Obj := ⟨.type "code", none, .fields #[.str "_law_packed" 1400, .str "_law_packed" 1401, .str "/claim/cut.py" 1402, .int 603 0, .int 2 0, .int 0 0, .int 0 0, .int 3 0, .ref 964, .bool true, .int 181 0, .ref 965, .none, .ref 966, .ref 967, .ref 968, .int 1405 0, .int 603 0, .str "/claim/cut.py" 1406], #[]⟩
def to970x3 : Lit (fnO (.type "function") none #[] (nth body 19) "_law_packed" 3 [] .none .none .none (.str "law_bn0016_01" 1396) none (.ref 969) .none 0) := ⟨_, by conv => rhs; whnf⟩
abbrev o970x3 : Obj := to970x3.1
def o971x3 : Obj := ⟨.type "tuple", none, .seq #[] 0, #[]⟩
def o972x3 : Obj := ⟨.none, none, .fields #[], #[]⟩
def o973x3 : Obj := ⟨.type "tuple", none, .seq #[.str "kind" 1411, .str "module" 1412, .str "octets" 1413, .str "k" 1414, .str "off" 1415] 0, #[]⟩
def o974x3 : Obj := ⟨.type "tuple", none, .seq #[] 0, #[]⟩
def o975x3 : Obj := fnO (.none) none #[] (nth body 20) "_law_read" 0 [] .none .none .none .none none .none .none 0
def o976x3 : Obj := ⟨.type "code", none, .fields #[.str "_law_read" 1408, .str "_law_read" 1409, .str "/claim/cut.py" 1410, .int 613 0, .int 5 0, .int 0 0, .int 0 0, .int 3 0, .ref 971, .bool true, .int 181 0, .ref 972, .none, .ref 973, .ref 974, .ref 975, .int 1416 0, .int 613 0, .str "/claim/cut.py" 1417], #[]⟩
def to977x3 : Lit (fnO (.type "function") none #[] (nth body 20) "_law_read" 3 [] .none .none .none (.str "law_bn0016_01" 1396) none (.ref 976) .none 0) := ⟨_, by conv => rhs; whnf⟩
abbrev o977x3 : Obj := to977x3.1
def o978x3 : Obj := ⟨.type "tuple", none, .seq #[] 0, #[]⟩
def o979x3 : Obj := ⟨.none, none, .fields #[], #[]⟩
def o980x3 : Obj := ⟨.type "tuple", none, .seq #[.str "run" 1422] 0, #[]⟩
def o981x3 : Obj := ⟨.type "tuple", none, .seq #[] 0, #[]⟩
def o982x3 : Obj := fnO (.none) none #[] (nth body 21) "_law_refused" 0 [] .none .none .none .none none .none .none 0
def o983x3 : Obj := ⟨.type "code", none, .fields #[.str "_law_refused" 1419, .str "_law_refused" 1420, .str "/claim/cut.py" 1421, .int 623 0, .int 1 0, .int 0 0, .int 0 0, .int 3 0, .ref 978, .bool true, .int 181 0, .ref 979, .none, .ref 980, .ref 981, .ref 982, .int 1423 0, .int 623 0, .str "/claim/cut.py" 1424], #[]⟩
def to984x3 : Lit (fnO (.type "function") none #[] (nth body 21) "_law_refused" 3 [] .none .none .none (.str "law_bn0016_01" 1396) none (.ref 983) .none 0) := ⟨_, by conv => rhs; whnf⟩
abbrev o984x3 : Obj := to984x3.1
def o985x3 : Obj := ⟨.type "tuple", none, .seq #[] 0, #[]⟩
def o986x3 : Obj := ⟨.none, none, .fields #[], #[]⟩
def o987x3 : Obj := fnO (.none) none #[] (nth body 22) "law" 0 [] .none .none .none .none none .none .none 0
def o988x3 : Obj := ⟨.type "code", none, .fields #[.str "law" 1426, .str "law" 1427, .str "/claim/cut.py" 1428, .int 629 0, .int 1 0, .int 0 0, .int 0 0, .int 3 0, .ref 985, .bool true, .int 181 0, .ref 986, .none, .none, .none, .ref 987, .int 1429 0, .int 629 0, .str "/claim/cut.py" 1430], #[]⟩
def to989x3 : Lit (fnO (.type "function") none #[] (nth body 22) "law" 3 [] .none .none .none (.str "law_bn0016_01" 1396) none (.ref 988) .none 0) := ⟨_, by conv => rhs; whnf⟩
abbrev o989x3 : Obj := to989x3.1
def T3 (P : Params) : BT := .node (o0 P) (.node (o1 P) (.node (o3x3 P) (.node o7 (.node o15x1 (.node o31x1 (.node o63x1 (.node o127x1 (.node o255x1 (.node o511x2 .nil .nil) (.node o767x3 .nil .nil)) (.node (o383x1 P) (.node o639x2 .nil .nil) (.node o895x3 .nil .nil))) (.node o191x1 (.node o319x1 (.node o575x2 .nil .nil) (.node o831x3 .nil .nil)) (.node o447x2 (.node o703x2 .nil .nil) (.node o959x3 .nil .nil)))) (.node o95x1 (.node o159x1 (.node o287x1 (.node o543x2 .nil .nil) (.node o799x3 .nil .nil)) (.node o415x2 (.node o671x2 .nil .nil) (.node o927x3 .nil .nil))) (.node o223x1 (.node o351x1 (.node o607x2 .nil .nil) (.node o863x3 .nil .nil)) (.node o479x2 (.node o735x3 .nil .nil) .nil)))) (.node o47x1 (.node o79x1 (.node o143x1 (.node o271x1 (.node o527x2 .nil .nil) (.node o783x3 .nil .nil)) (.node o399x2 (.node o655x2 .nil .nil) (.node o911x3 .nil .nil))) (.node o207x1 (.node o335x1 (.node o591x2 .nil .nil) (.node o847x3 .nil .nil)) (.node o463x2 (.node o719x3 .nil .nil) (.node o975x3 .nil .nil)))) (.node o111x1 (.node o175x1 (.node o303x1 (.node o559x2 .nil .nil) (.node o815x3 .nil .nil)) (.node o431x2 (.node o687x2 .nil .nil) (.node o943x3 .nil .nil))) (.node o239x1 (.node o367x1 (.node o623x2 .nil .nil) (.node o879x3 .nil .nil)) (.node o495x2 (.node o751x3 .nil .nil) .nil))))) (.node o23x1 (.node o39x1 (.node o71x1 (.node o135x1 (.node o263x1 (.node (o519x2 P) .nil .nil) (.node o775x3 .nil .nil)) (.node o391x2 (.node o647x2 .nil .nil) (.node o903x3 .nil .nil))) (.node o199x1 (.node o327x1 (.node (o583x2 P) .nil .nil) (.node o839x3 .nil .nil)) (.node o455x2 (.node o711x3 .nil .nil) (.node o967x3 .nil .nil)))) (.node o103x1 (.node o167x1 (.node o295x1 (.node o551x2 .nil .nil) (.node o807x3 .nil .nil)) (.node o423x2 (.node o679x2 .nil .nil) (.node o935x3 .nil .nil))) (.node o231x1 (.node o359x1 (.node o615x2 .nil .nil) (.node o871x3 .nil .nil)) (.node o487x2 (.node o743x3 .nil .nil) .nil)))) (.node o55x1 (.node o87x1 (.node o151x1 (.node o279x1 (.node o535x2 .nil .nil) (.node o791x3 .nil .nil)) (.node o407x2 (.node o663x2 .nil .nil) (.node o919x3 .nil .nil))) (.node o215x1 (.node o343x1 (.node o599x2 .nil .nil) (.node o855x3 .nil .nil)) (.node o471x2 (.node o727x3 .nil .nil) (.node o983x3 .nil .nil)))) (.node o119x1 (.node o183x1 (.node o311x1 (.node o567x2 .nil .nil) (.node o823x3 .nil .nil)) (.node o439x2 (.node o695x2 .nil .nil) (.node o951x3 .nil .nil))) (.node o247x1 (.node o375x1 (.node o631x2 .nil .nil) (.node o887x3 .nil .nil)) (.node o503x2 (.node o759x3 .nil .nil) .nil)))))) (.node o11 (.node o19x1 (.node o35x1 (.node o67x1 (.node o131x1 (.node o259x1 (.node o515x2 .nil .nil) (.node o771x3 .nil .nil)) (.node o387x2 (.node o643x2 .nil .nil) (.node o899x3 .nil .nil))) (.node o195x1 (.node o323x1 (.node o579x2 .nil .nil) (.node o835x3 .nil .nil)) (.node o451x2 (.node o707x3 .nil .nil) (.node o963x3 .nil .nil)))) (.node o99x1 (.node o163x1 (.node o291x1 (.node o547x2 .nil .nil) (.node o803x3 .nil .nil)) (.node o419x2 (.node o675x2 .nil .nil) (.node o931x3 .nil .nil))) (.node o227x1 (.node o355x1 (.node o611x2 .nil .nil) (.node o867x3 .nil .nil)) (.node o483x2 (.node o739x3 .nil .nil) .nil)))) (.node o51x1 (.node o83x1 (.node o147x1 (.node o275x1 (.node o531x2 .nil .nil) (.node o787x3 .nil .nil)) (.node o403x2 (.node o659x2 .nil .nil) (.node o915x3 .nil .nil))) (.node o211x1 (.node o339x1 (.node o595x2 .nil .nil) (.node o851x3 .nil .nil)) (.node o467x2 (.node o723x3 .nil .nil) (.node o979x3 .nil .nil)))) (.node o115x1 (.node o179x1 (.node o307x1 (.node o563x2 .nil .nil) (.node o819x3 .nil .nil)) (.node o435x2 (.node o691x2 .nil .nil) (.node o947x3 .nil .nil))) (.node o243x1 (.node o371x1 (.node o627x2 .nil .nil) (.node o883x3 .nil .nil)) (.node o499x2 (.node o755x3 .nil .nil) .nil))))) (.node o27x1 (.node o43x1 (.node o75x1 (.node o139x1 (.node o267x1 (.node o523x2 .nil .nil) (.node o779x3 .nil .nil)) (.node o395x2 (.node o651x2 .nil .nil) (.node o907x3 .nil .nil))) (.node o203x1 (.node o331x1 (.node o587x2 .nil .nil) (.node o843x3 .nil .nil)) (.node (o459x2 P) (.node o715x3 .nil .nil) (.node o971x3 .nil .nil)))) (.node o107x1 (.node o171x1 (.node o299x1 (.node o555x2 .nil .nil) (.node o811x3 .nil .nil)) (.node o427x2 (.node o683x2 .nil .nil) (.node o939x3 .nil .nil))) (.node o235x1 (.node o363x1 (.node o619x2 .nil .nil) (.node (o875x3 P) .nil .nil)) (.node o491x2 (.node o747x3 .nil .nil) .nil)))) (.node o59x1 (.node o91x1 (.node o155x1 (.node o283x1 (.node o539x2 .nil .nil) (.node o795x3 .nil .nil)) (.node o411x2 (.node o667x2 .nil .nil) (.node o923x3 .nil .nil))) (.node o219x1 (.node o347x1 (.node o603x2 .nil .nil) (.node o859x3 .nil .nil)) (.node o475x2 (.node o731x3 .nil .nil) (.node o987x3 .nil .nil)))) (.node o123x1 (.node o187x1 (.node o315x1 (.node o571x2 .nil .nil) (.node o827x3 .nil .nil)) (.node o443x2 (.node o699x2 .nil .nil) (.node o955x3 .nil .nil))) (.node o251x1 (.node o379x1 (.node o635x2 .nil .nil) (.node o891x3 .nil .nil)) (.node o507x2 (.node o763x3 .nil .nil) .nil))))))) (.node o5 (.node o9 (.node o17x1 (.node o33x1 (.node (o65x1 P) (.node o129x1 (.node o257x1 (.node (o513x2 P) .nil .nil) (.node o769x3 .nil .nil)) (.node o385x1 (.node o641x2 .nil .nil) (.node o897x3 .nil .nil))) (.node o193x1 (.node o321x1 (.node (o577x2 P) .nil .nil) (.node o833x3 .nil .nil)) (.node o449x2 (.node o705x2 .nil .nil) (.node o961x3 .nil .nil)))) (.node o97x1 (.node o161x1 (.node o289x1 (.node o545x2 .nil .nil) (.node o801x3 .nil .nil)) (.node o417x2 (.node o673x2 .nil .nil) (.node o929x3 .nil .nil))) (.node o225x1 (.node o353x1 (.node o609x2 .nil .nil) (.node o865x3 .nil .nil)) (.node o481x2 (.node (o737x3 P) .nil .nil) .nil)))) (.node o49x1 (.node o81x1 (.node o145x1 (.node o273x1 (.node o529x2 .nil .nil) (.node o785x3 .nil .nil)) (.node o401x2 (.node o657x2 .nil .nil) (.node o913x3 .nil .nil))) (.node o209x1 (.node o337x1 (.node o593x2 .nil .nil) (.node o849x3 .nil .nil)) (.node o465x2 (.node o721x3 .nil .nil) (.node o977x3 .nil .nil)))) (.node o113x1 (.node o177x1 (.node o305x1 (.node o561x2 .nil .nil) (.node o817x3 .nil .nil)) (.node o433x2 (.node o689x2 .nil .nil) (.node o945x3 .nil .nil))) (.node o241x1 (.node o369x1 (.node o625x2 .nil .nil) (.node (o881x3 P) .nil .nil)) (.node o497x2 (.node o753x3 .nil .nil) .nil))))) (.node o25x1 (.node o41x1 (.node (o73x1 P) (.node o137x1 (.node o265x1 (.node o521x2 .nil .nil) (.node o777x3 .nil .nil)) (.node o393x2 (.node o649x2 .nil .nil) (.node o905x3 .nil .nil))) (.node o201x1 (.node o329x1 (.node o585x2 .nil .nil) (.node o841x3 .nil .nil)) (.node o457x2 (.node o713x3 .nil .nil) (.node o969x3 .nil .nil)))) (.node o105x1 (.node o169x1 (.node o297x1 (.node o553x2 .nil .nil) (.node o809x3 .nil .nil)) (.node o425x2 (.node o681x2 .nil .nil) (.node o937x3 .nil .nil))) (.node o233x1 (.node o361x1 (.node o617x2 .nil .nil) (.node o873x3 .nil .nil)) (.node o489x2 (.node (o745x3 P) .nil .nil) .nil)))) (.node o57x1 (.node o89x1 (.node o153x1 (.node o281x1 (.node o537x2 .nil .nil) (.node o793x3 .nil .nil)) (.node o409x2 (.node o665x2 .nil .nil) (.node o921x3 .nil .nil))) (.node o217x1 (.node o345x1 (.node o601x2 .nil .nil) (.node o857x3 .nil .nil)) (.node o473x2 (.node o729x3 .nil .nil) (.node o985x3 .nil .nil)))) (.node o121x1 (.node o185x1 (.node o313x1 (.node o569x2 .nil .nil) (.node o825x3 .nil .nil)) (.node o441x2 (.node o697x2 .nil .nil) (.node o953x3 .nil .nil))) (.node o249x1 (.node o377x1 (.node o633x2 .nil .nil) (.node o889x3 .nil .nil)) (.node o505x2 (.node o761x3 .nil .nil) .nil)))))) (.node o13 (.node o21x1 (.node o37x1 (.node o69x1 (.node o133x1 (.node o261x1 (.node o517x2 .nil .nil) (.node o773x3 .nil .nil)) (.node (o389x2 P) (.node o645x2 .nil .nil) (.node o901x3 .nil .nil))) (.node o197x1 (.node o325x1 (.node o581x2 .nil .nil) (.node o837x3 .nil .nil)) (.node o453x2 (.node o709x3 .nil .nil) (.node o965x3 .nil .nil)))) (.node o101x1 (.node o165x1 (.node o293x1 (.node o549x2 .nil .nil) (.node o805x3 .nil .nil)) (.node o421x2 (.node o677x2 .nil .nil) (.node o933x3 .nil .nil))) (.node o229x2 (.node o357x1 (.node o613x2 .nil .nil) (.node o869x3 .nil .nil)) (.node o485x2 (.node o741x3 .nil .nil) .nil)))) (.node o53x1 (.node o85x1 (.node o149x1 (.node (o277x1 P) (.node o533x2 .nil .nil) (.node o789x3 .nil .nil)) (.node o405x2 (.node o661x2 .nil .nil) (.node o917x3 .nil .nil))) (.node o213x1 (.node o341x1 (.node o597x2 .nil .nil) (.node o853x3 .nil .nil)) (.node o469x2 (.node o725x3 .nil .nil) (.node o981x3 .nil .nil)))) (.node o117x1 (.node o181x1 (.node o309x1 (.node o565x2 .nil .nil) (.node o821x3 .nil .nil)) (.node o437x2 (.node o693x2 .nil .nil) (.node o949x3 .nil .nil))) (.node o245x1 (.node o373x1 (.node o629x2 .nil .nil) (.node o885x3 .nil .nil)) (.node o501x2 (.node o757x3 .nil .nil) .nil))))) (.node o29x1 (.node o45x1 (.node o77x1 (.node o141x1 (.node o269x1 (.node o525x2 .nil .nil) (.node o781x3 .nil .nil)) (.node o397x2 (.node o653x2 .nil .nil) (.node o909x3 .nil .nil))) (.node o205x1 (.node o333x1 (.node o589x2 .nil .nil) (.node o845x3 .nil .nil)) (.node o461x2 (.node o717x3 .nil .nil) (.node o973x3 .nil .nil)))) (.node o109x1 (.node o173x1 (.node o301x1 (.node o557x2 .nil .nil) (.node o813x3 .nil .nil)) (.node o429x2 (.node o685x2 .nil .nil) (.node o941x3 .nil .nil))) (.node o237x1 (.node o365x1 (.node o621x2 .nil .nil) (.node o877x3 .nil .nil)) (.node o493x2 (.node o749x3 .nil .nil) .nil)))) (.node o61x1 (.node o93x1 (.node o157x1 (.node (o285x1 P) (.node o541x2 .nil .nil) (.node o797x3 .nil .nil)) (.node o413x2 (.node o669x2 .nil .nil) (.node o925x3 .nil .nil))) (.node o221x1 (.node o349x1 (.node o605x2 .nil .nil) (.node o861x3 .nil .nil)) (.node o477x2 (.node o733x3 .nil .nil) (.node o989x3 .nil .nil)))) (.node o125x1 (.node o189x1 (.node o317x1 (.node o573x2 .nil .nil) (.node o829x3 .nil .nil)) (.node o445x2 (.node o701x3 .nil .nil) (.node o957x3 .nil .nil))) (.node o253x1 (.node o381x1 (.node o637x2 .nil .nil) (.node o893x3 .nil .nil)) (.node o509x2 (.node o765x3 .nil .nil) .nil)))))))) (.node o2 (.node o4 (.node o8 (.node o16x1 (.node o32x1 (.node o64x1 (.node o128x1 (.node o256x1 (.node o512x2 .nil .nil) (.node o768x3 .nil .nil)) (.node o384x1 (.node o640x2 .nil .nil) (.node (o896x3 P) .nil .nil))) (.node o192x1 (.node o320x1 (.node o576x2 .nil .nil) (.node o832x3 .nil .nil)) (.node o448x2 (.node o704x2 .nil .nil) (.node (o960x3 P) .nil .nil)))) (.node o96x1 (.node o160x1 (.node o288x1 (.node o544x2 .nil .nil) (.node o800x3 .nil .nil)) (.node o416x2 (.node o672x2 .nil .nil) (.node o928x3 .nil .nil))) (.node o224x1 (.node o352x1 (.node o608x2 .nil .nil) (.node o864x3 .nil .nil)) (.node o480x2 (.node o736x3 .nil .nil) .nil)))) (.node o48x1 (.node o80x1 (.node o144x1 (.node o272x1 (.node o528x2 .nil .nil) (.node o784x3 .nil .nil)) (.node o400x2 (.node o656x2 .nil .nil) (.node o912x3 .nil .nil))) (.node o208x1 (.node o336x1 (.node o592x2 .nil .nil) (.node o848x3 .nil .nil)) (.node o464x2 (.node o720x3 .nil .nil) (.node o976x3 .nil .nil)))) (.node o112x1 (.node o176x1 (.node o304x1 (.node o560x2 .nil .nil) (.node o816x3 .nil .nil)) (.node o432x2 (.node o688x2 .nil .nil) (.node o944x3 .nil .nil))) (.node o240x1 (.node o368x1 (.node o624x2 .nil .nil) (.node o880x3 .nil .nil)) (.node o496x2 (.node o752x3 .nil .nil) .nil))))) (.node (o24x1 P) (.node o40x1 (.node o72x1 (.node o136x1 (.node o264x1 (.node o520x2 .nil .nil) (.node o776x3 .nil .nil)) (.node o392x2 (.node o648x2 .nil .nil) (.node o904x3 .nil .nil))) (.node o200x1 (.node o328x1 (.node o584x2 .nil .nil) (.node o840x3 .nil .nil)) (.node o456x2 (.node o712x3 .nil .nil) (.node o968x3 .nil .nil)))) (.node o104x1 (.node o168x1 (.node o296x1 (.node o552x2 .nil .nil) (.node o808x3 .nil .nil)) (.node o424x2 (.node o680x2 .nil .nil) (.node o936x3 .nil .nil))) (.node o232x1 (.node o360x1 (.node o616x2 .nil .nil) (.node o872x3 .nil .nil)) (.node o488x2 (.node o744x3 .nil .nil) .nil)))) (.node o56x1 (.node o88x1 (.node o152x1 (.node o280x1 (.node o536x2 .nil .nil) (.node o792x3 .nil .nil)) (.node o408x2 (.node o664x2 .nil .nil) (.node o920x3 .nil .nil))) (.node o216x1 (.node o344x1 (.node o600x2 .nil .nil) (.node o856x3 .nil .nil)) (.node o472x2 (.node o728x3 .nil .nil) (.node o984x3 .nil .nil)))) (.node o120x1 (.node o184x1 (.node o312x1 (.node o568x2 .nil .nil) (.node o824x3 .nil .nil)) (.node o440x2 (.node o696x2 .nil .nil) (.node o952x3 .nil .nil))) (.node o248x1 (.node o376x1 (.node o632x2 .nil .nil) (.node o888x3 .nil .nil)) (.node o504x2 (.node o760x3 .nil .nil) .nil)))))) (.node o12x3 (.node o20x1 (.node o36x1 (.node o68x1 (.node o132x1 (.node o260x1 (.node o516x2 .nil .nil) (.node o772x3 .nil .nil)) (.node o388x2 (.node o644x2 .nil .nil) (.node o900x3 .nil .nil))) (.node o196x1 (.node o324x1 (.node o580x2 .nil .nil) (.node o836x3 .nil .nil)) (.node o452x2 (.node (o708x3 P) .nil .nil) (.node o964x3 .nil .nil)))) (.node o100x1 (.node o164x1 (.node o292x1 (.node o548x2 .nil .nil) (.node o804x3 .nil .nil)) (.node o420x2 (.node o676x2 .nil .nil) (.node o932x3 .nil .nil))) (.node (o228x1 P) (.node o356x1 (.node o612x2 .nil .nil) (.node o868x3 .nil .nil)) (.node o484x2 (.node o740x3 .nil .nil) .nil)))) (.node o52x1 (.node o84x1 (.node o148x1 (.node o276x1 (.node o532x2 .nil .nil) (.node o788x3 .nil .nil)) (.node o404x2 (.node o660x2 .nil .nil) (.node o916x3 .nil .nil))) (.node o212x1 (.node o340x1 (.node o596x2 .nil .nil) (.node o852x3 .nil .nil)) (.node o468x2 (.node o724x3 .nil .nil) (.node o980x3 .nil .nil)))) (.node o116x1 (.node o180x1 (.node o308x1 (.node o564x2 .nil .nil) (.node o820x3 .nil .nil)) (.node o436x2 (.node o692x2 .nil .nil) (.node o948x3 .nil .nil))) (.node o244x1 (.node o372x1 (.node o628x2 .nil .nil) (.node o884x3 .nil .nil)) (.node o500x2 (.node o756x3 .nil .nil) .nil))))) (.node o28x1 (.node o44x1 (.node o76x1 (.node o140x1 (.node o268x1 (.node o524x2 .nil .nil) (.node o780x3 .nil .nil)) (.node o396x2 (.node o652x2 .nil .nil) (.node o908x3 .nil .nil))) (.node o204x1 (.node o332x1 (.node o588x2 .nil .nil) (.node o844x3 .nil .nil)) (.node o460x2 (.node o716x3 .nil .nil) (.node o972x3 .nil .nil)))) (.node o108x1 (.node o172x1 (.node o300x1 (.node o556x2 .nil .nil) (.node o812x3 .nil .nil)) (.node o428x2 (.node o684x2 .nil .nil) (.node o940x3 .nil .nil))) (.node (o236x1 P) (.node o364x1 (.node o620x2 .nil .nil) (.node o876x3 .nil .nil)) (.node o492x2 (.node o748x3 .nil .nil) .nil)))) (.node o60x1 (.node o92x1 (.node o156x1 (.node o284x1 (.node o540x2 .nil .nil) (.node o796x3 .nil .nil)) (.node o412x2 (.node o668x2 .nil .nil) (.node o924x3 .nil .nil))) (.node o220x1 (.node o348x1 (.node o604x2 .nil .nil) (.node o860x3 .nil .nil)) (.node o476x2 (.node o732x3 .nil .nil) (.node o988x3 .nil .nil)))) (.node o124x1 (.node o188x1 (.node o316x1 (.node o572x2 .nil .nil) (.node o828x3 .nil .nil)) (.node o444x2 (.node (o700x2 P) .nil .nil) (.node o956x3 .nil .nil))) (.node o252x1 (.node o380x1 (.node o636x2 .nil .nil) (.node o892x3 .nil .nil)) (.node o508x2 (.node o764x3 .nil .nil) .nil))))))) (.node o6 (.node o10 (.node o18x1 (.node o34x1 (.node o66x1 (.node o130x1 (.node o258x1 (.node o514x2 .nil .nil) (.node o770x3 .nil .nil)) (.node o386x1 (.node o642x2 .nil .nil) (.node o898x3 .nil .nil))) (.node o194x1 (.node o322x1 (.node o578x2 .nil .nil) (.node o834x3 .nil .nil)) (.node o450x2 (.node o706x3 .nil .nil) (.node o962x3 .nil .nil)))) (.node o98x1 (.node o162x1 (.node o290x1 (.node o546x2 .nil .nil) (.node o802x3 .nil .nil)) (.node o418x2 (.node o674x2 .nil .nil) (.node o930x3 .nil .nil))) (.node o226x1 (.node o354x1 (.node o610x2 .nil .nil) (.node o866x3 .nil .nil)) (.node o482x2 (.node o738x3 .nil .nil) .nil)))) (.node o50x1 (.node o82x1 (.node o146x1 (.node o274x1 (.node o530x2 .nil .nil) (.node o786x3 .nil .nil)) (.node o402x2 (.node o658x2 .nil .nil) (.node o914x3 .nil .nil))) (.node o210x1 (.node o338x1 (.node o594x2 .nil .nil) (.node o850x3 .nil .nil)) (.node o466x2 (.node o722x3 .nil .nil) (.node o978x3 .nil .nil)))) (.node o114x1 (.node o178x1 (.node o306x1 (.node o562x2 .nil .nil) (.node o818x3 .nil .nil)) (.node o434x2 (.node o690x2 .nil .nil) (.node o946x3 .nil .nil))) (.node o242x1 (.node o370x1 (.node o626x2 .nil .nil) (.node o882x3 .nil .nil)) (.node o498x2 (.node o754x3 .nil .nil) .nil))))) (.node o26x1 (.node o42x1 (.node o74x1 (.node o138x1 (.node o266x1 (.node o522x2 .nil .nil) (.node o778x3 .nil .nil)) (.node o394x2 (.node o650x2 .nil .nil) (.node o906x3 .nil .nil))) (.node o202x1 (.node o330x1 (.node o586x2 .nil .nil) (.node o842x3 .nil .nil)) (.node o458x2 (.node o714x3 .nil .nil) (.node o970x3 .nil .nil)))) (.node o106x1 (.node o170x1 (.node o298x1 (.node o554x2 .nil .nil) (.node o810x3 .nil .nil)) (.node o426x2 (.node o682x2 .nil .nil) (.node o938x3 .nil .nil))) (.node o234x1 (.node o362x1 (.node o618x2 .nil .nil) (.node o874x3 .nil .nil)) (.node o490x2 (.node o746x3 .nil .nil) .nil)))) (.node o58x1 (.node o90x1 (.node o154x1 (.node o282x1 (.node o538x2 .nil .nil) (.node o794x3 .nil .nil)) (.node o410x2 (.node o666x2 .nil .nil) (.node o922x3 .nil .nil))) (.node o218x1 (.node o346x1 (.node o602x2 .nil .nil) (.node o858x3 .nil .nil)) (.node o474x2 (.node o730x3 .nil .nil) (.node o986x3 .nil .nil)))) (.node o122x1 (.node o186x1 (.node o314x1 (.node o570x2 .nil .nil) (.node o826x3 .nil .nil)) (.node o442x2 (.node o698x2 .nil .nil) (.node o954x3 .nil .nil))) (.node o250x1 (.node o378x1 (.node o634x2 .nil .nil) (.node o890x3 .nil .nil)) (.node o506x2 (.node o762x3 .nil .nil) .nil)))))) (.node o14 (.node o22x1 (.node o38x1 (.node o70x1 (.node o134x1 (.node o262x1 (.node o518x2 .nil .nil) (.node o774x3 .nil .nil)) (.node o390x2 (.node o646x2 .nil .nil) (.node (o902x3 P) .nil .nil))) (.node o198x1 (.node o326x1 (.node o582x2 .nil .nil) (.node o838x3 .nil .nil)) (.node o454x2 (.node o710x3 .nil .nil) (.node o966x3 .nil .nil)))) (.node o102x1 (.node o166x1 (.node o294x1 (.node o550x2 .nil .nil) (.node o806x3 .nil .nil)) (.node o422x2 (.node o678x2 .nil .nil) (.node o934x3 .nil .nil))) (.node o230x1 (.node o358x1 (.node o614x2 .nil .nil) (.node o870x3 .nil .nil)) (.node o486x2 (.node o742x3 .nil .nil) .nil)))) (.node o54x1 (.node o86x1 (.node o150x1 (.node o278x1 (.node o534x2 .nil .nil) (.node o790x3 .nil .nil)) (.node o406x2 (.node o662x2 .nil .nil) (.node o918x3 .nil .nil))) (.node o214x1 (.node o342x1 (.node o598x2 .nil .nil) (.node o854x3 .nil .nil)) (.node o470x2 (.node o726x3 .nil .nil) (.node o982x3 .nil .nil)))) (.node o118x1 (.node o182x1 (.node o310x1 (.node o566x2 .nil .nil) (.node o822x3 .nil .nil)) (.node o438x2 (.node o694x2 .nil .nil) (.node o950x3 .nil .nil))) (.node o246x1 (.node o374x1 (.node o630x2 .nil .nil) (.node o886x3 .nil .nil)) (.node o502x2 (.node o758x3 .nil .nil) .nil))))) (.node o30x1 (.node o46x1 (.node o78x1 (.node o142x1 (.node o270x1 (.node o526x2 .nil .nil) (.node o782x3 .nil .nil)) (.node o398x2 (.node o654x2 .nil .nil) (.node o910x3 .nil .nil))) (.node o206x1 (.node o334x1 (.node o590x2 .nil .nil) (.node o846x3 .nil .nil)) (.node o462x2 (.node o718x3 .nil .nil) (.node o974x3 .nil .nil)))) (.node o110x1 (.node o174x1 (.node (o302x1 P) (.node o558x2 .nil .nil) (.node o814x3 .nil .nil)) (.node o430x2 (.node o686x2 .nil .nil) (.node o942x3 .nil .nil))) (.node o238x1 (.node o366x1 (.node o622x2 .nil .nil) (.node o878x3 .nil .nil)) (.node o494x2 (.node o750x3 .nil .nil) .nil)))) (.node o62x1 (.node o94x1 (.node o158x1 (.node o286x1 (.node o542x2 .nil .nil) (.node o798x3 .nil .nil)) (.node o414x2 (.node o670x2 .nil .nil) (.node o926x3 .nil .nil))) (.node o222x1 (.node o350x1 (.node o606x2 .nil .nil) (.node o862x3 .nil .nil)) (.node o478x2 (.node o734x3 .nil .nil) .nil))) (.node o126x1 (.node o190x1 (.node o318x1 (.node o574x2 .nil .nil) (.node o830x3 .nil .nil)) (.node o446x2 (.node o702x2 .nil .nil) (.node o958x3 .nil .nil))) (.node o254x1 (.node o382x1 (.node o638x2 .nil .nil) (.node o894x3 .nil .nil)) (.node o510x2 (.node o766x3 .nil .nil) .nil))))))))
def S3 (w : World) (os : OsState) : SharedT := { tree := T3 w.params, n := 990, life := life, gens := ⟨[]⟩, drawn := {}, toks := 1432, os := os }
abbrev ps3 : Pos := ⟨629, 0, 662, 47⟩
def sts0 : List Stmt := (body.drop 0).take 8
def sts1 : List Stmt := (body.drop 8).take 4
def sts2 : List Stmt := (body.drop 12).take 11
def H1 (P : Params) : Heap := ⟨⟨(o0 P) :: (o1 P) :: o2 :: (o3x3 P) :: o4 :: o5 :: o6 :: o7 :: o8 :: o9 :: o10 :: o11 :: o12x3 :: o13 :: o14 :: o15x1 :: o16x1 :: o17x1 :: o18x1 :: o19x1 :: o20x1 :: o21x1 :: o22x1 :: o23x1 :: (o24x1 P) :: o25x1 :: o26x1 :: o27x1 :: o28x1 :: o29x1 :: o30x1 :: o31x1 :: o32x1 :: o33x1 :: o34x1 :: o35x1 :: o36x1 :: o37x1 :: o38x1 :: o39x1 :: o40x1 :: o41x1 :: o42x1 :: o43x1 :: o44x1 :: o45x1 :: o46x1 :: o47x1 :: o48x1 :: o49x1 :: o50x1 :: o51x1 :: o52x1 :: o53x1 :: o54x1 :: o55x1 :: o56x1 :: o57x1 :: o58x1 :: o59x1 :: o60x1 :: o61x1 :: o62x1 :: o63x1 :: o64x1 :: (o65x1 P) :: o66x1 :: o67x1 :: o68x1 :: o69x1 :: o70x1 :: o71x1 :: o72x1 :: (o73x1 P) :: o74x1 :: o75x1 :: o76x1 :: o77x1 :: o78x1 :: o79x1 :: o80x1 :: o81x1 :: o82x1 :: o83x1 :: o84x1 :: o85x1 :: o86x1 :: o87x1 :: o88x1 :: o89x1 :: o90x1 :: o91x1 :: o92x1 :: o93x1 :: o94x1 :: o95x1 :: o96x1 :: o97x1 :: o98x1 :: o99x1 :: o100x1 :: o101x1 :: o102x1 :: o103x1 :: o104x1 :: o105x1 :: o106x1 :: o107x1 :: o108x1 :: o109x1 :: o110x1 :: o111x1 :: o112x1 :: o113x1 :: o114x1 :: o115x1 :: o116x1 :: o117x1 :: o118x1 :: o119x1 :: o120x1 :: o121x1 :: o122x1 :: o123x1 :: o124x1 :: o125x1 :: o126x1 :: o127x1 :: o128x1 :: o129x1 :: o130x1 :: o131x1 :: o132x1 :: o133x1 :: o134x1 :: o135x1 :: o136x1 :: o137x1 :: o138x1 :: o139x1 :: o140x1 :: o141x1 :: o142x1 :: o143x1 :: o144x1 :: o145x1 :: o146x1 :: o147x1 :: o148x1 :: o149x1 :: o150x1 :: o151x1 :: o152x1 :: o153x1 :: o154x1 :: o155x1 :: o156x1 :: o157x1 :: o158x1 :: o159x1 :: o160x1 :: o161x1 :: o162x1 :: o163x1 :: o164x1 :: o165x1 :: o166x1 :: o167x1 :: o168x1 :: o169x1 :: o170x1 :: o171x1 :: o172x1 :: o173x1 :: o174x1 :: o175x1 :: o176x1 :: o177x1 :: o178x1 :: o179x1 :: o180x1 :: o181x1 :: o182x1 :: o183x1 :: o184x1 :: o185x1 :: o186x1 :: o187x1 :: o188x1 :: o189x1 :: o190x1 :: o191x1 :: o192x1 :: o193x1 :: o194x1 :: o195x1 :: o196x1 :: o197x1 :: o198x1 :: o199x1 :: o200x1 :: o201x1 :: o202x1 :: o203x1 :: o204x1 :: o205x1 :: o206x1 :: o207x1 :: o208x1 :: o209x1 :: o210x1 :: o211x1 :: o212x1 :: o213x1 :: o214x1 :: o215x1 :: o216x1 :: o217x1 :: o218x1 :: o219x1 :: o220x1 :: o221x1 :: o222x1 :: o223x1 :: o224x1 :: o225x1 :: o226x1 :: o227x1 :: (o228x1 P) :: o229x2 :: o230x1 :: o231x1 :: o232x1 :: o233x1 :: o234x1 :: o235x1 :: (o236x1 P) :: o237x1 :: o238x1 :: o239x1 :: o240x1 :: o241x1 :: o242x1 :: o243x1 :: o244x1 :: o245x1 :: o246x1 :: o247x1 :: o248x1 :: o249x1 :: o250x1 :: o251x1 :: o252x1 :: o253x1 :: o254x1 :: o255x1 :: o256x1 :: o257x1 :: o258x1 :: o259x1 :: o260x1 :: o261x1 :: o262x1 :: o263x1 :: o264x1 :: o265x1 :: o266x1 :: o267x1 :: o268x1 :: o269x1 :: o270x1 :: o271x1 :: o272x1 :: o273x1 :: o274x1 :: o275x1 :: o276x1 :: (o277x1 P) :: o278x1 :: o279x1 :: o280x1 :: o281x1 :: o282x1 :: o283x1 :: o284x1 :: (o285x1 P) :: o286x1 :: o287x1 :: o288x1 :: o289x1 :: o290x1 :: o291x1 :: o292x1 :: o293x1 :: o294x1 :: o295x1 :: o296x1 :: o297x1 :: o298x1 :: o299x1 :: o300x1 :: o301x1 :: (o302x1 P) :: o303x1 :: o304x1 :: o305x1 :: o306x1 :: o307x1 :: o308x1 :: o309x1 :: o310x1 :: o311x1 :: o312x1 :: o313x1 :: o314x1 :: o315x1 :: o316x1 :: o317x1 :: o318x1 :: o319x1 :: o320x1 :: o321x1 :: o322x1 :: o323x1 :: o324x1 :: o325x1 :: o326x1 :: o327x1 :: o328x1 :: o329x1 :: o330x1 :: o331x1 :: o332x1 :: o333x1 :: o334x1 :: o335x1 :: o336x1 :: o337x1 :: o338x1 :: o339x1 :: o340x1 :: o341x1 :: o342x1 :: o343x1 :: o344x1 :: o345x1 :: o346x1 :: o347x1 :: o348x1 :: o349x1 :: o350x1 :: o351x1 :: o352x1 :: o353x1 :: o354x1 :: o355x1 :: o356x1 :: o357x1 :: o358x1 :: o359x1 :: o360x1 :: o361x1 :: o362x1 :: o363x1 :: o364x1 :: o365x1 :: o366x1 :: o367x1 :: o368x1 :: o369x1 :: o370x1 :: o371x1 :: o372x1 :: o373x1 :: o374x1 :: o375x1 :: o376x1 :: o377x1 :: o378x1 :: o379x1 :: o380x1 :: o381x1 :: o382x1 :: (o383x1 P) :: o384x1 :: o385x1 :: o386x1 :: o387x2 :: o388x2 :: (o389x2 P) :: o390x2 :: o391x2 :: o392x2 :: o393x2 :: o394x2 :: o395x2 :: o396x2 :: o397x2 :: o398x2 :: o399x2 :: o400x2 :: o401x2 :: o402x2 :: o403x2 :: o404x2 :: o405x2 :: o406x2 :: o407x2 :: o408x2 :: o409x2 :: o410x2 :: o411x2 :: o412x2 :: o413x2 :: o414x2 :: o415x2 :: o416x2 :: o417x2 :: o418x2 :: o419x2 :: o420x2 :: o421x2 :: o422x2 :: o423x2 :: o424x2 :: o425x2 :: o426x2 :: o427x2 :: o428x2 :: o429x2 :: o430x2 :: o431x2 :: o432x2 :: o433x2 :: o434x2 :: o435x2 :: o436x2 :: o437x2 :: o438x2 :: o439x2 :: o440x2 :: o441x2 :: o442x2 :: o443x2 :: o444x2 :: o445x2 :: o446x2 :: o447x2 :: o448x2 :: o449x2 :: o450x2 :: o451x2 :: o452x2 :: o453x2 :: o454x2 :: o455x2 :: o456x2 :: o457x2 :: o458x2 :: (o459x2 P) :: o460x2 :: o461x2 :: o462x2 :: o463x2 :: o464x2 :: o465x2 :: o466x2 :: o467x2 :: o468x2 :: o469x2 :: o470x2 :: o471x2 :: o472x2 :: o473x2 :: o474x2 :: o475x2 :: o476x2 :: o477x2 :: o478x2 :: o479x2 :: o480x2 :: o481x2 :: o482x2 :: o483x2 :: o484x2 :: o485x2 :: o486x2 :: o487x2 :: o488x2 :: o489x2 :: o490x2 :: o491x2 :: o492x2 :: o493x2 :: o494x2 :: o495x2 :: o496x2 :: o497x2 :: o498x2 :: o499x2 :: o500x2 :: o501x2 :: o502x2 :: o503x2 :: o504x2 :: o505x2 :: o506x2 :: o507x2 :: o508x2 :: o509x2 :: o510x2 :: o511x2 :: o512x2 :: (o513x2 P) :: o514x2 :: o515x2 :: o516x2 :: o517x2 :: o518x2 :: (o519x2 P) :: o520x2 :: o521x2 :: o522x2 :: o523x2 :: o524x2 :: o525x2 :: o526x2 :: o527x2 :: o528x2 :: o529x2 :: o530x2 :: o531x2 :: o532x2 :: o533x2 :: o534x2 :: o535x2 :: o536x2 :: o537x2 :: o538x2 :: o539x2 :: o540x2 :: o541x2 :: o542x2 :: o543x2 :: o544x2 :: o545x2 :: o546x2 :: o547x2 :: o548x2 :: o549x2 :: o550x2 :: o551x2 :: o552x2 :: o553x2 :: o554x2 :: o555x2 :: o556x2 :: o557x2 :: o558x2 :: o559x2 :: o560x2 :: o561x2 :: o562x2 :: o563x2 :: o564x2 :: o565x2 :: o566x2 :: o567x2 :: o568x2 :: o569x2 :: o570x2 :: o571x2 :: o572x2 :: o573x2 :: o574x2 :: o575x2 :: o576x2 :: (o577x2 P) :: o578x2 :: o579x2 :: o580x2 :: o581x2 :: o582x2 :: (o583x2 P) :: o584x2 :: o585x2 :: o586x2 :: o587x2 :: o588x2 :: o589x2 :: o590x2 :: o591x2 :: o592x2 :: o593x2 :: o594x2 :: o595x2 :: o596x2 :: o597x2 :: o598x2 :: o599x2 :: o600x2 :: o601x2 :: o602x2 :: o603x2 :: o604x2 :: o605x2 :: o606x2 :: o607x2 :: o608x2 :: o609x2 :: o610x2 :: o611x2 :: o612x2 :: o613x2 :: o614x2 :: o615x2 :: o616x2 :: o617x2 :: o618x2 :: o619x2 :: o620x2 :: o621x2 :: o622x2 :: o623x2 :: o624x2 :: o625x2 :: o626x2 :: o627x2 :: o628x2 :: o629x2 :: o630x2 :: o631x2 :: o632x2 :: o633x2 :: o634x2 :: o635x2 :: o636x2 :: o637x2 :: o638x2 :: o639x2 :: o640x2 :: o641x2 :: o642x2 :: o643x2 :: o644x2 :: o645x2 :: o646x2 :: o647x2 :: o648x2 :: o649x2 :: o650x2 :: o651x2 :: o652x2 :: o653x2 :: o654x2 :: o655x2 :: o656x2 :: o657x2 :: o658x2 :: o659x2 :: o660x2 :: o661x2 :: o662x2 :: o663x2 :: o664x2 :: o665x2 :: o666x2 :: o667x2 :: o668x2 :: o669x2 :: o670x2 :: o671x2 :: o672x2 :: o673x2 :: o674x2 :: o675x2 :: o676x2 :: o677x2 :: o678x2 :: o679x2 :: o680x2 :: o681x2 :: o682x2 :: o683x2 :: o684x2 :: o685x2 :: o686x2 :: o687x2 :: o688x2 :: o689x2 :: o690x2 :: o691x2 :: o692x2 :: o693x2 :: o694x2 :: o695x2 :: o696x2 :: o697x2 :: o698x2 :: o699x2 :: (o700x2 P) :: o701x3 :: o702x2 :: o703x2 :: o704x2 :: o705x2 :: o706x3 :: o707x3 :: (o708x3 P) :: o709x3 :: o710x3 :: o711x3 :: o712x3 :: o713x3 :: o714x3 :: o715x3 :: o716x3 :: o717x3 :: o718x3 :: o719x3 :: o720x3 :: o721x3 :: o722x3 :: o723x3 :: o724x3 :: o725x3 :: o726x3 :: o727x3 :: o728x3 :: o729x3 :: o730x3 :: o731x3 :: o732x3 :: o733x3 :: o734x3 :: o735x3 :: o736x3 :: (o737x3 P) :: o738x3 :: o739x3 :: o740x3 :: o741x3 :: o742x3 :: o743x3 :: o744x3 :: (o745x3 P) :: o746x3 :: o747x3 :: o748x3 :: o749x3 :: o750x3 :: o751x3 :: o752x3 :: o753x3 :: o754x3 :: o755x3 :: o756x3 :: o757x3 :: o758x3 :: o759x3 :: o760x3 :: o761x3 :: o762x3 :: o763x3 :: o764x3 :: o765x3 :: o766x3 :: o767x3 :: o768x3 :: o769x3 :: o770x3 :: o771x3 :: o772x3 :: o773x3 :: o774x3 :: o775x3 :: o776x3 :: o777x3 :: o778x3 :: o779x3 :: o780x3 :: o781x3 :: o782x3 :: o783x3 :: o784x3 :: o785x3 :: o786x3 :: o787x3 :: o788x3 :: o789x3 :: o790x3 :: o791x3 :: o792x3 :: o793x3 :: o794x3 :: o795x3 :: o796x3 :: o797x3 :: o798x3 :: o799x3 :: o800x3 :: o801x3 :: o802x3 :: o803x3 :: o804x3 :: o805x3 :: o806x3 :: o807x3 :: o808x3 :: o809x3 :: o810x3 :: o811x3 :: o812x3 :: o813x3 :: o814x3 :: o815x3 :: o816x3 :: o817x3 :: o818x3 :: o819x3 :: o820x3 :: o821x3 :: o822x3 :: o823x3 :: o824x3 :: o825x3 :: o826x3 :: o827x3 :: o828x3 :: o829x3 :: o830x3 :: o831x3 :: o832x3 :: o833x3 :: o834x3 :: o835x3 :: o836x3 :: o837x3 :: o838x3 :: o839x3 :: o840x3 :: o841x3 :: o842x3 :: o843x3 :: o844x3 :: o845x3 :: o846x3 :: o847x3 :: o848x3 :: o849x3 :: o850x3 :: o851x3 :: o852x3 :: o853x3 :: o854x3 :: o855x3 :: o856x3 :: o857x3 :: o858x3 :: o859x3 :: o860x3 :: o861x3 :: o862x3 :: o863x3 :: o864x3 :: o865x3 :: o866x3 :: o867x3 :: o868x3 :: o869x3 :: o870x3 :: o871x3 :: o872x3 :: o873x3 :: o874x3 :: (o875x3 P) :: o876x3 :: o877x3 :: o878x3 :: o879x3 :: o880x3 :: (o881x3 P) :: o882x3 :: o883x3 :: o884x3 :: o885x3 :: o886x3 :: o887x3 :: o888x3 :: o889x3 :: o890x3 :: o891x3 :: o892x3 :: o893x3 :: o894x3 :: o895x3 :: (o896x3 P) :: o897x3 :: o898x3 :: o899x3 :: o900x3 :: o901x3 :: (o902x3 P) :: o903x3 :: o904x3 :: o905x3 :: o906x3 :: o907x3 :: o908x3 :: o909x3 :: o910x3 :: o911x3 :: o912x3 :: o913x3 :: o914x3 :: o915x3 :: o916x3 :: o917x3 :: o918x3 :: o919x3 :: o920x3 :: o921x3 :: o922x3 :: o923x3 :: o924x3 :: o925x3 :: o926x3 :: o927x3 :: o928x3 :: o929x3 :: o930x3 :: o931x3 :: o932x3 :: o933x3 :: o934x3 :: o935x3 :: o936x3 :: o937x3 :: o938x3 :: o939x3 :: o940x3 :: o941x3 :: o942x3 :: o943x3 :: o944x3 :: o945x3 :: o946x3 :: o947x3 :: o948x3 :: o949x3 :: o950x3 :: o951x3 :: o952x3 :: o953x3 :: o954x3 :: o955x3 :: o956x3 :: o957x3 :: o958x3 :: o959x3 :: (o960x3 P) :: o961x3 :: o962x3 :: o963x3 :: o964x3 :: o965x3 :: o966x3 :: o967x3 :: o968x3 :: o969x3 :: o970x3 :: o971x3 :: o972x3 :: o973x3 :: o974x3 :: o975x3 :: o976x3 :: o977x3 :: o978x3 :: o979x3 :: o980x3 :: o981x3 :: o982x3 :: o983x3 :: o984x3 :: o985x3 :: o986x3 :: o987x3 :: o988x3 :: o989x3 :: []⟩, life⟩
def K (P : Params) : Frag := (nat_lit 2, o2) :: (nat_lit 3, (o3x3 P)) :: (nat_lit 15, o15x1) :: (nat_lit 17, o17x1) :: (nat_lit 18, o18x1) :: (nat_lit 20, o20x1) :: (nat_lit 21, o21x1) :: (nat_lit 29, o29x1) :: (nat_lit 31, o31x1) :: (nat_lit 32, o32x1) :: (nat_lit 34, o34x1) :: (nat_lit 35, o35x1) :: (nat_lit 36, o36x1) :: (nat_lit 38, o38x1) :: (nat_lit 39, o39x1) :: (nat_lit 41, o41x1) :: (nat_lit 42, o42x1) :: (nat_lit 43, o43x1) :: (nat_lit 45, o45x1) :: (nat_lit 46, o46x1) :: (nat_lit 48, o48x1) :: (nat_lit 49, o49x1) :: (nat_lit 50, o50x1) :: (nat_lit 52, o52x1) :: (nat_lit 53, o53x1) :: (nat_lit 55, o55x1) :: (nat_lit 56, o56x1) :: (nat_lit 57, o57x1) :: (nat_lit 59, o59x1) :: (nat_lit 60, o60x1) :: (nat_lit 62, o62x1) :: (nat_lit 63, o63x1) :: (nat_lit 64, o64x1) :: (nat_lit 65, (o65x1 P)) :: (nat_lit 66, o66x1) :: (nat_lit 67, o67x1) :: (nat_lit 68, o68x1) :: (nat_lit 78, o78x1) :: (nat_lit 80, o80x1) :: (nat_lit 81, o81x1) :: (nat_lit 83, o83x1) :: (nat_lit 84, o84x1) :: (nat_lit 85, o85x1) :: (nat_lit 87, o87x1) :: (nat_lit 88, o88x1) :: (nat_lit 90, o90x1) :: (nat_lit 91, o91x1) :: (nat_lit 92, o92x1) :: (nat_lit 94, o94x1) :: (nat_lit 95, o95x1) :: (nat_lit 97, o97x1) :: (nat_lit 98, o98x1) :: (nat_lit 99, o99x1) :: (nat_lit 102, o102x1) :: (nat_lit 103, o103x1) :: (nat_lit 104, o104x1) :: (nat_lit 106, o106x1) :: (nat_lit 107, o107x1) :: (nat_lit 109, o109x1) :: (nat_lit 110, o110x1) :: (nat_lit 111, o111x1) :: (nat_lit 113, o113x1) :: (nat_lit 114, o114x1) :: (nat_lit 116, o116x1) :: (nat_lit 117, o117x1) :: (nat_lit 118, o118x1) :: (nat_lit 120, o120x1) :: (nat_lit 121, o121x1) :: (nat_lit 123, o123x1) :: (nat_lit 124, o124x1) :: (nat_lit 125, o125x1) :: (nat_lit 128, o128x1) :: (nat_lit 129, o129x1) :: (nat_lit 130, o130x1) :: (nat_lit 133, o133x1) :: (nat_lit 134, o134x1) :: (nat_lit 135, o135x1) :: (nat_lit 138, o138x1) :: (nat_lit 139, o139x1) :: (nat_lit 140, o140x1) :: (nat_lit 142, o142x1) :: (nat_lit 143, o143x1) :: (nat_lit 145, o145x1) :: (nat_lit 146, o146x1) :: (nat_lit 147, o147x1) :: (nat_lit 149, o149x1) :: (nat_lit 150, o150x1) :: (nat_lit 152, o152x1) :: (nat_lit 153, o153x1) :: (nat_lit 154, o154x1) :: (nat_lit 156, o156x1) :: (nat_lit 157, o157x1) :: (nat_lit 159, o159x1) :: (nat_lit 160, o160x1) :: (nat_lit 161, o161x1) :: (nat_lit 164, o164x1) :: (nat_lit 165, o165x1) :: (nat_lit 166, o166x1) :: (nat_lit 168, o168x1) :: (nat_lit 169, o169x1) :: (nat_lit 171, o171x1) :: (nat_lit 172, o172x1) :: (nat_lit 173, o173x1) :: (nat_lit 175, o175x1) :: (nat_lit 176, o176x1) :: (nat_lit 178, o178x1) :: (nat_lit 179, o179x1) :: (nat_lit 180, o180x1) :: (nat_lit 182, o182x1) :: (nat_lit 183, o183x1) :: (nat_lit 185, o185x1) :: (nat_lit 186, o186x1) :: (nat_lit 187, o187x1) :: (nat_lit 190, o190x1) :: (nat_lit 191, o191x1) :: (nat_lit 192, o192x1) :: (nat_lit 194, o194x1) :: (nat_lit 195, o195x1) :: (nat_lit 197, o197x1) :: (nat_lit 198, o198x1) :: (nat_lit 199, o199x1) :: (nat_lit 201, o201x1) :: (nat_lit 202, o202x1) :: (nat_lit 204, o204x1) :: (nat_lit 205, o205x1) :: (nat_lit 206, o206x1) :: (nat_lit 208, o208x1) :: (nat_lit 209, o209x1) :: (nat_lit 211, o211x1) :: (nat_lit 212, o212x1) :: (nat_lit 213, o213x1) :: (nat_lit 215, o215x1) :: (nat_lit 216, o216x1) :: (nat_lit 218, o218x1) :: (nat_lit 219, o219x1) :: (nat_lit 220, o220x1) :: (nat_lit 222, o222x1) :: (nat_lit 223, o223x1) :: (nat_lit 225, o225x1) :: (nat_lit 226, o226x1) :: (nat_lit 227, o227x1) :: (nat_lit 228, (o228x1 P)) :: (nat_lit 229, o229x2) :: (nat_lit 230, o230x1) :: (nat_lit 231, o231x1) :: (nat_lit 241, o241x1) :: (nat_lit 243, o243x1) :: (nat_lit 244, o244x1) :: (nat_lit 246, o246x1) :: (nat_lit 247, o247x1) :: (nat_lit 248, o248x1) :: (nat_lit 250, o250x1) :: (nat_lit 251, o251x1) :: (nat_lit 253, o253x1) :: (nat_lit 254, o254x1) :: (nat_lit 255, o255x1) :: (nat_lit 257, o257x1) :: (nat_lit 258, o258x1) :: (nat_lit 260, o260x1) :: (nat_lit 261, o261x1) :: (nat_lit 262, o262x1) :: (nat_lit 264, o264x1) :: (nat_lit 265, o265x1) :: (nat_lit 267, o267x1) :: (nat_lit 268, o268x1) :: (nat_lit 269, o269x1) :: (nat_lit 271, o271x1) :: (nat_lit 272, o272x1) :: (nat_lit 274, o274x1) :: (nat_lit 275, o275x1) :: (nat_lit 276, o276x1) :: (nat_lit 277, (o277x1 P)) :: (nat_lit 278, o278x1) :: (nat_lit 279, o279x1) :: (nat_lit 280, o280x1) :: (nat_lit 283, o283x1) :: (nat_lit 290, o290x1) :: (nat_lit 293, o293x1) :: (nat_lit 294, o294x1) :: (nat_lit 295, o295x1) :: (nat_lit 297, o297x1) :: (nat_lit 298, o298x1) :: (nat_lit 300, o300x1) :: (nat_lit 301, o301x1) :: (nat_lit 302, (o302x1 P)) :: (nat_lit 303, o303x1) :: (nat_lit 304, o304x1) :: (nat_lit 305, o305x1) :: (nat_lit 307, o307x1) :: (nat_lit 308, o308x1) :: (nat_lit 310, o310x1) :: (nat_lit 311, o311x1) :: (nat_lit 312, o312x1) :: (nat_lit 314, o314x1) :: (nat_lit 315, o315x1) :: (nat_lit 317, o317x1) :: (nat_lit 318, o318x1) :: (nat_lit 319, o319x1) :: (nat_lit 321, o321x1) :: (nat_lit 322, o322x1) :: (nat_lit 324, o324x1) :: (nat_lit 325, o325x1) :: (nat_lit 326, o326x1) :: (nat_lit 328, o328x1) :: (nat_lit 329, o329x1) :: (nat_lit 331, o331x1) :: (nat_lit 332, o332x1) :: (nat_lit 333, o333x1) :: (nat_lit 336, o336x1) :: (nat_lit 337, o337x1) :: (nat_lit 338, o338x1) :: (nat_lit 341, o341x1) :: (nat_lit 342, o342x1) :: (nat_lit 343, o343x1) :: (nat_lit 345, o345x1) :: (nat_lit 346, o346x1) :: (nat_lit 348, o348x1) :: (nat_lit 349, o349x1) :: (nat_lit 350, o350x1) :: (nat_lit 353, o353x1) :: (nat_lit 354, o354x1) :: (nat_lit 355, o355x1) :: (nat_lit 357, o357x1) :: (nat_lit 358, o358x1) :: (nat_lit 360, o360x1) :: (nat_lit 361, o361x1) :: (nat_lit 362, o362x1) :: (nat_lit 365, o365x1) :: (nat_lit 366, o366x1) :: (nat_lit 367, o367x1) :: (nat_lit 368, o368x1) :: (nat_lit 370, o370x1) :: (nat_lit 371, o371x1) :: (nat_lit 373, o373x1) :: (nat_lit 374, o374x1) :: (nat_lit 375, o375x1) :: (nat_lit 377, o377x1) :: (nat_lit 378, o378x1) :: (nat_lit 380, o380x1) :: (nat_lit 381, o381x1) :: (nat_lit 382, o382x1) :: (nat_lit 383, (o383x1 P)) :: (nat_lit 384, o384x1) :: (nat_lit 387, o387x2) :: (nat_lit 394, o394x2) :: (nat_lit 396, o396x2) :: (nat_lit 397, o397x2) :: (nat_lit 399, o399x2) :: (nat_lit 400, o400x2) :: (nat_lit 401, o401x2) :: (nat_lit 403, o403x2) :: (nat_lit 404, o404x2) :: (nat_lit 406, o406x2) :: (nat_lit 407, o407x2) :: (nat_lit 408, o408x2) :: (nat_lit 410, o410x2) :: (nat_lit 411, o411x2) :: (nat_lit 413, o413x2) :: (nat_lit 414, o414x2) :: (nat_lit 415, o415x2) :: (nat_lit 417, o417x2) :: (nat_lit 418, o418x2) :: (nat_lit 420, o420x2) :: (nat_lit 421, o421x2) :: (nat_lit 422, o422x2) :: (nat_lit 423, o423x2) :: (nat_lit 425, o425x2) :: (nat_lit 426, o426x2) :: (nat_lit 428, o428x2) :: (nat_lit 429, o429x2) :: (nat_lit 430, o430x2) :: (nat_lit 431, o431x2) :: (nat_lit 433, o433x2) :: (nat_lit 434, o434x2) :: (nat_lit 436, o436x2) :: (nat_lit 437, o437x2) :: (nat_lit 438, o438x2) :: (nat_lit 440, o440x2) :: (nat_lit 441, o441x2) :: (nat_lit 443, o443x2) :: (nat_lit 444, o444x2) :: (nat_lit 445, o445x2) :: (nat_lit 447, o447x2) :: (nat_lit 448, o448x2) :: (nat_lit 450, o450x2) :: (nat_lit 451, o451x2) :: (nat_lit 452, o452x2) :: (nat_lit 454, o454x2) :: (nat_lit 455, o455x2) :: (nat_lit 457, o457x2) :: (nat_lit 458, o458x2) :: (nat_lit 459, (o459x2 P)) :: (nat_lit 460, o460x2) :: (nat_lit 461, o461x2) :: (nat_lit 462, o462x2) :: (nat_lit 465, o465x2) :: (nat_lit 466, o466x2) :: (nat_lit 467, o467x2) :: (nat_lit 469, o469x2) :: (nat_lit 470, o470x2) :: (nat_lit 472, o472x2) :: (nat_lit 473, o473x2) :: (nat_lit 474, o474x2) :: (nat_lit 477, o477x2) :: (nat_lit 478, o478x2) :: (nat_lit 479, o479x2) :: (nat_lit 481, o481x2) :: (nat_lit 482, o482x2) :: (nat_lit 484, o484x2) :: (nat_lit 485, o485x2) :: (nat_lit 486, o486x2) :: (nat_lit 489, o489x2) :: (nat_lit 490, o490x2) :: (nat_lit 491, o491x2) :: (nat_lit 493, o493x2) :: (nat_lit 494, o494x2) :: (nat_lit 496, o496x2) :: (nat_lit 497, o497x2) :: (nat_lit 498, o498x2) :: (nat_lit 500, o500x2) :: (nat_lit 501, o501x2) :: (nat_lit 503, o503x2) :: (nat_lit 504, o504x2) :: (nat_lit 505, o505x2) :: (nat_lit 507, o507x2) :: (nat_lit 508, o508x2) :: (nat_lit 510, o510x2) :: (nat_lit 511, o511x2) :: (nat_lit 512, o512x2) :: (nat_lit 513, (o513x2 P)) :: (nat_lit 514, o514x2) :: (nat_lit 517, o517x2) :: (nat_lit 524, o524x2) :: (nat_lit 526, o526x2) :: (nat_lit 527, o527x2) :: (nat_lit 529, o529x2) :: (nat_lit 530, o530x2) :: (nat_lit 531, o531x2) :: (nat_lit 533, o533x2) :: (nat_lit 534, o534x2) :: (nat_lit 536, o536x2) :: (nat_lit 537, o537x2) :: (nat_lit 538, o538x2) :: (nat_lit 540, o540x2) :: (nat_lit 541, o541x2) :: (nat_lit 543, o543x2) :: (nat_lit 544, o544x2) :: (nat_lit 545, o545x2) :: (nat_lit 548, o548x2) :: (nat_lit 549, o549x2) :: (nat_lit 550, o550x2) :: (nat_lit 552, o552x2) :: (nat_lit 553, o553x2) :: (nat_lit 555, o555x2) :: (nat_lit 556, o556x2) :: (nat_lit 557, o557x2) :: (nat_lit 559, o559x2) :: (nat_lit 560, o560x2) :: (nat_lit 562, o562x2) :: (nat_lit 563, o563x2) :: (nat_lit 564, o564x2) :: (nat_lit 566, o566x2) :: (nat_lit 567, o567x2) :: (nat_lit 569, o569x2) :: (nat_lit 570, o570x2) :: (nat_lit 571, o571x2) :: (nat_lit 574, o574x2) :: (nat_lit 575, o575x2) :: (nat_lit 576, o576x2) :: (nat_lit 577, (o577x2 P)) :: (nat_lit 578, o578x2) :: (nat_lit 588, o588x2) :: (nat_lit 589, o589x2) :: (nat_lit 591, o591x2) :: (nat_lit 592, o592x2) :: (nat_lit 594, o594x2) :: (nat_lit 595, o595x2) :: (nat_lit 596, o596x2) :: (nat_lit 599, o599x2) :: (nat_lit 600, o600x2) :: (nat_lit 601, o601x2) :: (nat_lit 603, o603x2) :: (nat_lit 604, o604x2) :: (nat_lit 606, o606x2) :: (nat_lit 607, o607x2) :: (nat_lit 608, o608x2) :: (nat_lit 610, o610x2) :: (nat_lit 611, o611x2) :: (nat_lit 613, o613x2) :: (nat_lit 614, o614x2) :: (nat_lit 615, o615x2) :: (nat_lit 617, o617x2) :: (nat_lit 618, o618x2) :: (nat_lit 620, o620x2) :: (nat_lit 621, o621x2) :: (nat_lit 622, o622x2) :: (nat_lit 623, o623x2) :: (nat_lit 625, o625x2) :: (nat_lit 626, o626x2) :: (nat_lit 628, o628x2) :: (nat_lit 629, o629x2) :: (nat_lit 630, o630x2) :: (nat_lit 632, o632x2) :: (nat_lit 633, o633x2) :: (nat_lit 635, o635x2) :: (nat_lit 636, o636x2) :: (nat_lit 637, o637x2) :: (nat_lit 639, o639x2) :: (nat_lit 640, o640x2) :: (nat_lit 642, o642x2) :: (nat_lit 643, o643x2) :: (nat_lit 644, o644x2) :: (nat_lit 646, o646x2) :: (nat_lit 647, o647x2) :: (nat_lit 649, o649x2) :: (nat_lit 650, o650x2) :: (nat_lit 651, o651x2) :: (nat_lit 654, o654x2) :: (nat_lit 655, o655x2) :: (nat_lit 656, o656x2) :: (nat_lit 659, o659x2) :: (nat_lit 660, o660x2) :: (nat_lit 661, o661x2) :: (nat_lit 663, o663x2) :: (nat_lit 664, o664x2) :: (nat_lit 666, o666x2) :: (nat_lit 667, o667x2) :: (nat_lit 668, o668x2) :: (nat_lit 671, o671x2) :: (nat_lit 672, o672x2) :: (nat_lit 673, o673x2) :: (nat_lit 675, o675x2) :: (nat_lit 676, o676x2) :: (nat_lit 678, o678x2) :: (nat_lit 679, o679x2) :: (nat_lit 680, o680x2) :: (nat_lit 683, o683x2) :: (nat_lit 684, o684x2) :: (nat_lit 685, o685x2) :: (nat_lit 687, o687x2) :: (nat_lit 688, o688x2) :: (nat_lit 690, o690x2) :: (nat_lit 691, o691x2) :: (nat_lit 692, o692x2) :: (nat_lit 694, o694x2) :: (nat_lit 695, o695x2) :: (nat_lit 697, o697x2) :: (nat_lit 698, o698x2) :: (nat_lit 699, o699x2) :: (nat_lit 700, (o700x2 P)) :: (nat_lit 701, o701x3) :: (nat_lit 702, o702x2) :: (nat_lit 703, o703x2) :: (nat_lit 713, o713x3) :: (nat_lit 715, o715x3) :: (nat_lit 716, o716x3) :: (nat_lit 718, o718x3) :: (nat_lit 719, o719x3) :: (nat_lit 720, o720x3) :: (nat_lit 721, o721x3) :: (nat_lit 723, o723x3) :: (nat_lit 724, o724x3) :: (nat_lit 726, o726x3) :: (nat_lit 727, o727x3) :: (nat_lit 728, o728x3) :: (nat_lit 729, o729x3) :: (nat_lit 731, o731x3) :: (nat_lit 732, o732x3) :: (nat_lit 734, o734x3) :: (nat_lit 735, o735x3) :: (nat_lit 736, o736x3) :: (nat_lit 737, (o737x3 P)) :: (nat_lit 738, o738x3) :: (nat_lit 739, o739x3) :: (nat_lit 740, o740x3) :: (nat_lit 743, o743x3) :: (nat_lit 746, o746x3) :: (nat_lit 751, o751x3) :: (nat_lit 752, o752x3) :: (nat_lit 753, o753x3) :: (nat_lit 755, o755x3) :: (nat_lit 756, o756x3) :: (nat_lit 758, o758x3) :: (nat_lit 759, o759x3) :: (nat_lit 760, o760x3) :: (nat_lit 762, o762x3) :: (nat_lit 763, o763x3) :: (nat_lit 765, o765x3) :: (nat_lit 766, o766x3) :: (nat_lit 767, o767x3) :: (nat_lit 769, o769x3) :: (nat_lit 770, o770x3) :: (nat_lit 772, o772x3) :: (nat_lit 773, o773x3) :: (nat_lit 774, o774x3) :: (nat_lit 776, o776x3) :: (nat_lit 777, o777x3) :: (nat_lit 779, o779x3) :: (nat_lit 780, o780x3) :: (nat_lit 781, o781x3) :: (nat_lit 783, o783x3) :: (nat_lit 784, o784x3) :: (nat_lit 786, o786x3) :: (nat_lit 787, o787x3) :: (nat_lit 788, o788x3) :: (nat_lit 790, o790x3) :: (nat_lit 791, o791x3) :: (nat_lit 793, o793x3) :: (nat_lit 794, o794x3) :: (nat_lit 795, o795x3) :: (nat_lit 797, o797x3) :: (nat_lit 798, o798x3) :: (nat_lit 800, o800x3) :: (nat_lit 801, o801x3) :: (nat_lit 802, o802x3) :: (nat_lit 804, o804x3) :: (nat_lit 805, o805x3) :: (nat_lit 807, o807x3) :: (nat_lit 808, o808x3) :: (nat_lit 809, o809x3) :: (nat_lit 811, o811x3) :: (nat_lit 812, o812x3) :: (nat_lit 814, o814x3) :: (nat_lit 815, o815x3) :: (nat_lit 816, o816x3) :: (nat_lit 818, o818x3) :: (nat_lit 819, o819x3) :: (nat_lit 821, o821x3) :: (nat_lit 822, o822x3) :: (nat_lit 823, o823x3) :: (nat_lit 825, o825x3) :: (nat_lit 826, o826x3) :: (nat_lit 828, o828x3) :: (nat_lit 829, o829x3) :: (nat_lit 830, o830x3) :: (nat_lit 831, o831x3) :: (nat_lit 833, o833x3) :: (nat_lit 834, o834x3) :: (nat_lit 836, o836x3) :: (nat_lit 837, o837x3) :: (nat_lit 838, o838x3) :: (nat_lit 839, o839x3) :: (nat_lit 841, o841x3) :: (nat_lit 842, o842x3) :: (nat_lit 844, o844x3) :: (nat_lit 845, o845x3) :: (nat_lit 846, o846x3) :: (nat_lit 848, o848x3) :: (nat_lit 849, o849x3) :: (nat_lit 851, o851x3) :: (nat_lit 852, o852x3) :: (nat_lit 853, o853x3) :: (nat_lit 855, o855x3) :: (nat_lit 856, o856x3) :: (nat_lit 858, o858x3) :: (nat_lit 859, o859x3) :: (nat_lit 860, o860x3) :: (nat_lit 862, o862x3) :: (nat_lit 863, o863x3) :: (nat_lit 865, o865x3) :: (nat_lit 866, o866x3) :: (nat_lit 867, o867x3) :: (nat_lit 869, o869x3) :: (nat_lit 870, o870x3) :: (nat_lit 872, o872x3) :: (nat_lit 873, o873x3) :: (nat_lit 874, o874x3) :: (nat_lit 875, (o875x3 P)) :: (nat_lit 876, o876x3) :: (nat_lit 879, o879x3) :: (nat_lit 882, o882x3) :: (nat_lit 887, o887x3) :: (nat_lit 888, o888x3) :: (nat_lit 890, o890x3) :: (nat_lit 891, o891x3) :: (nat_lit 893, o893x3) :: (nat_lit 894, o894x3) :: (nat_lit 895, o895x3) :: (nat_lit 896, (o896x3 P)) :: (nat_lit 897, o897x3) :: (nat_lit 900, o900x3) :: (nat_lit 907, o907x3) :: (nat_lit 909, o909x3) :: (nat_lit 910, o910x3) :: (nat_lit 912, o912x3) :: (nat_lit 913, o913x3) :: (nat_lit 914, o914x3) :: (nat_lit 915, o915x3) :: (nat_lit 917, o917x3) :: (nat_lit 918, o918x3) :: (nat_lit 920, o920x3) :: (nat_lit 921, o921x3) :: (nat_lit 922, o922x3) :: (nat_lit 924, o924x3) :: (nat_lit 925, o925x3) :: (nat_lit 927, o927x3) :: (nat_lit 928, o928x3) :: (nat_lit 929, o929x3) :: (nat_lit 932, o932x3) :: (nat_lit 933, o933x3) :: (nat_lit 934, o934x3) :: (nat_lit 937, o937x3) :: (nat_lit 938, o938x3) :: (nat_lit 939, o939x3) :: (nat_lit 942, o942x3) :: (nat_lit 943, o943x3) :: (nat_lit 944, o944x3) :: (nat_lit 947, o947x3) :: (nat_lit 948, o948x3) :: (nat_lit 949, o949x3) :: (nat_lit 952, o952x3) :: (nat_lit 953, o953x3) :: (nat_lit 954, o954x3) :: (nat_lit 957, o957x3) :: (nat_lit 958, o958x3) :: (nat_lit 959, o959x3) :: (nat_lit 960, (o960x3 P)) :: (nat_lit 961, o961x3) :: (nat_lit 964, o964x3) :: (nat_lit 966, o966x3) :: (nat_lit 967, o967x3) :: (nat_lit 969, o969x3) :: (nat_lit 970, o970x3) :: (nat_lit 971, o971x3) :: (nat_lit 973, o973x3) :: (nat_lit 974, o974x3) :: (nat_lit 976, o976x3) :: (nat_lit 977, o977x3) :: (nat_lit 978, o978x3) :: (nat_lit 980, o980x3) :: (nat_lit 981, o981x3) :: (nat_lit 983, o983x3) :: (nat_lit 984, o984x3) :: (nat_lit 985, o985x3) :: (nat_lit 988, o988x3) :: (nat_lit 989, o989x3) :: []
def kas : List Addr := [2, 3, 15, 17, 18, 20, 21, 29, 31, 32, 34, 35, 36, 38, 39, 41, 42, 43, 45, 46, 48, 49, 50, 52, 53, 55, 56, 57, 59, 60, 62, 63, 64, 65, 66, 67, 68, 78, 80, 81, 83, 84, 85, 87, 88, 90, 91, 92, 94, 95, 97, 98, 99, 102, 103, 104, 106, 107, 109, 110, 111, 113, 114, 116, 117, 118, 120, 121, 123, 124, 125, 128, 129, 130, 133, 134, 135, 138, 139, 140, 142, 143, 145, 146, 147, 149, 150, 152, 153, 154, 156, 157, 159, 160, 161, 164, 165, 166, 168, 169, 171, 172, 173, 175, 176, 178, 179, 180, 182, 183, 185, 186, 187, 190, 191, 192, 194, 195, 197, 198, 199, 201, 202, 204, 205, 206, 208, 209, 211, 212, 213, 215, 216, 218, 219, 220, 222, 223, 225, 226, 227, 228, 229, 230, 231, 241, 243, 244, 246, 247, 248, 250, 251, 253, 254, 255, 257, 258, 260, 261, 262, 264, 265, 267, 268, 269, 271, 272, 274, 275, 276, 277, 278, 279, 280, 283, 290, 293, 294, 295, 297, 298, 300, 301, 302, 303, 304, 305, 307, 308, 310, 311, 312, 314, 315, 317, 318, 319, 321, 322, 324, 325, 326, 328, 329, 331, 332, 333, 336, 337, 338, 341, 342, 343, 345, 346, 348, 349, 350, 353, 354, 355, 357, 358, 360, 361, 362, 365, 366, 367, 368, 370, 371, 373, 374, 375, 377, 378, 380, 381, 382, 383, 384, 387, 394, 396, 397, 399, 400, 401, 403, 404, 406, 407, 408, 410, 411, 413, 414, 415, 417, 418, 420, 421, 422, 423, 425, 426, 428, 429, 430, 431, 433, 434, 436, 437, 438, 440, 441, 443, 444, 445, 447, 448, 450, 451, 452, 454, 455, 457, 458, 459, 460, 461, 462, 465, 466, 467, 469, 470, 472, 473, 474, 477, 478, 479, 481, 482, 484, 485, 486, 489, 490, 491, 493, 494, 496, 497, 498, 500, 501, 503, 504, 505, 507, 508, 510, 511, 512, 513, 514, 517, 524, 526, 527, 529, 530, 531, 533, 534, 536, 537, 538, 540, 541, 543, 544, 545, 548, 549, 550, 552, 553, 555, 556, 557, 559, 560, 562, 563, 564, 566, 567, 569, 570, 571, 574, 575, 576, 577, 578, 588, 589, 591, 592, 594, 595, 596, 599, 600, 601, 603, 604, 606, 607, 608, 610, 611, 613, 614, 615, 617, 618, 620, 621, 622, 623, 625, 626, 628, 629, 630, 632, 633, 635, 636, 637, 639, 640, 642, 643, 644, 646, 647, 649, 650, 651, 654, 655, 656, 659, 660, 661, 663, 664, 666, 667, 668, 671, 672, 673, 675, 676, 678, 679, 680, 683, 684, 685, 687, 688, 690, 691, 692, 694, 695, 697, 698, 699, 700, 701, 702, 703, 713, 715, 716, 718, 719, 720, 721, 723, 724, 726, 727, 728, 729, 731, 732, 734, 735, 736, 737, 738, 739, 740, 743, 746, 751, 752, 753, 755, 756, 758, 759, 760, 762, 763, 765, 766, 767, 769, 770, 772, 773, 774, 776, 777, 779, 780, 781, 783, 784, 786, 787, 788, 790, 791, 793, 794, 795, 797, 798, 800, 801, 802, 804, 805, 807, 808, 809, 811, 812, 814, 815, 816, 818, 819, 821, 822, 823, 825, 826, 828, 829, 830, 831, 833, 834, 836, 837, 838, 839, 841, 842, 844, 845, 846, 848, 849, 851, 852, 853, 855, 856, 858, 859, 860, 862, 863, 865, 866, 867, 869, 870, 872, 873, 874, 875, 876, 879, 882, 887, 888, 890, 891, 893, 894, 895, 896, 897, 900, 907, 909, 910, 912, 913, 914, 915, 917, 918, 920, 921, 922, 924, 925, 927, 928, 929, 932, 933, 934, 937, 938, 939, 942, 943, 944, 947, 948, 949, 952, 953, 954, 957, 958, 959, 960, 961, 964, 966, 967, 969, 970, 971, 973, 974, 976, 977, 978, 980, 981, 983, 984, 985, 988, 989]

end Mine.hd

namespace Mine.hd
open PySem PySem.W PySem.Calls PyProof.Rows
theorem g0 (w : World) : (fun os : OsState => segRunT treeTable p w 11 ann 1 2469 (S0 w os) (piecesOf sts0 env code ps0 [topFrame q])) = fun os => some (Flow.next, S1 w os, code, ps1) := by kernel_rfl
end Mine.hd

namespace Mine.hd
open PySem PySem.W PySem.Calls PyProof.Rows
theorem g1 (w : World) : (fun os : OsState => segRunT treeTable p w 11 ann 1 2174 (S1 w os) (piecesOf sts1 env code ps1 [topFrame q])) = fun os => some (Flow.next, S2 w os, code, ps2) := by kernel_rfl
end Mine.hd

namespace Mine.hd
open PySem PySem.W PySem.Calls PyProof.Rows
theorem g2 (w : World) : (fun os : OsState => segRunT treeTable p w 11 ann 1 1973 (S2 w os) (piecesOf sts2 env code ps2 [topFrame q])) = fun os => some (Flow.next, S3 w os, code, ps3) := by kernel_rfl
end Mine.hd

namespace Mine.hd
open PySem PySem.W PySem.Calls PyProof.Rows
def vw : Program := view p [0, 2, 3, 5, 7, 8, 9, 11, 12, 14, 15, 16, 18, 19, 20, 21, 22]
def loose : List Str := ["PolynomialRing", "Polynomial", "MatrixGeneric", "Matrix", "Module"]
theorem pre (w : World) (os : OsState) : topGo treeTable p w 11 ann 12 ⟨boot_heap w.params, ⟨[]⟩, boot_drawn, boot_toks, os⟩ (topStub p) = some ((S0 w os).abs, ⟨denote treeTable code, code, ⟨0, 0, 0, 0⟩, [topFrame q]⟩) := by kernel_rfl
theorem blk (w : World) (os : OsState) : segRun treeTable p w 11 ann 1 1 (S0 w os).abs (blockOf (behindTheImports p) env code ⟨0, 0, 0, 0⟩ [topFrame q]) = some (Flow.next, (S0 w os).abs, code, ps0) := by kernel_rfl
theorem endT (P : Params) : absHeap (T3 P) 990 life = H1 P := by kernel_rfl
theorem fin (w : World) (os : OsState) : topRun treeTable p w 11 ann 2 (S3 w os).abs ⟨doneF .next, code, ps3, [topFrame q]⟩ = some (S3 w os).abs := by kernel_rfl
def endS (w : World) (os : OsState) : Shared := ⟨H1 w.params, ⟨[]⟩, {}, 1432, os⟩
theorem absL (w : World) (os : OsState) : (S3 w os).abs = endS w os := congrArg (fun h => (⟨h, ⟨[]⟩, {}, 1432, os⟩ : Shared)) (endT w.params)
theorem bodyIs : behindTheImports p = (sts0 ++ (sts1 ++ (sts2 ++ []))) := by kernel_rfl
theorem run (w : World) (os : OsState) : topRun treeTable p w 11 ann (12 + (1 + (2469 + (2174 + (1973 + 2))))) ⟨boot_heap w.params, ⟨[]⟩, boot_drawn, boot_toks, os⟩ (topStub p) = some (endS w os) := by
  refine go_top (pre w os) (piece_block (blk w os) ?_)
  have h := piece_nil (env := env) (fin w os)
  replace h := piece_app (segRun_of (congrFun (g2 w) os)) h
  replace h := piece_app (segRun_of (congrFun (g1 w) os)) h
  replace h := piece_app (segRun_of (congrFun (g0 w) os)) h
  rw [absL] at h
  rw [← bodyIs] at h
  exact h
theorem opened : ∀ w : World, (fencedOpening treeTable p w 13352).map (fun s => (s.heap, s.gens, s.drawn, s.toks)) = some (boot_heap w.params, Array.mk [], boot_drawn, boot_toks) :=
  boot_open (by kernel_rfl) (by kernel_rfl) (by intro s; kernel_rfl)
theorem size : ∀ w : World, ((boot_heap w.params).isNs mainGlobals && (Array.mk [] : Array GenState).size == 0, (boot_heap w.params).objs.size, (boot_heap w.params).nsMap mainGlobals "__annotations__") = (true, 11, ann) := by
  intro w; kernel_rfl
theorem kasIs : ∀ P, kas = (K P).map (·.1) := by intro P; kernel_rfl
abbrev H : Hook := kmHook K kas kasIs tabs
abbrev rw1 := PySem.Challenge.rw_bn0016_01.row
abbrev Xt (s : Shared) : Bool := xlAt vw [] s && recOk (RowW.records rw1.toRowW) s
theorem lk1 (w : World) (os : OsState) : (staticsOk (importedModules p.main.body) (boot_heap w.params) (H1 w.params) && namesBound p (H1 w.params) && gensDone (endS w os) && laidKept (boot_heap w.params) (H1 w.params)) = true := by kernel_rfl
theorem lk2 (w : World) (os : OsState) : seen ((recsOf vw).map (·.name)) (ownsOf vw) [] { (endS w os) with gens := #[] } = expectedOf vw := by kernel_rfl
theorem lk3 (w : World) (os : OsState) : (endS w os).heap.bltView = bltViewBooted := by kernel_rfl
theorem lk4 (w : World) (os : OsState) : ((endS w os).heap.keysOk (looseW vw loose) ((recsOf vw).map (·.name)) ((litsOf vw).map (·.1)) ((clssOf vw (looseW vw loose)).map (·.name)) && (endS w os).heap.accountedOkI (importedModules p.main.body) && (endS w os).heap.isNs mainGlobals && (endS w os).heap.isNs builtinsNs && tablesOk vw (endS w os).heap && Xt (endS w os) && (if true = true then (endS w os).gens.size == 0 else !leftWithCleanup (endS w os).gens)) = true := by kernel_rfl
theorem lk5 (w : World) (os : OsState) : tabsOk vw (endS w os) = true := by kernel_rfl
theorem lk6 (w : World) (os : OsState) : pinSeenD vw (drecsOf vw) (endS w os) = pinGoodD (drecsOf vw) := by kernel_rfl
theorem lk7 (w : World) (os : OsState) : plainSeenE vw (looseW vw loose) (endS w os) = plainGoodE vw (looseW vw loose) := by kernel_rfl
theorem lk8 (w : World) (os : OsState) : plainSeenD vw loose (endS w os) = plainGoodD vw loose := by kernel_rfl
theorem lk9 (w : World) (os : OsState) : wideSeen vw (endS w os) = wideGood vw := by kernel_rfl
theorem lk10 (w : World) (os : OsState) : clsSeenW vw loose (endS w os) = clsGoodW vw loose := by kernel_rfl
theorem getsT (t : BT) (n : Nat) (l : Life) : ∀ as : List Addr, (as.all fun a => Nat.blt a n && (t.get a).isSome) = true → as.map (absHeap t n l).get? = as.map fun a => (t.get a).bind alive
  | [], _ => rfl
  | a :: r, h => by
    obtain ⟨h1, h2⟩ := Bool.and_eq_true_iff.mp (by rw [List.all_cons] at h; exact h)
    obtain ⟨h3, h4⟩ := Bool.and_eq_true_iff.mp h1
    obtain ⟨o, ho⟩ := Option.isSome_iff_exists.mp h4
    rw [List.map_cons, List.map_cons, getsT t n l r h2, abs_get (Nat.le_of_ble_eq_true h3) ho, ho]
    rfl
theorem lk11a (P : Params) : (kas.all fun a => Nat.blt a 990 && ((T3 P).get a).isSome) = true := by kernel_rfl
theorem lk11b (P : Params) : (kas.map fun a => ((T3 P).get a).bind alive) = (K P).map fun p => some p.2 := by kernel_rfl
theorem lk11c (w : World) (os : OsState) : tabs.map (endS w os).heap.get? = tabs.map fun _ => some (tabObj #[]) := by kernel_rfl
theorem lk11 (w : World) (os : OsState) : H.obs (endS w os) = H.val w := by
  refine Prod.ext ?_ (lk11c w os)
  show kas.map (H1 w.params).get? = _
  rw [← endT, getsT _ _ _ _ (lk11a w.params)]
  exact lk11b w.params
theorem looks (w : World) : (fun os : OsState => ((staticsOk (importedModules p.main.body) (boot_heap w.params) (H1 w.params) && namesBound p (H1 w.params) && gensDone (endS w os) && laidKept (boot_heap w.params) (H1 w.params)),
    openSeen vw loose (importedModules p.main.body) Xt true (endS w os), H.obs (endS w os))) = fun _ => (true, openGood vw loose, H.val w) := by
  funext os
  exact looks_pair (lk1 w os) (looks_pair (looks_pair (lk2 w os) (looks_pair (lk3 w os) (looks_pair (lk4 w os) (looks_pair (lk5 w os) (looks_pair (lk6 w os) (looks_pair (lk7 w os) (looks_pair (lk8 w os) (looks_pair (lk9 w os) (lk10 w os))))))))) (lk11 w os))
theorem left : LeftO p vw loose Xt H.obs H.val 13352 :=
  LeftO.of_pieces (H₀ := boot_heap) (H₁ := H1) (gs₁ := ⟨[]⟩) (d₁ := {}) (k₁ := 1432) opened size run (by kernel_rfl) looks
def dk : DefRec × List (Str × Expr) := (defOf vw "law").getD (⟨"law", ⟨[], [], none, [], [], none, []⟩, [], p.main.scope, q⟩, [])
theorem bareIs : rw1.prog.bare := ⟨by kernel_rfl, by kernel_rfl, by kernel_rfl, by kernel_rfl, by kernel_rfl, by kernel_rfl⟩
theorem dkName : dk.1.name = "law" := by kernel_rfl
end Mine.hd
namespace Mine
open PySem PySem.W PySem.Calls PyProof.Rows
/-- the law holds, when the walk from its call does -/
theorem top (walk : WalkO hd.vw hd.loose (XL hd.vw []) hd.H.says hd.rw1.toRowW hd.dk.1 hd.dk.2 fun f vs => PySem.call f vs) : PySem.Challenge.rw_bn0016_01.Holds := by
  o_law
  refine holds_open (q := hd.vw) (loose := hd.loose) (Xt := hd.Xt) (XP := XL hd.vw []) (Yf := hd.H.obs) (Ya := hd.H.val) (YP := hd.H.says) (d := hd.dk.1) (kwd := hd.dk.2) (N := 13352) hd.left hd.H.of hd.H.keeps (fun s e => xl_of s (Bool.and_eq_true_iff.mp e).1) XL.keeps
    (by kernel_rfl) (by kernel_rfl) (by kernel_rfl) (fun s e => recFacts_of (Bool.and_eq_true_iff.mp e).2) (by kernel_rfl) (by assumption) (by decide +kernel) hd.bareIs ?hw walk
  case hw => w_witness2
end Mine
end
section
open PySem PySem.W PySem.Calls PyProof.Rows PySem.Spec
set_option Elab.async false
set_option maxRecDepth 100000
namespace Mine

abbrev Sub (h h' : Heap) : Prop := ∀ b o, h.get? b = some o → h'.get? b = some o

/-- what stays the same through the whole proof -/
structure Cfg where
  prog : Program
  w : World
  ts : List Addr
  ex : List Addr
  p : Program
  loose : List Str
  mean : ExcName → Option Value
  mg : Str → Option Value
  mb : Str → Option Value

abbrev Cfg.M (C : Cfg) : Model := model C.prog C.w

def TabAt (h : Heap) (P : Addr) : Prop := ∃ ps : Array Value, h.get? P = some (tabObj ps) ∧ TriplesOk ps.toList

/-- g is a part of the state's heap that stays: what no one turns any more -/
structure St (C : Cfg) (K : Frag) (g : Heap) (s : Shared) : Prop where
  sub : Sub g s.heap
  gt : ∀ P ∈ C.ts, g.get? P = none
  ge : ∀ P ∈ C.ex, g.get? P = none
  exs : ∀ b ∈ C.ex, ∃ o, s.heap.get? b = some o
  tab : ∀ P ∈ C.ts, TabAt s.heap P
  gens : AllBare s.gens
  kin : K.In g
  top : Top C.p C.loose C.mean C.mg C.mb g

/-- what else may change: nothing outside, and generators only come -/
structure Out (s s' : Shared) : Prop where
  os : s'.os = s.os
  dr : s'.drawn = s.drawn
  gk : ∀ (k : Nat) (x : GenState), s.gens[k]? = some x → s'.gens[k]? = some x
theorem Out.trans {s s' s'' : Shared} (y : Out s' s'') (x : Out s s') : Out s s'' := ⟨y.os.trans x.os, y.dr.trans x.dr, fun k z e => y.gk k z (x.gk k z e)⟩

/-- from (g, s) to (g', s'): all that stands is kept, what g gains is new -/
structure Gr (C : Cfg) (g : Heap) (s : Shared) (g' : Heap) (s' : Shared) : Prop where
  up : Sub g g'
  sub : Sub g' s'.heap
  keep : ∀ b o, b ∉ C.ts → b ∉ C.ex → s.heap.get? b = some o → s'.heap.get? b = some o
  exk : ∀ b ∈ C.ex, ∀ o, s.heap.get? b = some o → ∃ o', s'.heap.get? b = some o'
  fresh : ∀ b o, g.get? b = none → s.heap.get? b = some o → g'.get? b = none
  tab : ∀ P ∈ C.ts, TabAt s'.heap P
  gens : AllBare s'.gens
  os : Out s s'
  geR : ∀ P ∈ C.ex, g.get? P = none → g'.get? P = none

variable {C : Cfg} {K : Frag}

theorem St.tok {g : Heap} {s : Shared} (x : St C K g s) (t : Nat) : St C K g { s with toks := t } := ⟨x.sub, x.gt, x.ge, x.exs, x.tab, x.gens, x.kin, x.top⟩
theorem Gr.refl {g : Heap} {s : Shared} (x : St C K g s) : Gr C g s g s := ⟨fun _ _ e => e, x.sub, fun _ _ _ _ e => e, fun _ _ o e => ⟨o, e⟩, fun _ _ e _ => e, x.tab, x.gens, ⟨rfl, rfl, fun _ _ e => e⟩, fun _ _ e => e⟩
theorem Gr.st {g g' : Heap} {s s' : Shared} (x : St C K g s) (y : Gr C g s g' s') : St C K g' s' where
  sub := y.sub
  gt := fun P hP => let ⟨_, h, _⟩ := x.tab P hP; y.fresh P _ (x.gt P hP) h
  ge := fun P hP => y.geR P hP (x.ge P hP)
  exs := fun P hP => let ⟨o, e⟩ := x.exs P hP; y.exk P hP o e
  tab := y.tab
  gens := y.gens
  kin := x.kin.keeps y.up
  top := x.top.keeps y.up
theorem Gr.trans {g g' g'' : Heap} {s s' s'' : Shared} (x : Gr C g s g' s') (y : Gr C g' s' g'' s'') : Gr C g s g'' s'' where
  up := fun b o e => y.up b o (x.up b o e)
  sub := y.sub
  keep := fun b o hb hx e => y.keep b o hb hx (x.keep b o hb hx e)
  exk := fun b hb o e => let ⟨o', e'⟩ := x.exk b hb o e; y.exk b hb o' e'
  fresh := fun b o e h => by
    by_cases hb : b ∈ C.ts
    · obtain ⟨_, h', _⟩ := x.tab b hb
      exact y.fresh b _ (x.fresh b o e h) h'
    · by_cases hx : b ∈ C.ex
      · obtain ⟨o', h'⟩ := x.exk b hx o h
        exact y.fresh b o' (x.fresh b o e h) h'
      · exact y.fresh b o (x.fresh b o e h) (x.keep b o hb hx h)
  tab := y.tab
  gens := y.gens
  os := y.os.trans x.os
  geR := fun P hP e => y.geR P hP (x.geR P hP e)
theorem Gr.tok_r {g g' : Heap} {s s' : Shared} (x : Gr C g s g' s') (t : Nat) : Gr C g s g' { s' with toks := t } := ⟨x.up, x.sub, x.keep, x.exk, x.fresh, x.tab, x.gens, ⟨x.os.1, x.os.2, x.os.3⟩, x.geR⟩
theorem Gr.tok_l {g g' : Heap} {s s' : Shared} {t : Nat} (x : Gr C g { s with toks := t } g' s') : Gr C g s g' s' := ⟨x.up, x.sub, x.keep, x.exk, x.fresh, x.tab, x.gens, ⟨x.os.1, x.os.2, x.os.3⟩, x.geR⟩

/-- the part of a heap at the addresses that p says -/
def restrict (h : Heap) (p : Addr → Bool) : Heap := ⟨h.objs.mapIdx fun i o => if p i then o else { o with data := .freed }, h.life⟩
theorem restrict_get (h : Heap) (p : Addr → Bool) (b : Addr) : (restrict h p).get? b = if p b then h.get? b else none := by
  obtain ⟨objs, l⟩ := h
  unfold restrict Heap.get?
  simp only [Array.getElem?_mapIdx]
  cases hb : objs[b]? with
  | none => simp
  | some o =>
    simp only [Option.map_some]
    cases hp : p b with
    | true => simp
    | false => simp

/-- the largest part that stays -/
def nextG (g h h' : Heap) : Heap := restrict h' fun b => (g.get? b).isSome || (h.get? b).isNone
theorem nextG_get {g h h' : Heap} {b : Addr} : (nextG g h h').get? b = if (g.get? b).isSome || (h.get? b).isNone then h'.get? b else none := restrict_get _ _ _
theorem nextG_new {g h h' : Heap} {b : Addr} {o : Obj} (h1 : h.get? b = none) (h2 : h'.get? b = some o) : (nextG g h h').get? b = some o := by
  rw [nextG_get, h1]; simpa using h2

/-- a step that keeps all that stands (but tables), with the largest part behind it -/
theorem Gr.next {g : Heap} {s s' : Shared} (x : St C K g s) (keep : ∀ b o, b ∉ C.ts → b ∉ C.ex → s.heap.get? b = some o → s'.heap.get? b = some o) (exk : ∀ b ∈ C.ex, ∃ o, s.heap.get? b = some o ∧ ∃ o', s'.heap.get? b = some o') (tab : ∀ P ∈ C.ts, TabAt s'.heap P) (gens : AllBare s'.gens) (os : Out s s') :
    Gr C g s (nextG g s.heap s'.heap) s' where
  up := fun b o e => by
    have hb : b ∉ C.ts := fun q => by rw [x.gt b q] at e; cases e
    have hx : b ∉ C.ex := fun q => by rw [x.ge b q] at e; cases e
    rw [nextG_get, e]; simpa using keep b o hb hx (x.sub b o e)
  sub := fun b o e => by rw [nextG_get] at e; split at e <;> first | exact e | cases e
  keep := keep
  exk := fun b hb _ _ => (exk b hb).elim fun _ h => h.2
  fresh := fun b o e h => by rw [nextG_get, e, h]; rfl
  tab := tab
  gens := gens
  os := os
  geR := fun P hP e => by obtain ⟨o, h, _⟩ := exk P hP; rw [nextG_get, e, h]; rfl
theorem TabAt.keeps {h h' : Heap} {P : Addr} (x : TabAt h P) (k : Sub h h') : TabAt h' P := let ⟨ps, a, b⟩ := x; ⟨ps, k _ _ a, b⟩
theorem Gr.keeps {g : Heap} {s : Shared} {h' : Heap} {t : Nat} (x : St C K g s) (k : Sub s.heap h') : Gr C g s (nextG g s.heap h') { s with heap := h', toks := t } :=
  Gr.next (s' := { s with heap := h', toks := t }) x (fun b o _ _ e => k b o e) (fun b hb => let ⟨o, e⟩ := x.exs b hb; ⟨o, e, o, k b o e⟩) (fun P hP => (x.tab P hP).keeps k) x.gens ⟨rfl, rfl, fun _ _ e => e⟩
theorem get_size_none (h : Heap) : h.get? h.objs.size = none := Heap.get?_none_of_le (Nat.le_refl _)
theorem nextG_push {g : Heap} {h : Heap} (o : Obj) (hf : o.isFreed = false := by rfl) : (nextG g h (h.push o)).get? h.objs.size = some o := nextG_new (get_size_none h) (Heap.get?_push_size _ hf)

/-- the frame's names -/
structure Loc (env : Env) (h : Heap) (σ : Str → Option Value) : Prop where
  ns : ∃ m, h.Ns env.locals m ∧ ∀ x, env.kindOf x = some .local → m x = σ x
  cell : ∀ x c, env.cells.lookup x = some c → h.IsCell c (σ x)
theorem Loc.keeps {env : Env} {h h' : Heap} {σ : Str → Option Value} (x : Loc env h σ) (k : ∀ b o, (b = env.locals ∨ ∃ n, env.cells.lookup n = some b) → h.get? b = some o → h'.get? b = some o) : Loc env h' σ where
  ns := let ⟨m, a, b⟩ := x.ns; ⟨m, a.at' fun o e => k _ o (.inl rfl) e, b⟩
  cell := fun n c e => let ⟨o, a, b⟩ := x.cell n c e; ⟨o, k _ o (.inr ⟨n, e⟩) a, b⟩

/-- a frame at work: it began at (g₀, s₀), it stands at (g, s), its names are σ -/
structure Fn (C : Cfg) (K : Frag) (g₀ : Heap) (s₀ : Shared) (env : Env) (g : Heap) (s : Shared) (σ : Str → Option Value) : Prop where
  st : St C K g s
  loc : Loc env s.heap σ
  up : Sub g₀ g
  keep : ∀ b o, b ∉ C.ts → b ∉ C.ex → s₀.heap.get? b = some o → s.heap.get? b = some o
  fresh : ∀ b o, g₀.get? b = none → s₀.heap.get? b = some o → g.get? b = none
  os : Out s₀ s
  exo : ∀ b ∈ C.ex, b ≠ env.locals ∧ ∀ n, env.cells.lookup n ≠ some b
  st₀ : St C K g₀ s₀
  own : s₀.heap.get? env.locals = none ∧ g.get? env.locals = none
  ownC : env.func ≠ none → ∀ n c, env.cells.lookup n = some c → env.kindOf n = some .cell → s₀.heap.get? c = none
  gC : env.func ≠ none → ∀ n c, env.cells.lookup n = some c → env.kindOf n = some .cell → g.get? c = none
  apart : env.func ≠ none → env.cells.Pairwise fun x y => x.2 ≠ y.2
  apartL : ∀ n c, env.cells.lookup n = some c → c ≠ env.locals
  fn : env.scope.kind = .function
  gl : env.globals = mainGlobals
  bl : env.builtins = builtinsNs

section
variable {g₀ g g' : Heap} {s₀ s s' : Shared} {env : Env} {σ : Str → Option Value}

theorem Fn.notTab (f : Fn C K g₀ s₀ env g s σ) {b : Addr} (hb : b = env.locals ∨ ∃ n, env.cells.lookup n = some b) : b ∉ C.ts := fun q => by
  obtain ⟨ps, hp, _⟩ := f.st.tab b q
  rcases hb with rfl | ⟨n, hn⟩
  · obtain ⟨m, ⟨o, es, ep, ho, hd, _⟩, _⟩ := f.loc.ns
    rw [ho] at hp; cases hp; cases hd
  · obtain ⟨o, ho, hd⟩ := f.loc.cell n b hn
    rw [ho] at hp; cases hp; cases hd
theorem Fn.notEx (f : Fn C K g₀ s₀ env g s σ) {b : Addr} (hb : b = env.locals ∨ ∃ n, env.cells.lookup n = some b) : b ∉ C.ex := fun q => by
  rcases hb with h | ⟨n, hn⟩
  · exact (f.exo b q).1 h
  · exact (f.exo b q).2 n hn
/-- what a block asks of the frame that it stands in -/
structure View (C : Cfg) (K : Frag) (env : Env) (g : Heap) (s : Shared) (σ : Str → Option Value) : Prop where
  st : St C K g s
  loc : Loc env s.heap σ
  exo : ∀ b ∈ C.ex, b ≠ env.locals ∧ ∀ n, env.cells.lookup n ≠ some b
  gl : env.globals = mainGlobals
  bl : env.builtins = builtinsNs
theorem Fn.view (f : Fn C K g₀ s₀ env g s σ) : View C K env g s σ := ⟨f.st, f.loc, f.exo, f.gl, f.bl⟩
theorem View.notTab (f : View C K env g s σ) {b : Addr} (hb : b = env.locals ∨ ∃ n, env.cells.lookup n = some b) : b ∉ C.ts := fun q => by
  obtain ⟨ps, hp, _⟩ := f.st.tab b q
  rcases hb with rfl | ⟨n, hn⟩
  · obtain ⟨m, ⟨o, es, ep, ho, hd, _⟩, _⟩ := f.loc.ns
    rw [ho] at hp; cases hp; cases hd
  · obtain ⟨o, ho, hd⟩ := f.loc.cell n b hn
    rw [ho] at hp; cases hp; cases hd
theorem View.notEx (f : View C K env g s σ) {b : Addr} (hb : b = env.locals ∨ ∃ n, env.cells.lookup n = some b) : b ∉ C.ex := fun q => by
  rcases hb with h | ⟨n, hn⟩
  · exact (f.exo b q).1 h
  · exact (f.exo b q).2 n hn
theorem Fn.tok (f : Fn C K g₀ s₀ env g s σ) (t : Nat) : Fn C K g₀ s₀ env g { s with toks := t } σ := ⟨f.st.tok t, f.loc, f.up, f.keep, f.fresh, ⟨f.os.1, f.os.2, f.os.3⟩, f.exo, f.st₀, f.own, f.ownC, f.gC, f.apart, f.apartL, f.fn, f.gl, f.bl⟩
theorem Fn.gr (f : Fn C K g₀ s₀ env g s σ) (y : Gr C g s g' s') : Fn C K g₀ s₀ env g' s' σ where
  st := y.st f.st
  loc := f.loc.keeps fun b o hb e => y.keep b o (f.notTab hb) (f.notEx hb) e
  up := fun b o e => y.up b o (f.up b o e)
  keep := fun b o hb hx e => y.keep b o hb hx (f.keep b o hb hx e)
  fresh := fun b o e h => by
    by_cases hb : b ∈ C.ts
    · obtain ⟨_, h', _⟩ := f.st.tab b hb
      exact y.fresh b _ (f.fresh b o e h) h'
    · by_cases hx : b ∈ C.ex
      · obtain ⟨o', h'⟩ := f.st.exs b hx
        exact y.fresh b o' (f.fresh b o e h) h'
      · exact y.fresh b o (f.fresh b o e h) (f.keep b o hb hx h)
  os := y.os.trans f.os
  exo := f.exo
  st₀ := f.st₀
  own := ⟨f.own.1, by
    obtain ⟨m, ⟨o, es, ep, ho, _⟩, _⟩ := f.loc.ns
    exact y.fresh _ o f.own.2 ho⟩
  ownC := f.ownC
  gC := fun hf n c e hk => by
    obtain ⟨o, ho, _⟩ := f.loc.cell n c e
    exact y.fresh c o (f.gC hf n c e hk) ho
  apart := f.apart
  apartL := f.apartL
  fn := f.fn
  gl := f.gl
  bl := f.bl
/-- what the frame's work comes to, seen from outside -/
theorem Fn.done (f : Fn C K g₀ s₀ env g s σ) : Gr C g₀ s₀ g s := ⟨f.up, f.st.sub, f.keep, fun b hb _ _ => f.st.exs b hb, f.fresh, f.st.tab, f.st.gens, ⟨f.os.1, f.os.2, f.os.3⟩, fun P hP _ => f.st.ge P hP⟩
end

section
variable {A : Around} {E : Value → Shared → Prop} {g₀ g g' : Heap} {s₀ s s' : Shared} {env : Env} {σ : Str → Option Value} {M : Model}

def varOk (env : Env) (x : Str) : Bool := (match env.kindOf x with
  | some .local => true
  | some .cell => (env.cells.lookup x).isSome
  | some .free => (env.cells.lookup x).isSome && !(x == ("__classdict__" : Str))
  | _ => false) && !(x == ("__debug__" : Str))

theorem loadVar {x : Str} {v : Value} {Q : Value → Shared → Prop} (f : Fn C K g₀ s₀ env g s σ) (hv : σ x = some v) (h : Q v s) (hk : varOk env x = true) : wpAny M A (loadName env x) Q E s := by
  unfold varOk at hk
  rw [Bool.and_eq_true] at hk
  obtain ⟨h1, h2⟩ := hk
  split at h1
  · rename_i hx
    obtain ⟨m, hn, hm⟩ := f.loc.ns
    exact wpAny_loadName_local f.fn hx hn ((hm x hx).trans hv) h
  · rename_i hx
    obtain ⟨c, hc⟩ := Option.isSome_iff_exists.mp h1
    exact wpAny_loadName_cell f.fn hx hc (hv ▸ f.loc.cell x c hc) h
  · rename_i hx
    rw [Bool.and_eq_true] at h1
    obtain ⟨c, hc⟩ := Option.isSome_iff_exists.mp h1.1
    exact wpAny_loadName_free f.fn hx hc (hv ▸ f.loc.cell x c hc) h (by simpa using h1.2)
  · cases h1
theorem nm {x : Str} {pos : Pos} {v : Value} {Q : Value → Shared → Prop} (f : Fn C K g₀ s₀ env g s σ) (hv : σ x = some v) (h : Q v s) (hk : varOk env x = true := by rfl) : wpAny M A (eval (.Name x pos) env) Q E s := by
  refine wpAny_Name (loadVar f hv h hk) ?_
  unfold varOk at hk
  rw [Bool.and_eq_true] at hk
  simpa using hk.2

def globOk (env : Env) (x : Str) : Bool := env.kindOf x == some .globalImplicit && !(x == ("__debug__" : Str))
theorem nmG {x : Str} {pos : Pos} {v : Value} {Q : Value → Shared → Prop} (f : Fn C K g₀ s₀ env g s σ) (e : nsIn K mainGlobals x = some (some v)) (h : Q v s) (hk : globOk env x = true := by rfl) : wpAny M A (eval (.Name x pos) env) Q E s := by
  unfold globOk at hk
  rw [Bool.and_eq_true, beq_iff_eq] at hk
  exact Name_function_global f.fn hk.1 (loadGlobal_global (env := env) (f.gl ▸ f.st.top.g.keeps f.st.sub) (mg_of f.st.kin f.st.top.g e) h) (by simpa using hk.2)
theorem nmB {x : Str} {pos : Pos} {v : Value} {Q : Value → Shared → Prop} (f : Fn C K g₀ s₀ env g s σ) (e : nsIn K mainGlobals x = some none) (hv : bootBuiltins x = some v) (h : Q v s) (hn : x ≠ "__name__" := by decide) (hk : globOk env x = true := by rfl) :
    wpAny M A (eval (.Name x pos) env) Q E s := by
  unfold globOk at hk
  rw [Bool.and_eq_true, beq_iff_eq] at hk
  exact Name_function_global f.fn hk.1 (loadGlobal_builtin (env := env) (f.gl ▸ f.st.top.g.keeps f.st.sub) (mg_none_of f.st.kin f.st.top.g e) (f.bl ▸ f.st.top.b.keeps f.st.sub) ((f.st.top.builtins x hn).trans hv) h) (by simpa using hk.2)

def storeOk (env : Env) (x : Str) : Bool := match env.kindOf x with
  | some .local => true
  | some .cell => (env.cells.lookup x).isSome && env.func.isSome
  | _ => false
def cellsOk (env : Env) : Bool := env.cells.all fun y => match env.kindOf y.1 with | some .local => false | _ => true

theorem storeVar {x : Str} {v : Value} {Q : Unit → Shared → Prop} (f : Fn C K g₀ s₀ env g s σ) (hk : storeOk env x = true) (hcells : cellsOk env = true)
    (h : ∀ s', Fn C K g₀ s₀ env g s' (fun y => if y = x then some v else σ y) → (∀ b o, b ≠ env.locals → (∀ n, env.cells.lookup n ≠ some b) → s.heap.get? b = some o → s'.heap.get? b = some o) → Q () s') : wpAny M A (storeName env x v) Q E s := by
  unfold storeOk at hk
  have st' : ∀ (a : Addr) (h' : Heap) (t : Nat), a ∉ C.ts → a ∉ C.ex → g.get? a = none → Heap.SameBut a s.heap h' → St C K g { s with heap := h', toks := t } := fun a h' t ha hae hg hs =>
    ⟨fun b o e => hs.extBut b o (fun q => by rw [q, hg] at e; cases e) (f.st.sub b o e), f.st.gt, f.st.ge, fun b hb => let ⟨o, e⟩ := f.st.exs b hb; ⟨o, hs.extBut b o (fun q => hae (q ▸ hb)) e⟩, fun P hP => let ⟨ps, a1, b1⟩ := f.st.tab P hP; ⟨ps, hs.extBut P _ (fun q => ha (q ▸ hP)) a1, b1⟩, f.st.gens, f.st.kin, f.st.top⟩
  split at hk
  · rename_i hx
    obtain ⟨m, hn, hm⟩ := f.loc.ns
    refine wpAny_storeName_local hx hn (fun h' hn' hs => h _ ⟨st' _ h' _ (f.notTab (.inl rfl)) (f.notEx (.inl rfl)) f.own.2 hs, ⟨⟨_, hn', fun y hy => ?_⟩, fun y c hc => ?_⟩, f.up, fun b o hb hbx e => ?_, f.fresh, ⟨f.os.1, f.os.2, f.os.3⟩, f.exo, f.st₀, f.own, f.ownC, f.gC, f.apart, f.apartL, f.fn, f.gl, f.bl⟩ fun b o h1 _ e => hs.extBut b o h1 e) (by rw [f.fn]; rfl)
    · show (if y = x then some v else m y) = if y = x then some v else σ y
      by_cases q : y = x
      · rw [if_pos q, if_pos q]
      · rw [if_neg q, if_neg q]; exact hm y hy
    · have hyx : y ≠ x := fun q => by
        have := List.all_eq_true.mp hcells _ (mem_of_lookup hc)
        simp only [q, hx] at this; cases this
      show h'.IsCell c (if y = x then some v else σ y)
      rw [if_neg hyx]
      exact (f.loc.cell y c hc).sameBut hs (f.apartL y c hc)
    · exact hs.extBut b o (fun q => by rw [q, f.own.1] at e; cases e) (f.keep b o hb hbx e)
  · rename_i hx
    rw [Bool.and_eq_true] at hk
    obtain ⟨c, hc⟩ := Option.isSome_iff_exists.mp hk.1
    have hfn : env.func ≠ none := fun q => by rw [q] at hk; cases hk.2
    have hL := f.apartL x c hc
    refine wpAny_storeName_cell f.fn hx hc (f.loc.cell x c hc) fun h' hv' hs => h _ ⟨st' c h' _ (f.notTab (.inr ⟨x, hc⟩)) (f.notEx (.inr ⟨x, hc⟩)) (f.gC hfn x c hc hx) hs, ⟨?_, fun y c' hc' => ?_⟩, f.up, fun b o hb hbx e => ?_, f.fresh, ⟨f.os.1, f.os.2, f.os.3⟩, f.exo, f.st₀, f.own, f.ownC, f.gC, f.apart, f.apartL, f.fn, f.gl, f.bl⟩ fun b o _ h2 e => hs.extBut b o (fun q => h2 x (q ▸ hc)) e
    · obtain ⟨m, hn, hm⟩ := f.loc.ns
      refine ⟨m, hn.sameBut hs (Ne.symm hL), fun y hy => ?_⟩
      have hyx : y ≠ x := fun q => by rw [q, hx] at hy; cases hy
      show m y = if y = x then some v else σ y
      rw [if_neg hyx]; exact hm y hy
    · by_cases q : y = x
      · subst q
        rw [hc] at hc'; cases hc'
        simpa using hv'
      · show h'.IsCell c' (if y = x then some v else σ y)
        rw [if_neg q]
        refine (f.loc.cell y c' hc').sameBut hs fun e => q ?_
        subst e
        exact name_of_addr (f.apart hfn) (mem_of_lookup hc') (mem_of_lookup hc)
    · exact hs.extBut b o (fun q => by rw [q, f.ownC hfn x c hc hx] at e; cases e) (f.keep b o hb hbx e)
  · cases hk
end

def Room (A : Around) (n : Nat) : Prop := A.depth + 3 * n ≤ 990 ∧ A.units + 60 * n ≤ 9800 ∧ A.handled = none
theorem Room.depth {A : Around} {n : Nat} (h : Room A n) : A.depth < recursionLimit := by have := h.1; show A.depth < 1000; omega
theorem Room.in1 {A : Around} {n : Nat} (h : Room A (n + 1)) : Room A.in1 n := by
  obtain ⟨a, b, c⟩ := h
  refine ⟨by show A.depth + _ ≤ _; omega, by show A.units + 1 + _ ≤ _; omega, c⟩
theorem Room.deeper {A : Around} {n : Nat} (h : Room A (n + 1)) (env : Env) : Room (A.deeper env) n := by
  obtain ⟨a, b, c⟩ := h
  refine ⟨by show A.depth + 1 + _ ≤ _; omega, by show A.units + 3 + _ ≤ _; omega, c⟩
theorem Room.less {A : Around} {n m : Nat} (h : Room A n) (hm : m ≤ n) : Room A m := by
  obtain ⟨a, b, c⟩ := h
  exact ⟨by omega, by omega, c⟩
end Mine
end
section
open PySem PySem.W PySem.Calls PyProof.Rows PySem.Spec
set_option Elab.async false
set_option maxRecDepth 100000
namespace Mine
variable {C : Cfg} {K : Frag}

theorem bindL_eq (kindOf : Str → Option NameKind) : ∀ (binds : List (Str × Value)) (m : Str → Option Value) (x : Str), kindOf x = some .local → bindL kindOf binds m x = (binds.reverse.lookup x).or (m x)
  | [], m, x, _ => rfl
  | (n, v) :: r, m, x, hx => by
    unfold bindL
    rw [bindL_eq kindOf r _ x hx, List.reverse_cons, List.lookup_append, Option.or_assoc]
    congr 1
    by_cases q : x = n
    · subst q; simp [hx]
    · have hb : (x == n) = false := beq_eq_false_iff_ne.mpr q
      by_cases hn : kindOf n = some .local
      · simp [hn, q, hb, List.lookup_cons]
      · simp [hn, hb, List.lookup_cons]
theorem bindC_eq (kindOf : Str → Option NameKind) : ∀ (binds : List (Str × Value)) (m : Str → Option Value) (x : Str), kindOf x ≠ some .local → bindC kindOf binds m x = (binds.reverse.lookup x).or (m x)
  | [], m, x, _ => rfl
  | (n, v) :: r, m, x, hx => by
    unfold bindC
    rw [bindC_eq kindOf r _ x hx, List.reverse_cons, List.lookup_append, Option.or_assoc]
    congr 1
    by_cases q : x = n
    · subst q; simp [hx]
    · have hb : (x == n) = false := beq_eq_false_iff_ne.mpr q
      by_cases hn : kindOf n = some .local
      · simp [hn, hb, List.lookup_cons]
      · simp [hn, q, hb, List.lookup_cons]

section
variable {A : Around} {g : Heap} {s : Shared}

theorem callFn {R : Result → Shared → Prop} {name qual : Str} {params : Arguments} {body : List Stmt} {scope : Scope} {dV kV doc pm cdv ct oc : Value} {an od : Option Addr} {osl : Array (Option Value)} {f : Addr} {args : Args} {binds : List (Str × Value)}
    (hst : St C K g s) (ho : K.lookup f = some ⟨oc, od, .func (fnX name qual params body scope [] dV kV doc pm an cdv ct), osl⟩) (hcd : codeIn K cdv qual = true) (hroom : A.depth < recursionLimit)
    (hbind : BindsTo s (fnX name qual params body scope [] dV kV doc pm an cdv ct) args binds)
    (hkind : (binds.all fun y => scope.names.lookup y.1 == some .local || scope.names.lookup y.1 == some .cell) = true)
    (hck : ((cellsFrom 0 scope.names []).all fun y => scope.names.lookup y.1 == some .cell) = true)
    (h : ∀ L s', Sub s.heap s'.heap → Fn C K g s (envX qual scope L f cdv (cellsFrom (L + 1) scope.names [])) g s' (fun x => binds.reverse.lookup x) →
      wpAny C.M (A.deeper (envX qual scope L f cdv (cellsFrom (L + 1) scope.names []))) (execs body (envX qual scope L f cdv (cellsFrom (L + 1) scope.names [])))
        (fun fl s'' => R (.ok (.ret (match fl with | .ret v => v | _ => .none))) s'')
        (fun e s'' => wpAny C.M (A.deeper (envX qual scope L f cdv (cellsFrom (L + 1) scope.names []))) (leaving (envX qual scope L f cdv (cellsFrom (L + 1) scope.names [])) e) (fun _ s3 => R (.error e) s3) (fun e' s3 => R (.error e') s3) s'') s')
    (hco : scope.isCoroutine = false := by rfl) (hgen : scope.isGenerator = false := by rfl) (hk : scope.kind = .function := by rfl) :
    codeAny C.M A (.call (.ref f) args) R s := by
  have X : K.In s.heap := hst.kin.keeps hst.sub
  have hlim := hst.top.nolimit.keeps hst.sub
  refine codeAny_call_function hroom (X _ _ ho) rfl hco hgen rfl (codeRec_of X hcd) (hbind _ _ _ _ ?_)
  refine wpAny_newFunctionEnv_cells hk (kindsX hkind _) fun env' he s' x => ?_
  subst he
  refine ⟨hlim.keeps x.toInCall.keep, codeAny_func (h s.heap.objs.size s' x.toInCall.keep ?_)⟩
  have hfr : ∀ b, s.heap.objs.size ≤ b → s.heap.get? b = none := fun b hb => Heap.get?_none_of_le hb
  have hg : ∀ b, s.heap.objs.size ≤ b → g.get? b = none := fun b hb => by
    cases e : g.get? b with
    | none => rfl
    | some o => have := hst.sub b o e; rw [hfr b hb] at this; cases this
  obtain ⟨h', tk, rfl⟩ := x.toInCall.same
  have hnm : ∀ n c, (cellsFrom (s.heap.objs.size + 1) scope.names []).lookup n = some c → scope.names.lookup n = some .cell := fun n c e => by
    have e1 := cellsFrom_names scope.names (s.heap.objs.size + 1) 0 [] [] rfl
    have e2 : n ∈ (cellsFrom 0 scope.names []).map (·.1) := by rw [← e1]; exact List.mem_map.mpr ⟨_, mem_of_lookup e, rfl⟩
    obtain ⟨y, hy, rfl⟩ := List.mem_map.mp e2
    simpa using List.all_eq_true.mp hck y hy
  refine ⟨⟨fun b o e => x.toInCall.keep b o (hst.sub b o e), hst.gt, hst.ge, fun b hb => let ⟨o, e⟩ := hst.exs b hb; ⟨o, x.toInCall.keep b o e⟩, fun P hP => (hst.tab P hP).keeps x.toInCall.keep, hst.gens, hst.kin, hst.top⟩,
    ⟨⟨_, x.toInCall.ns, fun y hy => ?_⟩, fun n c e => ?_⟩, fun _ _ e => e, fun b o _ _ e => x.toInCall.keep b o e, fun _ _ e _ => e, ⟨rfl, rfl, fun _ _ e => e⟩, ?_, hst, ⟨hfr _ x.toInCall.fresh, hg _ x.toInCall.fresh⟩, ?_, ?_, fun _ => x.apart, ?_, hk, rfl, rfl⟩
  · exact (bindL_eq _ _ _ _ hy).trans (by simp)
  · have := x.cell n c e
    have e2 := bindC_eq (newEnv (fnX name qual params body scope [] dV kV doc pm an cdv ct).scope s.heap.objs.size (fnX name qual params body scope [] dV kV doc pm an cdv ct).globals
      (cellsFrom (s.heap.objs.size + 1) (fnX name qual params body scope [] dV kV doc pm an cdv ct).scope.names [])
      ((fnX name qual params body scope [] dV kV doc pm an cdv ct).qualname ++ Str.ofString ".<locals>.") (some f) (fnX name qual params body scope [] dV kV doc pm an cdv ct).code none
      (fnX name qual params body scope [] dV kV doc pm an cdv ct).builtins).kindOf binds (fun _ => none) n (by show scope.names.lookup n ≠ _; rw [hnm n c e]; decide)
    rw [e2] at this
    simpa using this
  · intro b hb
    obtain ⟨o, e⟩ := hst.exs b hb
    have hlt := Heap.lt_size e
    exact ⟨fun q => absurd hlt (Nat.not_lt.mpr (q ▸ x.toInCall.fresh)), fun n q => absurd hlt (Nat.not_lt.mpr (Nat.le_of_lt (Nat.lt_of_le_of_lt x.toInCall.fresh (x.above n b (mem_of_lookup q)))))⟩
  · intro _ n c e _
    exact hfr c (Nat.le_of_lt (Nat.lt_of_le_of_lt x.toInCall.fresh (x.above n c (mem_of_lookup e))))
  · intro _ n c e _
    exact hg c (Nat.le_of_lt (Nat.lt_of_le_of_lt x.toInCall.fresh (x.above n c (mem_of_lookup e))))
  · intro n c e
    exact Nat.ne_of_gt (x.above n c (mem_of_lookup e))

/-- the same, from a call as a tree -/
theorem call_fn {Q : Value → Shared → Prop} {E : Value → Shared → Prop} {name qual : Str} {params : Arguments} {body : List Stmt} {scope : Scope} {dV kV doc pm cdv ct oc : Value} {an od : Option Addr} {osl : Array (Option Value)} {f : Addr} {pos : List Value} {kw : List (Str × Value)} {binds : List (Str × Value)}
    (hst : St C K g s) (ho : K.lookup f = some ⟨oc, od, .func (fnX name qual params body scope [] dV kV doc pm an cdv ct), osl⟩) (hcd : codeIn K cdv qual = true) (hroom : A.depth < recursionLimit)
    (hbind : BindsTo s (fnX name qual params body scope [] dV kV doc pm an cdv ct) ⟨pos, kw⟩ binds)
    (hkind : (binds.all fun y => scope.names.lookup y.1 == some .local || scope.names.lookup y.1 == some .cell) = true)
    (hck : ((cellsFrom 0 scope.names []).all fun y => scope.names.lookup y.1 == some .cell) = true)
    (h : ∀ L s', Sub s.heap s'.heap → Fn C K g s (envX qual scope L f cdv (cellsFrom (L + 1) scope.names [])) g s' (fun x => binds.reverse.lookup x) →
      wpAny C.M (A.deeper (envX qual scope L f cdv (cellsFrom (L + 1) scope.names []))) (execs body (envX qual scope L f cdv (cellsFrom (L + 1) scope.names [])))
        (fun fl s'' => Q (match fl with | .ret v => v | _ => .none) s'')
        (fun e s'' => wpAny C.M (A.deeper (envX qual scope L f cdv (cellsFrom (L + 1) scope.names []))) (leaving (envX qual scope L f cdv (cellsFrom (L + 1) scope.names [])) e) (fun _ s3 => E e s3) (fun e' s3 => E e' s3) s'') s')
    (hco : scope.isCoroutine = false := by rfl) (hgen : scope.isGenerator = false := by rfl) (hk : scope.kind = .function := by rfl) :
    wpAny C.M A (call (.ref f) pos kw) Q E s :=
  wpAny_call (callFn hst ho hcd hroom hbind hkind hck h hco hgen hk)
end
end Mine
end
section
open PySem PySem.W PySem.Calls PyProof.Rows PySem.Spec
set_option Elab.async false
set_option maxRecDepth 100000
namespace Mine
variable {C : Cfg} {K : Frag}

/-- the cells that a block takes over from its frame -/
def clFrom (cells : List (Str × Addr)) : List (Str × NameKind) → List (Str × Addr) → Option (List (Str × Addr))
  | [], acc => some acc
  | (n, k) :: r, acc => if k == .free then (match cells.lookup n with
    | some c => clFrom cells r ((n, c) :: acc)
    | none => none) else clFrom cells r acc
theorem clFrom_all {cells : List (Str × Addr)} : ∀ {names : List (Str × NameKind)} {acc cl : List (Str × Addr)}, clFrom cells names acc = some cl → (∀ n c, (n, c) ∈ acc → cells.lookup n = some c) → ∀ n c, (n, c) ∈ cl → cells.lookup n = some c
  | [], acc, cl, h, ha => by cases h; exact ha
  | (n, k) :: r, acc, cl, h, ha => by
    unfold clFrom at h
    split at h
    · split at h
      · rename_i c hc
        refine clFrom_all h fun n' c' hm => ?_
        rcases List.mem_cons.mp hm with e | hm
        · cases e; exact hc
        · exact ha n' c' hm
      · cases h
    · exact clFrom_all h ha
theorem clFrom_lookup {cells : List (Str × Addr)} {names : List (Str × NameKind)} {cl : List (Str × Addr)} (h : clFrom cells names [] = some cl) {n : Str} {c : Addr} (e : cl.lookup n = some c) : cells.lookup n = some c :=
  clFrom_all h (fun _ _ hm => nomatch hm) n c (mem_of_lookup e)
theorem closureFor_eq {scope : Scope} {env : Env} {cl : List (Str × Addr)} (h : clFrom env.cells scope.names [] = some cl) : closureFor scope env = pure cl := by
  simp only [closureFor]
  have key : ∀ (names : List (Str × NameKind)) (acc : List (Str × Addr)), clFrom env.cells names acc = some cl →
      (forIn names acc fun x r => if (x.2 == NameKind.free) = true then (do let c ← cellOf env x.1; pure (ForInStep.yield ((x.1, c) :: r))) else pure (ForInStep.yield r) : Sem (List (Str × Addr))) = pure cl := by
    intro names
    induction names with
    | nil => intro acc h; cases h; rfl
    | cons x r ih =>
      intro acc h
      obtain ⟨n, k⟩ := x
      unfold clFrom at h
      rw [List.forIn_cons]
      split at h
      · rename_i hk
        split at h
        · rename_i c hc
          simp only [hk, if_true]
          unfold cellOf
          rw [hc]
          show (pure _ >>= _) = _
          rw [pure_bind]
          exact ih _ h
        · cases h
      · rename_i hk
        simp only [hk, Bool.false_eq_true, if_false]
        rw [pure_bind]
        exact ih _ h
  exact (bind_pure _).trans (key scope.names [] h)

/-- an iterator at work -/
structure Wk (C : Cfg) (A : Around) (I : Addr) (fp wr : List Addr) (n : Nat) (P : Nat → Value → Heap → Prop) (S : Nat → Heap → Prop) : Prop where
  sub : ∀ b ∈ wr, b ∈ fp
  there : ∀ i h, S i h → ∀ b ∈ fp, ∃ o, h.get? b = some o ∧ o.cls ≠ .none ∧ ∀ v, o.data ≠ .cell v
  frame : ∀ i h h', S i h → (∀ b ∈ fp, ∀ o, h.get? b = some o → h'.get? b = some o) → S i h'
  item : ∀ i (s : Shared) (Q : Option Value → Shared → Prop) (E : Value → Shared → Prop), i < n → S i s.heap →
    (∀ v h' tk, P i v h' → S (i + 1) h' → (∀ b o, b ∉ wr → s.heap.get? b = some o → h'.get? b = some o) → Q (some v) { s with heap := h', toks := tk }) → wpAny C.M A (pyNext (.ref I)) Q E s
  done : ∀ (s : Shared) (Q : Option Value → Shared → Prop) (E : Value → Shared → Prop), S n s.heap →
    (∀ h' tk, (∀ b o, b ∉ wr → s.heap.get? b = some o → h'.get? b = some o) → Q none { s with heap := h', toks := tk }) → wpAny C.M A (pyNext (.ref I)) Q E s
  self : ∀ i (s : Shared) (Q : Value → Shared → Prop) (E : Value → Shared → Prop), S i s.heap → Q (.ref I) s → wpAny C.M A (pyIter (.ref I)) Q E s

section
variable {A : Around} {R : Result → Shared → Prop}

theorem loop_gen {e : Expr} {d : Nat} {I acc : Value} {cenv : Env} {ps : Pos} (body : Value → Sem Unit)
    (hturn : compTurn e d I acc cenv = (standAt ps >>= fun _ => pyNext I >>= fun r => match r with
      | none => pure (.done .next)
      | some v => body v >>= fun _ => again (.compLoop e d I acc cenv)))
    (Inv : Nat → Shared → Prop) (n : Nat)
    (item : ∀ i s, i < n → Inv i s → wpAny C.M A (pyNext I) (fun r s₁ => ∃ v, r = some v ∧ wpAny C.M A (body v) (fun _ s₂ => Inv (i + 1) s₂) (notedBy C.M A cenv fun e s' => R (.error e) s') s₁) (notedBy C.M A cenv fun e s' => R (.error e) s') s)
    (done : ∀ s, Inv n s → wpAny C.M A (pyNext I) (fun r s₁ => r = none ∧ R (.ok .next) s₁) (notedBy C.M A cenv fun e s' => R (.error e) s') s) {s : Shared} (h : Inv 0 s)
    (hfr : (Code.compLoop e d I acc cenv).isFrame = false := by rfl) (hw : (Code.compLoop e d I acc cenv).weight = 0 := by rfl) (hu : (Code.compLoop e d I acc cenv).cUnits = 0 := by rfl) (hq : (Code.compLoop e d I acc cenv).quiet = true := by rfl) :
    codeAny C.M A (.compLoop e d I acc cenv) R s := by
  refine codeAny_loop hq (fun k s' => ∃ i, i ≤ n ∧ k = n - i ∧ Inv i s') (fun k s hI => ?_) n ⟨0, Nat.zero_le _, by simp, h⟩
  obtain ⟨i, hi, rfl, hI⟩ := hI
  rw [Around.under_of_weight hw hu]
  show wpAny _ A (if (Code.compLoop e d I acc cenv).isFrame = true then (compTurn e d I acc cenv).onRaise (leaving cenv) else (compTurn e d I acc cenv).onRaise (fun x => do noteFrame x cenv; theTreesLotGoes x)) _ _ s
  rw [hfr, if_neg Bool.false_ne_true]
  refine wpAny_noted ?_
  rw [hturn]
  refine wpAny_bind (wpAny_standAt (wpAny_bind ?_))
  by_cases hlt : i < n
  · refine wpAny_mono (item i s hlt hI) (fun r s₁ h₁ => ?_) fun _ _ e => e
    obtain ⟨v, rfl, h₁⟩ := h₁
    exact wpAny_bind (wpAny_mono h₁ (fun _ s₂ h₂ => wpAny_pure ⟨rfl, n - (i + 1), by omega, i + 1, by omega, rfl, h₂⟩) fun _ _ e => e)
  · have hin : i = n := by omega
    subst hin
    refine wpAny_mono (done s hI) (fun r s₁ h₁ => ?_) fun _ _ e => e
    obtain ⟨rfl, h₁⟩ := h₁
    exact wpAny_pure h₁
end

section
variable {A : Around} {R : Result → Shared → Prop} {g g' : Heap} {s s' : Shared} {cenv : Env} {σ : Str → Option Value}

/-- a step of an iterator leaves the frame as it is -/
theorem Fn.wr {g₀ : Heap} {s₀ : Shared} {env : Env} (f : Fn C K g₀ s₀ env g s σ) {wr : List Addr} {h' : Heap} {t : Nat} (hk : ∀ b o, b ∉ wr → s.heap.get? b = some o → h'.get? b = some o)
    (hx : ∀ b ∈ wr, b ∈ C.ex → ∃ o, h'.get? b = some o) (hg : ∀ b ∈ wr, g.get? b = none) (hs : ∀ b ∈ wr, b ∈ C.ex ∨ s₀.heap.get? b = none) (ht : ∀ b ∈ wr, b ∉ C.ts) (hl : ∀ b ∈ wr, b ≠ env.locals) (hc : ∀ b ∈ wr, ∀ n, env.cells.lookup n ≠ some b) : Fn C K g₀ s₀ env g { s with heap := h', toks := t } σ where
  st := ⟨fun b o e => hk b o (fun q => by rw [hg b q] at e; cases e) (f.st.sub b o e), f.st.gt, f.st.ge, fun b hb => by
    obtain ⟨o, e⟩ := f.st.exs b hb
    by_cases q : b ∈ wr
    · exact hx b q hb
    · exact ⟨o, hk b o q e⟩, fun P hP => let ⟨ps, a, b⟩ := f.st.tab P hP; ⟨ps, hk P _ (fun q => ht P q hP) a, b⟩, f.st.gens, f.st.kin, f.st.top⟩
  loc := f.loc.keeps fun b o hb e => hk b o (fun q => by
    rcases hb with rfl | ⟨n, hn⟩
    · exact hl _ q rfl
    · exact hc b q n hn) e
  up := f.up
  keep := fun b o hb hbx e => hk b o (fun q => by
    rcases hs b q with h | h
    · exact hbx h
    · rw [h] at e; cases e) (f.keep b o hb hbx e)
  fresh := f.fresh
  os := ⟨f.os.1, f.os.2, f.os.3⟩
  exo := f.exo
  st₀ := f.st₀
  own := f.own
  ownC := f.ownC
  gC := f.gC
  apart := f.apart
  apartL := f.apartL
  fn := f.fn
  gl := f.gl
  bl := f.bl

theorem storeLocal {M : Model} {E : Value → Shared → Prop} {g₀ : Heap} {s₀ : Shared} {env : Env} {x : Str} {v : Value} {Q : Unit → Shared → Prop} (f : Fn C K g₀ s₀ env g s σ) (hx : env.kindOf x = some .local) (hcells : cellsOk env = true)
    (h : ∀ h', Fn C K g₀ s₀ env g { s with heap := h', toks := s.toks + 1 } (fun y => if y = x then some v else σ y) → Heap.SameBut env.locals s.heap h' → Q () { s with heap := h', toks := s.toks + 1 }) : wpAny M A (storeName env x v) Q E s := by
  obtain ⟨m, hn, hm⟩ := f.loc.ns
  refine wpAny_storeName_local hx hn (fun h' hn' hs => h h' ⟨⟨fun b o e => hs.extBut b o (fun q => by rw [q, f.own.2] at e; cases e) (f.st.sub b o e), f.st.gt, f.st.ge, fun b hb => let ⟨o, e⟩ := f.st.exs b hb; ⟨o, hs.extBut b o (f.exo b hb).1 e⟩,
      fun P hP => let ⟨ps, a1, b1⟩ := f.st.tab P hP; ⟨ps, hs.extBut P _ (fun q => f.notTab (.inl rfl) (q ▸ hP)) a1, b1⟩, f.st.gens, f.st.kin, f.st.top⟩,
    ⟨⟨_, hn', fun y hy => ?_⟩, fun y c hc => ?_⟩, f.up, fun b o hb hbx e => ?_, f.fresh, ⟨f.os.1, f.os.2, f.os.3⟩, f.exo, f.st₀, f.own, f.ownC, f.gC, f.apart, f.apartL, f.fn, f.gl, f.bl⟩ hs) (by rw [f.fn]; rfl)
  · show (if y = x then some v else m y) = if y = x then some v else σ y
    by_cases q : y = x
    · rw [if_pos q, if_pos q]
    · rw [if_neg q, if_neg q]; exact hm y hy
  · have hyx : y ≠ x := fun q => by
      have := List.all_eq_true.mp hcells _ (mem_of_lookup hc)
      simp only [q, hx] at this; cases this
    show h'.IsCell c (if y = x then some v else σ y)
    rw [if_neg hyx]
    exact (f.loc.cell y c hc).sameBut hs (f.apartL y c hc)
  · exact hs.extBut b o (fun q => by rw [q, f.own.1] at e; cases e) (f.keep b o hb hbx e)

abbrev Acc (D : Addr) (ys : List Value) (h : Heap) : Prop := h.PlainList D ys.toArray
theorem Acc.notTab {D : Addr} {ys : List Value} {h : Heap} (x : Acc D ys h) {ts : List Addr} (ht : ∀ P ∈ ts, TabAt h P) : D ∉ ts := fun q => by
  obtain ⟨ps, hp, _⟩ := ht D q
  obtain ⟨n, ho⟩ := x
  rw [ho] at hp; cases hp
theorem Acc.notCell {D : Addr} {ys : List Value} {env : Env} (x : Acc D ys s.heap) (l : Loc env s.heap σ) (n : Str) : env.cells.lookup n ≠ some D := fun q => by
  obtain ⟨o, ho, hd⟩ := l.cell n D q
  obtain ⟨k, ho'⟩ := x
  rw [ho] at ho'; cases ho'; cases hd

/-- what stands behind a part of a block's work: the frame, the list so far -/
structure CS (C : Cfg) (K : Frag) (g : Heap) (s : Shared) (cenv : Env) (D : Addr) (N : List Str) (σb : Str → Option Value) (gk : Heap) (sk : Shared) (σk : Str → Option Value) (ys : List Value) : Prop where
  fn : Fn C K g s cenv gk sk σk
  nm : ∀ y, y ∉ N → σk y = σb y
  acc : Acc D ys sk.heap
  gD : gk.get? D = none
  sD : s.heap.get? D = none
  dL : D ≠ cenv.locals

structure CG (C : Cfg) (cenv : Env) (D : Addr) (wr : List Addr) (gk : Heap) (sk : Shared) (g2 : Heap) (s2 : Shared) : Prop where
  up : Sub gk g2
  keep : ∀ b o, b ≠ D → b ≠ cenv.locals → b ∉ C.ts → b ∉ C.ex → b ∉ wr → sk.heap.get? b = some o → s2.heap.get? b = some o
  fresh : ∀ b o, gk.get? b = none → sk.heap.get? b = some o → g2.get? b = none

theorem comp_clause {e : Expr} {d : Nat} {I D : Addr} {ps : Pos} {fp wr : List Addr} {n : Nat} {P : Nat → Value → Heap → Prop} {S : Nat → Heap → Prop} {gb : Heap} {s0 : Shared} {σ0 σb : Str → Option Value} {ys0 : List Value} {N : List Str}
    (body : Value → Sem Unit)
    (hturn : compTurn e d (.ref I) (.ref D) cenv = (standAt ps >>= fun _ => pyNext (.ref I) >>= fun r => match r with
      | none => pure (.done .next)
      | some v => body v >>= fun _ => again (.compLoop e d (.ref I) (.ref D) cenv)))
    (W : Wk C A I fp wr n P S) (O : Nat → List Value → Heap → Prop)
    (hD : D ∉ fp) (hL : cenv.locals ∉ fp) (hfpx : ∀ b ∈ fp, b ∉ C.ex) (hwg : ∀ b ∈ wr, gb.get? b = none) (hws : ∀ b ∈ wr, s.heap.get? b = none)
    (x0 : CS C K g s cenv D N σb gb s0 σ0 ys0) (hS : S 0 s0.heap) (hO : O 0 ys0 gb)
    (hbody : ∀ i v gk sk σk ys, i < n → P i v sk.heap → CS C K g s cenv D N σb gk sk σk ys → Sub gb gk → O i ys gk → S (i + 1) sk.heap →
      wpAny C.M A (body v) (fun _ s2 => ∃ g2 σ2 ys2, CS C K g s cenv D N σb g2 s2 σ2 ys2 ∧ O (i + 1) ys2 g2 ∧ CG C cenv D [] gk sk g2 s2) (notedBy C.M A cenv fun e s' => R (.error e) s') sk)
    (hR : ∀ ge se σe ys, CS C K g s cenv D N σb ge se σe ys → O n ys ge → CG C cenv D wr gb s0 ge se → R (.ok .next) se)
    (hfr : (Code.compLoop e d (.ref I) (.ref D) cenv).isFrame = false := by rfl) (hw : (Code.compLoop e d (.ref I) (.ref D) cenv).weight = 0 := by rfl) (hu : (Code.compLoop e d (.ref I) (.ref D) cenv).cUnits = 0 := by rfl) (hq : (Code.compLoop e d (.ref I) (.ref D) cenv).quiet = true := by rfl) :
    codeAny C.M A (.compLoop e d (.ref I) (.ref D) cenv) R s0 := by
  have hfpt : ∀ i sk gk σk, S i sk.heap → Fn C K g s cenv gk sk σk → ∀ b ∈ fp, b ∉ C.ts := fun i sk gk σk hs f b hb q => by
    obtain ⟨ps, hp, _⟩ := f.st.tab b q
    obtain ⟨o, ho, hc, _⟩ := W.there i _ hs b hb
    rw [ho] at hp; cases hp; exact hc rfl
  have hfpc : ∀ i sk gk σk, S i sk.heap → Fn C K g s cenv gk sk σk → ∀ b ∈ fp, ∀ n, cenv.cells.lookup n ≠ some b := fun i sk gk σk hs f b hb n q => by
    obtain ⟨o', ho', hd⟩ := f.loc.cell n b q
    obtain ⟨o, ho, _, hc⟩ := W.there i _ hs b hb
    rw [ho] at ho'; cases ho'; exact hc _ hd
  have hwx : ∀ b ∈ wr, b ∉ C.ex := fun b hb q => by
    obtain ⟨o, e⟩ := x0.fn.st₀.exs b q
    rw [hws b hb] at e; cases e
  refine loop_gen body hturn (fun i sk => ∃ gk σk ys, CS C K g s cenv D N σb gk sk σk ys ∧ S i sk.heap ∧ O i ys gk ∧ CG C cenv D wr gb s0 gk sk) n ?_ ?_ ⟨gb, σ0, ys0, x0, hS, hO, fun _ _ e => e, fun _ _ _ _ _ _ _ e => e, fun _ _ e _ => e⟩ hfr hw hu hq
  · rintro i sk hi ⟨gk, σk, ys, x, hs, ho, cg⟩
    have hwk : ∀ b ∈ wr, gk.get? b = none := fun b hb => by
      obtain ⟨o, ho, _⟩ := W.there 0 _ hS b (W.sub b hb)
      exact cg.fresh b o (hwg b hb) ho
    refine W.item i sk _ _ hi hs fun v h' tk hP hs' hk => ⟨v, rfl, ?_⟩
    have f' := x.fn.wr (t := tk) hk (fun b hb q => absurd q (hwx b hb)) hwk (fun b hb => .inr (hws b hb)) (fun b hb => hfpt i sk _ _ hs x.fn b (W.sub b hb)) (fun b hb q => hL (q ▸ W.sub b hb)) (fun b hb => hfpc i sk _ _ hs x.fn b (W.sub b hb))
    have x' : CS C K g s cenv D N σb gk { sk with heap := h', toks := tk } σk ys := ⟨f', x.nm, by
      obtain ⟨k, hk'⟩ := x.acc
      exact ⟨k, hk D _ (fun q => hD (W.sub D q)) hk'⟩, x.gD, x.sD, x.dL⟩
    refine wpAny_mono (hbody i v gk _ σk ys hi hP x' cg.up ho hs') (fun _ s2 h2 => ?_) fun _ _ e => e
    obtain ⟨g2, σ2, ys2, x2, ho2, cg2⟩ := h2
    refine ⟨g2, σ2, ys2, x2, W.frame _ _ _ hs' fun b hb o e => ?_, ho2, fun b o e => cg2.up b o (cg.up b o e), fun b o h1 h2 h3 hx h4 e => ?_, fun b o h1 e => ?_⟩
    · exact cg2.keep b o (fun q => hD (q ▸ hb)) (fun q => hL (q ▸ hb)) (hfpt _ _ _ _ hs' f' b hb) (hfpx b hb) (fun q => nomatch q) e
    · exact cg2.keep b o h1 h2 h3 hx (fun q => nomatch q) (hk b o h4 (cg.keep b o h1 h2 h3 hx h4 e))
    · have h3 := cg.fresh b o h1 e
      by_cases hb : ∃ o', h'.get? b = some o'
      · obtain ⟨o', ho'⟩ := hb
        exact cg2.fresh b o' h3 ho'
      · exfalso
        by_cases hbw : b ∈ wr
        · obtain ⟨o', ho', _⟩ := W.there _ _ hs' b (W.sub b hbw)
          exact hb ⟨o', ho'⟩
        · by_cases hbD : b = D
          · subst hbD; obtain ⟨k, hk'⟩ := x'.acc; exact hb ⟨_, hk'⟩
          · by_cases hbL : b = cenv.locals
            · subst hbL; obtain ⟨m, ⟨o', _, _, ho', _⟩, _⟩ := f'.loc.ns; exact hb ⟨o', ho'⟩
            · by_cases hbt : b ∈ C.ts
              · obtain ⟨ps, hp, _⟩ := f'.st.tab b hbt; exact hb ⟨_, hp⟩
              · by_cases hbx : b ∈ C.ex
                · obtain ⟨o', ho'⟩ := f'.st.exs b hbx; exact hb ⟨_, ho'⟩
                · exact hb ⟨o, hk b o hbw (cg.keep b o hbD hbL hbt hbx hbw e)⟩
  · rintro sk ⟨gk, σk, ys, x, hs, ho, cg⟩
    have hwk : ∀ b ∈ wr, gk.get? b = none := fun b hb => by
      obtain ⟨o, ho, _⟩ := W.there 0 _ hS b (W.sub b hb)
      exact cg.fresh b o (hwg b hb) ho
    refine W.done sk _ _ hs fun h' tk hk => ⟨rfl, ?_⟩
    have f' := x.fn.wr (t := tk) hk (fun b hb q => absurd q (hwx b hb)) hwk (fun b hb => .inr (hws b hb)) (fun b hb => hfpt n sk _ _ hs x.fn b (W.sub b hb)) (fun b hb q => hL (q ▸ W.sub b hb)) (fun b hb => hfpc n sk _ _ hs x.fn b (W.sub b hb))
    exact hR gk _ σk ys ⟨f', x.nm, by
      obtain ⟨k, hk'⟩ := x.acc
      exact ⟨k, hk D _ (fun q => hD (W.sub D q)) hk'⟩, x.gD, x.sD, x.dL⟩ ho ⟨cg.up, fun b o h1 h2 h3 hx h4 e => hk b o h4 (cg.keep b o h1 h2 h3 hx h4 e), cg.fresh⟩

/-- the last clause's turn, its target a name -/
theorem emit_name {elt : Expr} {x : Str} {px : Pos} {I D : Addr} {v : Value} {gk : Heap} {sk : Shared} {σk σb : Str → Option Value} {ys : List Value} {E : Value → Shared → Prop} {O' : List Value → Heap → Prop}
    (hx : cenv.kindOf x = some .local) (hcells : cellsOk cenv = true) (hsz : ys.length ≤ sizeLine) (c : CS C K g s cenv D [x] σb gk sk σk ys)
    (helt : ∀ s1, Fn C K g s cenv gk s1 (fun y => if y = x then some v else σb y) → wpAny C.M A (eval elt cenv) (fun y s2 => ∃ g2, Gr C gk s1 g2 s2 ∧ O' (ys ++ [y]) g2) E s1) :
    wpAny C.M A (letOwnedTupleGo (.Name x px) (.ref I) v >>= fun _ => assign (.Name x px) cenv v >>= fun _ => (eval elt cenv >>= fun y => call (.builtin "list.append") [.ref D, y] >>= fun _ => pure ()))
      (fun _ s2 => ∃ g2 σ2 ys2, CS C K g s cenv D [x] σb g2 s2 σ2 ys2 ∧ O' ys2 g2 ∧ CG C cenv D [] gk sk g2 s2) E sk := by
  refine wpAny_bind (wpAny_of_eq (show letOwnedTupleGo (.Name x px) (.ref I) v = pure () from rfl) ?_)
  refine wpAny_bind ?_
  show wpAny _ _ (do standAt px; bindName cenv x v) _ _ _
  refine wpAny_bind (wpAny_standAt (wpAny_bindName (storeLocal c.fn hx hcells fun h1 f1 hs1 => ?_)))
  have hσ : (fun y => if y = x then some v else σk y) = fun y => if y = x then some v else σb y := by
    funext y
    by_cases q : y = x
    · rw [if_pos q, if_pos q]
    · rw [if_neg q, if_neg q]; exact c.nm y (by simpa using q)
  rw [hσ] at f1
  refine wpAny_bind (wpAny_mono (helt _ f1) (fun y s2 h2 => ?_) fun _ _ e => e)
  obtain ⟨g2, hg2, ho⟩ := h2
  have f2 := f1.gr hg2
  obtain ⟨kD, hD⟩ := c.acc
  have hD1 := hs1.extBut D _ c.dL hD
  have hDt : D ∉ C.ts := Acc.notTab ⟨kD, hD⟩ c.fn.st.tab
  have hDx : D ∉ C.ex := fun q => by
    obtain ⟨o, e⟩ := c.fn.st₀.exs D q
    rw [c.sD] at e; cases e
  have hD2 := hg2.keep D _ hDt hDx hD1
  have acc2 : Acc D ys s2.heap := ⟨kD, hD2⟩
  refine wpAny_bind (wpAny_list_append_plain (hsz := by simpa using hsz) acc2 fun h3 hl3 hs3 => wpAny_pure ?_)
  have gD2 := hg2.fresh D _ c.gD hD1
  have f3 := f2.wr (wr := [D]) (h' := h3) (t := s2.toks) (fun b o hb e => hs3.extBut b o (fun q => hb (by simp [q])) e) (fun b hb q => absurd q (by rw [List.mem_singleton.mp hb]; exact hDx)) (fun b hb => by rw [List.mem_singleton.mp hb]; exact gD2)
    (fun b hb => .inr (by rw [List.mem_singleton.mp hb]; exact c.sD)) (fun b hb => by rw [List.mem_singleton.mp hb]; exact hDt) (fun b hb => by rw [List.mem_singleton.mp hb]; exact c.dL)
    (fun b hb => by rw [List.mem_singleton.mp hb]; exact Acc.notCell acc2 f2.loc)
  refine ⟨g2, _, ys ++ [y], ⟨f3, fun z hz => ?_, by simpa using hl3, gD2, c.sD, c.dL⟩, ho, hg2.up, fun b o h1 h2 h3' hx' _ e => ?_, fun b o h1 e => ?_⟩
  · rw [if_neg (by simpa using hz)]
  · exact hs3.extBut b o h1 (hg2.keep b o h3' hx' (hs1.extBut b o h2 e))
  · by_cases q : b = cenv.locals
    · subst q; exact f2.own.2
    · exact hg2.fresh b o h1 (hs1.extBut b o q e)
end
end Mine
end
section
open PySem PySem.W PySem.Calls PyProof.Rows PySem.Spec
set_option Elab.async false
set_option maxRecDepth 100000
namespace Mine
variable {C : Cfg} {K : Frag}
section
variable {g₀ ga gb g : Heap} {s₀ s : Shared} {env : Env} {σ : Str → Option Value}
theorem none_of_sub {b : Addr} (h : Sub gb ga) (e : ga.get? b = none) : gb.get? b = none := by
  cases q : gb.get? b with
  | none => rfl
  | some o => rw [h b o q] at e; cases e
theorem Fn.weaken (f : Fn C K g₀ s₀ env ga s σ) (h : Sub gb ga) (up : Sub g₀ gb) : Fn C K g₀ s₀ env gb s σ where
  st := ⟨fun b o e => f.st.sub b o (h b o e), fun P hP => none_of_sub h (f.st.gt P hP), fun P hP => none_of_sub h (f.st.ge P hP), f.st.exs, f.st.tab, f.st.gens, f.st₀.kin.keeps up, f.st₀.top.keeps up⟩
  loc := f.loc
  up := up
  keep := f.keep
  fresh := fun b o e1 e2 => none_of_sub h (f.fresh b o e1 e2)
  os := ⟨f.os.1, f.os.2, f.os.3⟩
  exo := f.exo
  st₀ := f.st₀
  own := ⟨f.own.1, none_of_sub h f.own.2⟩
  ownC := f.ownC
  gC := fun a n c e1 e2 => none_of_sub h (f.gC a n c e1 e2)
  apart := f.apart
  apartL := f.apartL
  fn := f.fn
  gl := f.gl
  bl := f.bl

/-- g and the one place D more -/
def addG (g h : Heap) (D : Addr) : Heap := restrict h fun b => (g.get? b).isSome || b == D
theorem addG_get {g h : Heap} {D b : Addr} : (addG g h D).get? b = if (g.get? b).isSome || b == D then h.get? b else none := restrict_get _ _ _
theorem addG_D {g h : Heap} {D : Addr} : (addG g h D).get? D = h.get? D := by rw [addG_get]; simp
theorem addG_up {g h : Heap} {D : Addr} (hs : Sub g h) : Sub g (addG g h D) := fun b o e => by rw [addG_get, e]; simpa using hs b o e
theorem addG_sub {g h : Heap} {D : Addr} : Sub (addG g h D) h := fun b o e => by rw [addG_get] at e; split at e <;> first | exact e | cases e
theorem addG_none {g h : Heap} {D b : Addr} (h1 : g.get? b = none) (h2 : b ≠ D) : (addG g h D).get? b = none := by rw [addG_get, h1]; simp [h2]
end

section
variable {A : Around} {E : Value → Shared → Prop} {g₀ g g₂ : Heap} {s₀ s s₂ : Shared} {env : Env} {σ : Str → Option Value}

def σc (cl : List (Str × Addr)) (σ : Str → Option Value) : Str → Option Value := fun y => if (cl.lookup y).isSome then σ y else none

/-- a block begins: its list, its frame -/
theorem comp_block {e : Expr} {scope : Scope} {cl : List (Str × Addr)} {I : Addr} {elt target iter : Expr} {ifs : List Expr} {rest : List Comprehension} {pos : Pos} {RR : Value → Addr → Result → Shared → Prop}
    {fp wr : List Addr} {n : Nat} {P : Nat → Value → Heap → Prop} {S : Nat → Heap → Prop}
    (he : e = .ListComp elt (⟨target, iter, ifs, 0⟩ :: rest) scope pos)
    (f : View C K env g s σ) (G : Gr C g s g₂ s₂) (hcl : clFrom env.cells scope.names [] = some cl) (hcell : ∀ y ∈ scope.names, y.2 ≠ .cell) (hkind : scope.kind = .function)
    (hlook : ∀ Cc, cellsOk (compEnvC scope cl Cc env) = true)
    (W : Wk C A I fp wr n P S) (hS : S 0 s₂.heap) {N : List Str}
    (hloop : ∀ D Cc s4, D ∉ fp → Cc ∉ fp → CS C K g s (compEnvC scope cl Cc env) D N (σc cl σ) g₂ s4 (σc cl σ) [] → S 0 s4.heap → Sub s₂.heap s4.heap → s₂.heap.get? D = none → s₂.heap.get? Cc = none →
      codeAny C.M A (.compLoop e 0 (.ref I) (.ref D) (compEnvC scope cl Cc env)) (RR (.ref D) Cc) s4) :
    wpAny C.M A (newList []) (fun acc s₃ => wpAny C.M A (newFunctionEnv scope env.globals cl [] env.qual none .none (some env)) (fun cenv s₄ =>
      codeAny C.M A (.compStart e 0 (.ref I) acc { cenv with scope := relabel scope env }) (RR acc cenv.locals) s₄) E s₃) E s₂ := by
  subst he
  have st2 := G.st f.st
  refine wpAny_newObj_type (wpAny_newFunctionEnv hcell (by intro y hy; simp at hy) (fun h₁ hns₁ hsb₁ => ?_) hkind)
  dsimp only at hns₁ hsb₁ ⊢
  generalize hH2 : s₂.heap.push { cls := .type "list", dict := none, data := .seq ([] : List Value).toArray } = H2 at hns₁ hsb₁ ⊢
  have hC : H2.objs.size = s₂.heap.objs.size + 1 := by rw [← hH2, Heap.size_push]
  have hDC : s₂.heap.objs.size ≠ H2.objs.size := by rw [hC]; exact Nat.ne_of_lt (Nat.lt_succ_self _)
  have below : ∀ b, b < s₂.heap.objs.size → b ≠ H2.objs.size := fun b hb => by rw [hC]; exact Nat.ne_of_lt (Nat.lt_succ_of_lt hb)
  have old : Sub s₂.heap h₁ := fun b o e => hsb₁.extBut b o (below b (Heap.lt_size e)) (Heap.get?_push_of_some _ (hH2 ▸ Heap.get?_push_of_some _ e))
  have hacc : Acc s₂.heap.objs.size [] h₁ := ⟨_, hsb₁.extBut _ _ hDC (Heap.get?_push_of_some _ (hH2 ▸ Heap.get?_push_size _ rfl))⟩
  have fresh2 : ∀ a, s₂.heap.objs.size ≤ a → s₂.heap.get? a = none := fun a ha => Heap.get?_none_of_le ha
  have keepS : ∀ b o, b ∉ C.ts → b ∉ C.ex → s.heap.get? b = some o → h₁.get? b = some o := fun b o hb hx e => old b o (G.keep b o hb hx e)
  have freshS : ∀ a, s₂.heap.objs.size ≤ a → s.heap.get? a = none := fun a ha => by
    cases q : s.heap.get? a with
    | none => rfl
    | some o =>
      exfalso
      by_cases hb : a ∈ C.ts
      · obtain ⟨ps, hp, _⟩ := G.tab a hb
        rw [fresh2 a ha] at hp; cases hp
      · by_cases hx : a ∈ C.ex
        · obtain ⟨o', e'⟩ := G.exk a hx o q
          rw [fresh2 a ha] at e'; cases e'
        · have := G.keep a o hb hx q
          rw [fresh2 a ha] at this; cases this
  have freshG : ∀ a, s₂.heap.objs.size ≤ a → g₂.get? a = none := fun a ha => none_of_sub G.sub (fresh2 a ha)
  have hfp : ∀ a, s₂.heap.objs.size ≤ a → a ∉ fp := fun a ha q => by
    obtain ⟨o, ho, _⟩ := W.there 0 _ hS a q
    rw [fresh2 a ha] at ho; cases ho
  have hst₁ : S 0 h₁ := W.frame _ _ _ hS fun b _ o e => old b o e
  have hlk : ∀ {n c}, cl.lookup n = some c → env.cells.lookup n = some c := fun e => clFrom_lookup hcl e
  have fn4 : ∀ t, Fn C K g s (compEnvC scope cl H2.objs.size env) g₂ { s₂ with heap := h₁, toks := t } (σc cl σ) := fun t => {
    st := ⟨fun b o e => old b o (G.sub b o e), st2.gt, st2.ge, fun b hb => let ⟨o, e⟩ := st2.exs b hb; ⟨o, old b o e⟩, fun P hP => (G.tab P hP).keeps old, G.gens, st2.kin, st2.top⟩
    loc := ⟨⟨_, hns₁, fun x hx => by
      have h1 : (cl.lookup x) = none := by
        cases q : cl.lookup x with
        | none => rfl
        | some c =>
          have := List.all_eq_true.mp (hlook H2.objs.size) _ (mem_of_lookup q)
          simp only [hx] at this; cases this
      show none = σc cl σ x
      unfold σc; rw [h1]; rfl⟩, fun x c e => by
      have e' : cl.lookup x = some c := e
      obtain ⟨o, ho, hd⟩ := f.loc.cell x c (hlk e')
      refine ⟨o, keepS c o (f.notTab (.inr ⟨x, hlk e'⟩)) (f.notEx (.inr ⟨x, hlk e'⟩)) ho, ?_⟩
      rw [hd]; unfold σc; rw [e']; rfl⟩
    up := G.up
    keep := keepS
    fresh := G.fresh
    os := ⟨G.os.1, G.os.2, G.os.3⟩
    exo := fun b hb => by
      obtain ⟨o, e⟩ := st2.exs b hb
      have hlt : b < s₂.heap.objs.size := Heap.lt_size e
      refine ⟨fun q => absurd hlt (Nat.not_lt.mpr ?_), fun n q => (f.exo b hb).2 n (hlk q)⟩
      have q' : b = H2.objs.size := q
      rw [q', hC]; exact Nat.le_succ _
    st₀ := f.st
    own := ⟨freshS _ (by rw [hC]; exact Nat.le_succ _), freshG _ (by rw [hC]; exact Nat.le_succ _)⟩
    ownC := fun h => absurd rfl h
    gC := fun h => absurd rfl h
    apart := fun h => absurd rfl h
    apartL := fun x c e => by
      have e' : cl.lookup x = some c := e
      obtain ⟨o, ho, _⟩ := f.loc.cell x c (hlk e')
      have := G.keep c o (f.notTab (.inr ⟨x, hlk e'⟩)) (f.notEx (.inr ⟨x, hlk e'⟩)) ho
      intro q
      have hlt : c < s₂.heap.objs.size := Heap.lt_size this
      have q' : c = H2.objs.size := q
      rw [q', hC] at hlt
      exact absurd hlt (Nat.not_lt.mpr (Nat.le_succ _))
    fn := by show (relabel scope env).kind = _; exact hkind
    gl := f.gl
    bl := f.bl }
  have loop : ∀ s₃ : Shared, s₃ = { s₂ with heap := h₁, toks := s₂.toks + ([] : List (Str × Value)).length } →
      codeAny C.M A (.compLoop (.ListComp elt (⟨target, iter, ifs, 0⟩ :: rest) scope pos) 0 (.ref I) (.ref s₂.heap.objs.size) (compEnvC scope cl H2.objs.size env)) (RR (.ref s₂.heap.objs.size) H2.objs.size) s₃ := by
    rintro s₃ rfl
    exact hloop _ _ _ (hfp _ (Nat.le_refl _)) (hfp _ (by rw [hC]; exact Nat.le_succ _)) ⟨fn4 _, fun _ _ => rfl, hacc, freshG _ (Nat.le_refl _), freshS _ (Nat.le_refl _), hDC⟩ hst₁ old (fresh2 _ (Nat.le_refl _)) (fresh2 _ (by rw [hC]; exact Nat.le_succ _))
  exact codeAny_compStart_list (loop _ rfl) (W.self 0 _ _ _ hst₁ (loop _ rfl))

/-- a block ends: its list is handed on -/
theorem comp_ends {D : Addr} {cenv : Env} {N : List Str} {σb σe : Str → Option Value} {ge : Heap} {se : Shared} {ys : List Value} {Q : Value → Shared → Prop} (x : CS C K g s cenv D N σb ge se σe ys)
    (hQ : ∀ g' s', Gr C g s g' s' → Sub ge g' → g'.PlainList D ys.toArray → Q (.ref D) s') : compPost C.M A E none Q (.ref D) cenv.locals (.ok .next) se := by
  obtain ⟨m, hn, _⟩ := x.fn.loc.ns
  refine ⟨m, hn, fun h' hs => ?_⟩
  have hsub : Sub ge h' := fun b o e => hs.extBut b o (fun q => by rw [q, x.fn.own.2] at e; cases e) (x.fn.st.sub b o e)
  obtain ⟨k, hD⟩ := x.acc
  have hD' := hs.extBut D _ x.dL hD
  have hDx : D ∉ C.ex := fun q => by
    obtain ⟨o, e⟩ := x.fn.st₀.exs D q
    rw [x.sD] at e; cases e
  refine hQ (addG ge h' D) _ ⟨fun b o e => addG_up hsub b o (x.fn.up b o e), addG_sub, fun b o hb hbx e => ?_, fun b hb o e => ?_, fun b o e1 e2 => ?_, fun P hP => ?_, x.fn.st.gens, ⟨x.fn.os.1, x.fn.os.2, x.fn.os.3⟩, fun P hP _ => addG_none (x.fn.st.ge P hP) (fun q => by rw [q] at hP; exact hDx hP)⟩ (addG_up hsub) ⟨k, by rw [addG_D]; exact hD'⟩
  · exact hs.extBut b o (fun q => by rw [q, x.fn.own.1] at e; cases e) (x.fn.keep b o hb hbx e)
  · obtain ⟨o', e'⟩ := x.fn.st.exs b hb
    exact ⟨o', hs.extBut b o' (x.fn.exo b hb).1 e'⟩
  · exact addG_none (x.fn.fresh b o e1 e2) (fun q => by rw [q, x.sD] at e2; cases e2)
  · obtain ⟨ps, a, b⟩ := x.fn.st.tab P hP
    exact ⟨ps, hs.extBut P _ (fun q => x.fn.notTab (.inl q) hP) a, b⟩

/-- a block ends in a name's binding -/
theorem comp_ends_name {D : Addr} {cenv : Env} {N : List Str} {σb σe : Str → Option Value} {ge : Heap} {se : Shared} {ys : List Value} {y : Str} {py : Pos} {Q : Flow → Shared → Prop}
    (f : Fn C K g₀ s₀ env g s σ) (x : CS C K g s cenv D N σb ge se σe ys) (hy : storeOk env y = true) (hcells : cellsOk env = true)
    (hQ : ∀ g' s', Fn C K g₀ s₀ env g' s' (fun z => if z = y then some (.ref D) else σ z) → Sub g g' → Sub ge g' → g'.PlainList D ys.toArray → Q .next s') :
    compPost C.M A E (some (assign (.Name y py) env)) (fun _ s' => Q .next s') (.ref D) cenv.locals (.ok .next) se := by
  obtain ⟨m, hn, _⟩ := id x.fn.loc.ns
  obtain ⟨oC, esC, epC, hoC, restC⟩ := id hn
  obtain ⟨k, hD⟩ := x.acc
  have hCD : cenv.locals ≠ D := Ne.symm x.dL
  have hDx : D ∉ C.ex := fun q => by
    obtain ⟨o, e⟩ := x.fn.st₀.exs D q
    rw [x.sD] at e; cases e
  have hLx : cenv.locals ∉ C.ex := x.fn.notEx (.inl rfl)
  have gr1 : Gr C g s (addG ge se.heap D) se := ⟨fun b o e => addG_up x.fn.st.sub b o (x.fn.up b o e), addG_sub, x.fn.keep, fun b hb _ _ => x.fn.st.exs b hb, fun b o e1 e2 => addG_none (x.fn.fresh b o e1 e2) (fun q => by rw [q, x.sD] at e2; cases e2), x.fn.st.tab, x.fn.st.gens, ⟨x.fn.os.1, x.fn.os.2, x.fn.os.3⟩, fun P hP _ => addG_none (x.fn.st.ge P hP) (fun q => by rw [q] at hP; exact hDx hP)⟩
  have s1 : Sub (addG ge se.heap D) (addG (addG ge se.heap D) se.heap cenv.locals) := addG_up addG_sub
  have gr2 : Gr C g s (addG (addG ge se.heap D) se.heap cenv.locals) se := ⟨fun b o e => s1 b o (gr1.up b o e), addG_sub, x.fn.keep, fun b hb _ _ => x.fn.st.exs b hb, fun b o e1 e2 => addG_none (gr1.fresh b o e1 e2) (fun q => by rw [q, x.fn.own.1] at e2; cases e2), x.fn.st.tab, x.fn.st.gens, ⟨x.fn.os.1, x.fn.os.2, x.fn.os.3⟩, fun P hP e => addG_none (gr1.geR P hP e) (fun q => by rw [q] at hP; exact hLx hP)⟩
  show wpAny _ _ (do standAt py; bindName env y (.ref D)) _ _ _
  refine wpAny_bind (wpAny_standAt (wpAny_bindName (storeVar (f.gr gr2) hy hcells fun s'' f'' _ => ?_)))
  have hC2 : s''.heap.get? cenv.locals = some oC := f''.st.sub _ _ (by rw [addG_D]; exact hoC)
  refine ⟨m, ⟨oC, esC, epC, hC2, restC⟩, fun h' hs => ?_⟩
  have hCt : cenv.locals ∉ C.ts := x.fn.notTab (.inl rfl)
  have fw : Fn C K g₀ s₀ env (addG ge se.heap D) s'' _ := f''.weaken s1 (fun b o e => gr1.up b o (f.up b o e))
  have hs0 : s₀.heap.get? cenv.locals = none := by
    cases q : s₀.heap.get? cenv.locals with
    | none => rfl
    | some o => have := f.keep _ o hCt hLx q; rw [x.fn.own.1] at this; cases this
  have hL : cenv.locals ≠ env.locals := fun q => by
    obtain ⟨m', ⟨o', _, _, ho', _⟩, _⟩ := f.loc.ns
    rw [← q, x.fn.own.1] at ho'; cases ho'
  have hc : ∀ n, env.cells.lookup n ≠ some cenv.locals := fun n q => by
    obtain ⟨o', ho', _⟩ := f.loc.cell n _ q
    rw [x.fn.own.1] at ho'; cases ho'
  have f3 := fw.wr (wr := [cenv.locals]) (h' := h') (t := s''.toks) (fun b o hb e => hs.extBut b o (fun q => hb (by simp [q])) e) (fun b hb q => absurd q (by rw [List.mem_singleton.mp hb]; exact hLx)) (fun b hb => by rw [List.mem_singleton.mp hb]; exact addG_none x.fn.own.2 hCD)
    (fun b hb => .inr (by rw [List.mem_singleton.mp hb]; exact hs0)) (fun b hb => by rw [List.mem_singleton.mp hb]; exact hCt) (fun b hb => by rw [List.mem_singleton.mp hb]; exact hL)
    (fun b hb => by rw [List.mem_singleton.mp hb]; exact hc)
  exact hQ _ _ f3 gr1.up (addG_up x.fn.st.sub) ⟨k, by rw [addG_D]; exact hD⟩
end
end Mine
end
section
open PySem PySem.W PySem.Calls PyProof.Rows PySem.Spec
set_option Elab.async false
set_option maxRecDepth 100000
namespace Mine
variable {C : Cfg} {K : Frag}

/-- an iterator that stands ready: n items, the i-th is told by P -/
def ItOk (C : Cfg) (A : Around) (g : Heap) (s : Shared) (g₂ : Heap) (s₂ : Shared) (I : Addr) (n : Nat) (P : Nat → Value → Heap → Prop) : Prop :=
  ∃ fp wr S, Wk C A I fp wr n P S ∧ S 0 s₂.heap ∧ (∀ b ∈ wr, g₂.get? b = none ∧ s.heap.get? b = none) ∧ (∀ b ∈ fp, b ∈ wr ∨ ∃ o, g₂.get? b = some o) ∧ Gr C g s g₂ s₂

theorem notExFp {g g₂ : Heap} {s s₂ : Shared} {fp wr : List Addr} (st : St C K g s) (hwr : ∀ b ∈ wr, g₂.get? b = none ∧ s.heap.get? b = none) (hfp : ∀ b ∈ fp, b ∈ wr ∨ ∃ o, g₂.get? b = some o) (G : Gr C g s g₂ s₂) : ∀ b ∈ fp, b ∉ C.ex := fun b hb q => by
  rcases hfp b hb with h | ⟨o, ho⟩
  · obtain ⟨o, e⟩ := st.exs b q
    rw [(hwr b h).2] at e; cases e
  · rw [G.geR b q (st.ge b q)] at ho; cases ho

section
variable {A : Around} {E : Value → Shared → Prop} {g₀ g : Heap} {s₀ s : Shared} {env : Env} {σ : Str → Option Value}
variable {elt iter : Expr} {x : Str} {px pos : Pos} {scope : Scope} {cl : List (Str × Addr)}

theorem turn1 (elt target iter : Expr) (scope : Scope) (pos : Pos) (it acc : Value) (env : Env) :
    compTurn (.ListComp elt [⟨target, iter, [], 0⟩] scope pos) 0 it acc env = (standAt iter.pos >>= fun _ => pyNext it >>= fun r => match r with
      | none => pure (.done .next)
      | some v => (letOwnedTupleGo target it v >>= fun _ => assign target env v >>= fun _ =>
        (eval elt env >>= fun x => call (.builtin "list.append") [acc, x] >>= fun _ => pure ())) >>= fun _ =>
          again (.compLoop (.ListComp elt [⟨target, iter, [], 0⟩] scope pos) 0 it acc env)) := by
  rw [compTurn_list1]
  congr 1; funext _; congr 1; funext r
  cases r with
  | none => rfl
  | some v => simp only [bind_assoc]

theorem comp_loop1 {I D : Addr} {cenv : Env} {fp wr : List Addr} {n : Nat} {P : Nat → Value → Heap → Prop} {S : Nat → Heap → Prop} {g₂ : Heap} {s4 : Shared} {σb : Str → Option Value} {R : Result → Shared → Prop}
    (hx : cenv.kindOf x = some .local) (hcells : cellsOk cenv = true) (W : Wk C A I fp wr n P S) (hn : n ≤ sizeLine) (hD : D ∉ fp) (hL : cenv.locals ∉ fp) (hfpx : ∀ b ∈ fp, b ∉ C.ex) (hwr : ∀ b ∈ wr, g₂.get? b = none ∧ s.heap.get? b = none)
    (x0 : CS C K g s cenv D [x] σb g₂ s4 σb []) (hS : S 0 s4.heap) (O : Nat → List Value → Heap → Prop) (hO : O 0 [] g₂)
    (helt : ∀ i v gk sk s1 ys E', i < n → P i v sk → Fn C K g s cenv gk s1 (fun y => if y = x then some v else σb y) → Sub g₂ gk → ys.length = i → O i ys gk →
      wpAny C.M A (eval elt cenv) (fun y s2 => ∃ g3, Gr C gk s1 g3 s2 ∧ O (i + 1) (ys ++ [y]) g3) E' s1)
    (hR : ∀ ge se σe ys, CS C K g s cenv D [x] σb ge se σe ys → ys.length = n → O n ys ge → R (.ok .next) se) :
    codeAny C.M A (.compLoop (.ListComp elt [⟨.Name x px, iter, [], 0⟩] scope pos) 0 (.ref I) (.ref D) cenv) R s4 := by
  refine comp_clause _ (turn1 _ _ _ _ _ _ _ _) W (fun i ys g => ys.length = i ∧ O i ys g) hD hL hfpx (fun b hb => (hwr b hb).1) (fun b hb => (hwr b hb).2) x0 hS ⟨rfl, hO⟩ ?_ fun ge se σe ys c h _ => hR ge se σe ys c h.1 h.2
  intro i v gk sk σk ys hi hP c hsub ho hS'
  refine wpAny_mono (emit_name (O' := fun ys g => ys.length = i + 1 ∧ O (i + 1) ys g) (px := px) (I := I) hx hcells (by have := ho.1; omega) c fun s1 f1 => ?_) (fun _ s2 h => h) fun _ _ e => e
  exact wpAny_mono (helt i v gk sk.heap s1 ys _ hi hP f1 hsub ho.1 ho.2) (fun y s2 h => by
    obtain ⟨g3, a, b⟩ := h
    exact ⟨g3, a, by rw [List.length_append, ho.1]; rfl, b⟩) fun _ _ e => e

/-- [elt for x in iter] -/
theorem comp1 {Q : Value → Shared → Prop} (f : View C K env g s σ)
    (h : wpAny C.M A (eval iter env) (fun xv s₁ => wpAny C.M A (pyIter xv) (fun it s₂ => ∃ I g₂ n P, ∃ O : Nat → List Value → Heap → Prop, it = .ref I ∧ ItOk C A g s g₂ s₂ I n P ∧ n ≤ sizeLine ∧ O 0 [] g₂ ∧ (∀ i ys g g', Sub g g' → O i ys g → O i ys g') ∧
      (∀ Cc i v gk sk s1 ys E', i < n → P i v sk → Fn C K g s (compEnvC scope cl Cc env) gk s1 (fun y => if y = x then some v else σc cl σ y) → Sub g₂ gk → ys.length = i → O i ys gk →
        wpAny C.M A (eval elt (compEnvC scope cl Cc env)) (fun y s2 => ∃ g3, Gr C gk s1 g3 s2 ∧ O (i + 1) (ys ++ [y]) g3) E' s1) ∧
      (∀ D ys g' s', Gr C g s g' s' → g'.PlainList D ys.toArray → ys.length = n → O n ys g' → Q (.ref D) s')) E s₁) E s)
    (hcl : clFrom env.cells scope.names [] = some cl := by rfl) (hcell : ∀ y ∈ scope.names, y.2 ≠ .cell := by decide) (hkind : scope.kind = .function := by rfl)
    (hnames : ∀ y ∈ scope.names, y.2 = .local → scope.names.lookup y.1 = some .local := by decide) (hlook : ∀ Cc, cellsOk (compEnvC scope cl Cc env) = true := by intro _; rfl)
    (hx : ∀ Cc, (compEnvC scope cl Cc env).kindOf x = some .local := by intro _; rfl)
    (hs : ∀ x, foldedSetIterable iter env x = pure x := by intro _; rfl) :
    wpAny C.M A (eval (.ListComp elt [⟨.Name x px, iter, [], 0⟩] scope pos) env) Q E s := by
  rw [eval_ListComp]
  refine wpAny_comprehension_free (use := none) rfl hs (closureFor_eq hcl) hkind hnames (wpAny_mono h (fun xv s₁ h₁ => wpAny_mono h₁ (fun it s₂ h₂ => ?_) fun _ _ e => e) fun _ _ e => e)
  obtain ⟨I, g₂, n, P, O, rfl, ⟨fp, wr, S, W, hS, hwr, hfp, G⟩, hn, hO, hmono, helt, hQ⟩ := h₂
  refine comp_block (RR := fun acc Cc => compPost C.M A E none Q acc Cc) (N := [x]) rfl f G hcl hcell hkind hlook W hS fun D Cc s4 hD hC x0 hS4 _ _ _ => ?_
  refine comp_loop1 (hx Cc) (hlook Cc) W hn hD hC (notExFp f.st hwr hfp G) hwr x0 hS4 O hO (helt Cc) fun ge se σe ys c hl ho => ?_
  exact comp_ends c fun g' s' gr hsub hpl => hQ D ys g' s' gr hpl hl (hmono _ _ _ _ hsub ho)

/-- y = [elt for x in iter] -/
theorem comp1_name {y : Str} {py spos : Pos} {Q : Flow → Shared → Prop} (f : Fn C K g₀ s₀ env g s σ)
    (h : wpAny C.M A (eval iter env) (fun xv s₁ => wpAny C.M A (pyIter xv) (fun it s₂ => ∃ I g₂ n P, ∃ O : Nat → List Value → Heap → Prop, it = .ref I ∧ ItOk C A g s g₂ s₂ I n P ∧ n ≤ sizeLine ∧ O 0 [] g₂ ∧ (∀ i ys g g', Sub g g' → O i ys g → O i ys g') ∧
      (∀ Cc i v gk sk s1 ys E', i < n → P i v sk → Fn C K g s (compEnvC scope cl Cc env) gk s1 (fun y => if y = x then some v else σc cl σ y) → Sub g₂ gk → ys.length = i → O i ys gk →
        wpAny C.M A (eval elt (compEnvC scope cl Cc env)) (fun y s2 => ∃ g3, Gr C gk s1 g3 s2 ∧ O (i + 1) (ys ++ [y]) g3) E' s1) ∧
      (∀ D ys g' s', Fn C K g₀ s₀ env g' s' (fun z => if z = y then some (.ref D) else σ z) → Sub g g' → g'.PlainList D ys.toArray → ys.length = n → O n ys g' → Q .next s')) E s₁) E s)
    (hsw : swapsWith (.ListComp elt [⟨.Name x px, iter, [], 0⟩] scope pos) (some (.Name y py)) spos.line env = pure true := by with_unfolding_all rfl)
    (hcl : clFrom env.cells scope.names [] = some cl := by rfl) (hcell : ∀ y ∈ scope.names, y.2 ≠ .cell := by decide) (hkind : scope.kind = .function := by rfl)
    (hnames : ∀ y ∈ scope.names, y.2 = .local → scope.names.lookup y.1 = some .local := by decide) (hlook : ∀ Cc, cellsOk (compEnvC scope cl Cc env) = true := by intro _; rfl)
    (hx : ∀ Cc, (compEnvC scope cl Cc env).kindOf x = some .local := by intro _; rfl) (hy : storeOk env y = true := by rfl) (hyc : cellsOk env = true := by rfl)
    (hs : ∀ x, foldedSetIterable iter env x = pure x := by intro _; rfl) :
    wpAny C.M A (exec (.Assign [.Name y py] (.ListComp elt [⟨.Name x px, iter, [], 0⟩] scope pos) spos) env) Q E s := by
  rw [exec_Assign_Name_used _ _ _ _ hsw]
  refine wpAny_bind (wpAny_standAt (wpAny_bind ?_))
  show wpAny _ A (do let _ ← comprehension (.ListComp elt [⟨.Name x px, iter, [], 0⟩] scope pos) scope env _ (newList []) false (eval iter env) (some (assign (.Name y py) env))) _ _ s
  refine wpAny_bind (wpAny_mono (wpAny_comprehension_free (use := some (assign (.Name y py) env)) (Q := fun _ s' => Q .next s') rfl hs (closureFor_eq hcl) hkind hnames
    (wpAny_mono h (fun xv s₁ h₁ => wpAny_mono h₁ (fun it s₂ h₂ => ?_) fun _ _ e => e) fun _ _ e => e)) (fun _ s' hq => wpAny_pure (wpAny_pure hq)) fun _ _ e => e)
  obtain ⟨I, g₂, n, P, O, rfl, ⟨fp, wr, S, W, hS, hwr, hfp, G⟩, hn, hO, hmono, helt, hQ⟩ := h₂
  refine comp_block (RR := fun acc Cc => compPost C.M A E (some (assign (.Name y py) env)) (fun _ s' => Q .next s') acc Cc) (N := [x]) rfl f.view G hcl hcell hkind hlook W hS fun D Cc s4 hD hC x0 hS4 _ _ _ => ?_
  refine comp_loop1 (hx Cc) (hlook Cc) W hn hD hC (notExFp f.st hwr hfp G) hwr x0 hS4 O hO (helt Cc) fun ge se σe ys c hl ho => ?_
  exact comp_ends_name f c hy hyc fun g' s' f' hs1 hs2 hpl => hQ D ys g' s' f' hs1 hpl hl (hmono _ _ _ _ hs2 ho)

variable {t1 iter1 t2 iter2 : Expr}

theorem turn2a (elt t1 iter1 t2 iter2 : Expr) (scope : Scope) (pos : Pos) (it acc : Value) (env : Env) :
    compTurn (.ListComp elt [⟨t1, iter1, [], 0⟩, ⟨t2, iter2, [], 0⟩] scope pos) 0 it acc env = (standAt iter1.pos >>= fun _ => pyNext it >>= fun r => match r with
      | none => pure (.done .next)
      | some v => (letOwnedTupleGo t1 it v >>= fun _ => assign t1 env v >>= fun _ =>
        (eval iter2 env >>= fun x => standAt iter2.pos >>= fun _ => foldedSetIterable iter2 env x >>= fun x => holding [x] (pyIter x) >>= fun it2 =>
          runOwn (.compStart (.ListComp elt [⟨t1, iter1, [], 0⟩, ⟨t2, iter2, [], 0⟩] scope pos) 1 it2 acc env) env >>= fun _ => pure ())) >>= fun _ =>
          again (.compLoop (.ListComp elt [⟨t1, iter1, [], 0⟩, ⟨t2, iter2, [], 0⟩] scope pos) 0 it acc env)) := by
  have e : compTurn (.ListComp elt [⟨t1, iter1, [], 0⟩, ⟨t2, iter2, [], 0⟩] scope pos) 0 it acc env = (standAt iter1.pos >>= fun _ => pyNext it >>= fun r => match r with
      | none => pure (.done .next)
      | some v => letOwnedTupleGo t1 it v >>= fun _ => assign t1 env v >>= fun _ =>
        eval iter2 env >>= fun x => standAt iter2.pos >>= fun _ => foldedSetIterable iter2 env x >>= fun x => holding [x] (pyIter x) >>= fun it2 =>
          runOwn (.compStart (.ListComp elt [⟨t1, iter1, [], 0⟩, ⟨t2, iter2, [], 0⟩] scope pos) 1 it2 acc env) env >>= fun _ =>
          again (.compLoop (.ListComp elt [⟨t1, iter1, [], 0⟩, ⟨t2, iter2, [], 0⟩] scope pos) 0 it acc env)) := by rfl
  rw [e]
  congr 1; funext _; congr 1; funext r
  cases r with
  | none => rfl
  | some v => simp only [bind_assoc, pure_bind]

theorem turn2b (elt t1 iter1 t2 iter2 : Expr) (scope : Scope) (pos : Pos) (it acc : Value) (env : Env) :
    compTurn (.ListComp elt [⟨t1, iter1, [], 0⟩, ⟨t2, iter2, [], 0⟩] scope pos) 1 it acc env = (standAt iter2.pos >>= fun _ => pyNext it >>= fun r => match r with
      | none => pure (.done .next)
      | some v => (letOwnedTupleGo t2 it v >>= fun _ => assign t2 env v >>= fun _ =>
        (eval elt env >>= fun x => call (.builtin "list.append") [acc, x] >>= fun _ => pure ())) >>= fun _ =>
          again (.compLoop (.ListComp elt [⟨t1, iter1, [], 0⟩, ⟨t2, iter2, [], 0⟩] scope pos) 1 it acc env)) := by
  have e : compTurn (.ListComp elt [⟨t1, iter1, [], 0⟩, ⟨t2, iter2, [], 0⟩] scope pos) 1 it acc env = (standAt iter2.pos >>= fun _ => pyNext it >>= fun r => match r with
      | none => pure (.done .next)
      | some v => letOwnedTupleGo t2 it v >>= fun _ => assign t2 env v >>= fun _ =>
        (eval elt env >>= fun x => call (.builtin "list.append") [acc, x] >>= fun _ => pure ()) >>= fun _ =>
          again (.compLoop (.ListComp elt [⟨t1, iter1, [], 0⟩, ⟨t2, iter2, [], 0⟩] scope pos) 1 it acc env)) := by rfl
  rw [e]
  congr 1; funext _; congr 1; funext r
  cases r with
  | none => rfl
  | some v => simp only [bind_assoc, pure_bind]

theorem start2 {R : Result → Shared → Prop} {it acc : Value}
    (h0 : codeAny C.M A (.compLoop (.ListComp elt [⟨t1, iter1, [], 0⟩, ⟨t2, iter2, [], 0⟩] scope pos) 1 it acc env) R s)
    (h : wpAny C.M A (pyIter it) (fun it' s' => codeAny C.M A (.compLoop (.ListComp elt [⟨t1, iter1, [], 0⟩, ⟨t2, iter2, [], 0⟩] scope pos) 1 it' acc env) R s')
      (notedBy C.M A env fun x s' => R (.error x) s') s) :
    codeAny C.M A (.compStart (.ListComp elt [⟨t1, iter1, [], 0⟩, ⟨t2, iter2, [], 0⟩] scope pos) 1 it acc env) R s := by
  refine codeAny_of_tree ?_
  show wpAny _ _ ((compStart (.ListComp elt [⟨t1, iter1, [], 0⟩, ⟨t2, iter2, [], 0⟩] scope pos) 1 it acc env).onRaise (fun x => do noteFrame x env; standAt theWindowsPlace)) _ _ s
  refine wpAny_notedAt ?_
  unfold compStart
  show wpAny _ _ (ask >>= _) _ _ s
  refine wpAny_bind (wpAny_askSetting (wpAny_ite ?_))
  split
  · first
      | exact wpAny_bind (wpAny_pure (wpAny_pure (And.intro rfl h0)))
      | exact wpAny_pure (And.intro rfl h0)
  · first
      | exact wpAny_bind (wpAny_rule (wpAny_bind (wpAny_standAt (wpAny_bind (wpAny_mono h (fun it' s' h' => wpAny_pure (And.intro rfl h')) fun _ _ x => x)))))
      | (refine wpAny_bind (wpAny_rule ?_); show wpAny _ _ (standAt iter2.pos >>= _) _ _ s; exact wpAny_bind (wpAny_standAt (wpAny_bind (wpAny_mono h (fun it' s' h' => wpAny_pure (And.intro rfl h')) fun _ _ x => x))))

variable {x1 x2 : Str} {p1 p2 : Pos}

/-- both loops of a block with two clauses, the targets names -/
theorem comp_loop2 {I D : Addr} {cenv : Env} {fp wr : List Addr} {n : Nat} {P : Nat → Value → Heap → Prop} {S : Nat → Heap → Prop} {g₂ : Heap} {s4 : Shared} {σb : Str → Option Value} {R : Result → Shared → Prop}
    (_hA : A.handled = none)
    (hx1 : cenv.kindOf x1 = some .local) (hx2 : cenv.kindOf x2 = some .local) (hcells : cellsOk cenv = true) (W : Wk C A I fp wr n P S) (hD : D ∉ fp) (hL : cenv.locals ∉ fp) (hfpx : ∀ b ∈ fp, b ∉ C.ex) (hwr : ∀ b ∈ wr, g₂.get? b = none ∧ s.heap.get? b = none)
    (x0 : CS C K g s cenv D [x1, x2] σb g₂ s4 σb []) (hS : S 0 s4.heap) (m : Nat) (hm : n * m ≤ sizeLine) (O : Nat → Nat → List Value → Heap → Prop) (hO : O 0 0 [] g₂) (hcarry : ∀ i ys g, O i m ys g → O (i + 1) 0 ys g)
    (hmono : ∀ i j ys g g', Sub g g' → O i j ys g → O i j ys g')
    (P2 : Nat → Nat → Value → Prop)
    (hiter2 : ∀ i v gk sk s1 τ E', i < n → P i v sk → Fn C K g s cenv gk s1 τ → τ x1 = some v → (∀ y, y ∉ [x1, x2] → τ y = σb y) → Sub g₂ gk →
      wpAny C.M A (eval iter2 cenv) (fun xv s₁ => wpAny C.M A (pyIter xv) (fun it s₂ => ∃ J g3, it = .ref J ∧ ItOk C A gk s1 g3 s₂ J m (fun j v _ => P2 i j v)) E' s₁) E' s1)
    (helt : ∀ i j v u gk sk s1 ys E', i < n → j < m → P i v sk → P2 i j u → Fn C K g s cenv gk s1 (fun y => if y = x2 then some u else if y = x1 then some v else σb y) → Sub g₂ gk → ys.length = i * m + j → O i j ys gk →
      wpAny C.M A (eval elt cenv) (fun y s2 => ∃ g3, Gr C gk s1 g3 s2 ∧ O i (j + 1) (ys ++ [y]) g3) E' s1)
    (hR : ∀ ge se σe ys, CS C K g s cenv D [x1, x2] σb ge se σe ys → ys.length = n * m → O n 0 ys ge → R (.ok .next) se)
    (hs2 : ∀ x, foldedSetIterable iter2 cenv x = pure x) :
    codeAny C.M A (.compLoop (.ListComp elt [⟨.Name x1 p1, iter1, [], 0⟩, ⟨.Name x2 p2, iter2, [], 0⟩] scope pos) 0 (.ref I) (.ref D) cenv) R s4 := by
  refine comp_clause _ (turn2a _ _ _ _ _ _ _ _ _ _) W (fun i ys g => ys.length = i * m ∧ O i 0 ys g) hD hL hfpx (fun b hb => (hwr b hb).1) (fun b hb => (hwr b hb).2) x0 hS ⟨by simp, hO⟩ ?_ fun ge se σe ys c h _ => hR ge se σe ys c h.1 h.2
  intro i v gk sk σk ys hi hP c hsub ho hS'
  refine wpAny_bind (wpAny_of_eq (show letOwnedTupleGo (.Name x1 p1) (.ref I) v = pure () from rfl) ?_)
  refine wpAny_bind ?_
  show wpAny _ _ (do standAt p1; bindName cenv x1 v) _ _ _
  refine wpAny_bind (wpAny_standAt (wpAny_bindName (storeLocal c.fn hx1 hcells fun h1 f1 hs1 => ?_)))
  obtain ⟨kD, hDk⟩ := c.acc
  have hD1 := hs1.extBut D _ c.dL hDk
  refine wpAny_bind (wpAny_mono (hiter2 i v gk sk.heap _ _ _ hi hP f1 (by simp) (fun y hy => ?_) hsub) (fun xv s₁ hx => ?_) fun _ _ e => e)
  · rw [if_neg (fun q => hy (by simp [q]))]; exact c.nm y hy
  refine wpAny_bind (wpAny_standAt (wpAny_bind (wpAny_of_eq (hs2 xv) (wpAny_bind (wpAny_holding (wpAny_mono hx (fun it s₂ h₂ => ?_) fun _ _ e => e))))))
  obtain ⟨J, g3, rfl, fp2, wr2, S2, W2, hS2, hwr2, hfp2, G2⟩ := h₂
  have f2 := f1.gr G2
  have hDt : D ∉ C.ts := Acc.notTab ⟨kD, hDk⟩ c.fn.st.tab
  have hDx : D ∉ C.ex := fun q => by
    obtain ⟨o, e⟩ := c.fn.st₀.exs D q
    rw [c.sD] at e; cases e
  have hD2 := G2.keep D _ hDt hDx hD1
  have gD2 := G2.fresh D _ c.gD hD1
  have hws2 : ∀ b ∈ wr2, s.heap.get? b = none := fun b hb => by
    cases q : s.heap.get? b with
    | none => rfl
    | some o =>
      exfalso
      have h5 := f1.keep b o (fun ht => by
        obtain ⟨ps, hp, _⟩ := f2.st.tab b ht
        obtain ⟨o', ho', hc', _⟩ := W2.there 0 _ hS2 b (W2.sub b hb)
        rw [hp] at ho'; cases ho'; exact hc' rfl) (fun hx => by
        obtain ⟨o', e'⟩ := f1.st.exs b hx
        rw [(hwr2 b hb).2] at e'; cases e') q
      rw [(hwr2 b hb).2] at h5; cases h5
  have notFp : ∀ b o, gk.get? b = none → h1.get? b = some o → b ∉ fp2 := fun b o e1 e2 hb => by
    rcases hfp2 b hb with h | ⟨o', ho'⟩
    · have := (hwr2 b h).2
      rw [show ({ sk with heap := h1, toks := sk.toks + 1 } : Shared).heap = h1 from rfl, e2] at this; cases this
    · rw [G2.fresh b o e1 e2] at ho'; cases ho'
  have hD2fp : D ∉ fp2 := notFp D _ c.gD hD1
  have hL2fp : cenv.locals ∉ fp2 := by
    obtain ⟨mL, ⟨oL, _, _, hoL, _⟩, _⟩ := f1.loc.ns
    exact notFp _ oL f1.own.2 hoL
  refine wpAny_bind (wpAny_runOwn ?_)
  have hmark : A.mark none = A := by obtain ⟨a, b, c', d', e'⟩ := A; rfl
  rw [hmark]
  have loop2 : ∀ s₃, s₃ = s₂ → codeAny C.M A (.compLoop (.ListComp elt [⟨.Name x1 p1, iter1, [], 0⟩, ⟨.Name x2 p2, iter2, [], 0⟩] scope pos) 1 (.ref J) (.ref D) cenv)
      (fun r s' => match r with
        | .ok _ => wpAny C.M A (pure () : Sem Unit) (fun _ s2 => ∃ g2 σ2 ys2, CS C K g s cenv D [x1, x2] σb g2 s2 σ2 ys2 ∧ (ys2.length = (i + 1) * m ∧ O (i + 1) 0 ys2 g2) ∧ CG C cenv D [] gk sk g2 s2) (notedBy C.M A cenv fun e s' => R (.error e) s') s'
        | .error e => cameBackBy C.M A cenv (notedBy C.M A cenv fun e s' => R (.error e) s') e s') s₃ := by
    rintro s₃ rfl
    refine comp_clause _ (turn2b _ _ _ _ _ _ _ _ _ _) W2 (fun j ys g => ys.length = i * m + j ∧ O i j ys g) (N := [x2]) (σb := fun y => if y = x1 then some v else σb y) hD2fp hL2fp (notExFp f1.st hwr2 hfp2 G2) (fun b hb => (hwr2 b hb).1) hws2
      ⟨f2, fun y hy => ?_, ⟨kD, hD2⟩, gD2, c.sD, c.dL⟩ hS2 ⟨by rw [ho.1]; simp, hmono _ _ _ _ _ G2.up ho.2⟩ ?_ ?_
    · show (if y = x1 then some v else σk y) = if y = x1 then some v else σb y
      by_cases q : y = x1
      · rw [if_pos q, if_pos q]
      · rw [if_neg q, if_neg q]; exact c.nm y (by simp only [List.mem_cons, List.not_mem_nil, or_false, not_or]; exact ⟨q, by simpa using hy⟩)
    · intro j u gj sj σj ysj hj hPj cj hsubj hoj hSj
      refine wpAny_mono (emit_name (O' := fun ys g => ys.length = i * m + (j + 1) ∧ O i (j + 1) ys g) (px := p2) (I := J) hx2 hcells ?_ cj fun s1 fj => ?_) (fun _ s2 h => h) fun _ _ e => e
      · have h1 := hoj.1
        have h2 : i * m + j < n * m := by
          calc i * m + j < i * m + m := by omega
            _ = (i + 1) * m := by rw [Nat.add_mul, Nat.one_mul]
            _ ≤ n * m := Nat.mul_le_mul_right m hi
        omega
      · exact wpAny_mono (helt i j v u gj sk.heap s1 ysj _ hi hj hP hPj fj (fun b o e => hsubj b o (G2.up b o (hsub b o e))) hoj.1 hoj.2) (fun y s2 h => by
          obtain ⟨g4, a, b⟩ := h
          exact ⟨g4, a, by rw [List.length_append, hoj.1]; simp only [List.length_singleton]; omega, b⟩) fun _ _ e => e
    · intro ge se σe ys ce hoe cg
      refine wpAny_pure ⟨ge, σe, ys, ⟨ce.fn, fun y hy => ?_, ce.acc, ce.gD, ce.sD, ce.dL⟩, ⟨by rw [hoe.1, Nat.add_mul, Nat.one_mul], hcarry _ _ _ hoe.2⟩, fun b o e => cg.up b o (G2.up b o e), fun b o h1' h2 h3 hx _ e => ?_, fun b o e1 e2 => ?_⟩
      · rw [ce.nm y (fun q => hy (by simp at q; simp [q]))]
        rw [if_neg (fun q => hy (by simp [q]))]
      · have e3 := hs1.extBut b o h2 e
        refine cg.keep b o h1' h2 h3 hx (fun q => ?_) (G2.keep b o h3 hx e3)
        have := (hwr2 b q).2
        rw [show ({ sk with heap := h1, toks := sk.toks + 1 } : Shared).heap = h1 from rfl, e3] at this; cases this
      · by_cases q : b = cenv.locals
        · subst q; exact ce.fn.own.2
        · have e3 := hs1.extBut b o q e2
          have e4 := G2.fresh b o e1 e3
          by_cases hbt : b ∈ C.ts
          · obtain ⟨ps, hp, _⟩ := f2.st.tab b hbt
            exact cg.fresh b _ e4 hp
          · by_cases hbx : b ∈ C.ex
            · obtain ⟨o', e'⟩ := f2.st.exs b hbx
              exact cg.fresh b o' e4 e'
            · exact cg.fresh b o e4 (G2.keep b o hbt hbx e3)
  exact start2 (loop2 _ rfl) (W2.self 0 _ _ _ hS2 (loop2 _ rfl))

/-- [elt for x1 in iter1 for x2 in iter2] -/
theorem comp2 {Q : Value → Shared → Prop} (hA : A.handled = none) (f : View C K env g s σ)
    (h : wpAny C.M A (eval iter1 env) (fun xv s₁ => wpAny C.M A (pyIter xv) (fun it s₂ => ∃ I g₂ n P, ∃ (m : Nat) (O : Nat → Nat → List Value → Heap → Prop) (P2 : Nat → Nat → Value → Prop), it = .ref I ∧ ItOk C A g s g₂ s₂ I n P ∧ n * m ≤ sizeLine ∧ O 0 0 [] g₂ ∧ (∀ i ys g, O i m ys g → O (i + 1) 0 ys g) ∧ (∀ i j ys g g', Sub g g' → O i j ys g → O i j ys g') ∧
      (∀ Cc i v gk sk s1 τ E', i < n → P i v sk → Fn C K g s (compEnvC scope cl Cc env) gk s1 τ → τ x1 = some v → (∀ y, y ∉ [x1, x2] → τ y = σc cl σ y) → Sub g₂ gk →
        wpAny C.M A (eval iter2 (compEnvC scope cl Cc env)) (fun xv s₁ => wpAny C.M A (pyIter xv) (fun it s₂ => ∃ J g3, it = .ref J ∧ ItOk C A gk s1 g3 s₂ J m (fun j v _ => P2 i j v)) E' s₁) E' s1) ∧
      (∀ Cc i j v u gk sk s1 ys E', i < n → j < m → P i v sk → P2 i j u → Fn C K g s (compEnvC scope cl Cc env) gk s1 (fun y => if y = x2 then some u else if y = x1 then some v else σc cl σ y) → Sub g₂ gk → ys.length = i * m + j → O i j ys gk →
        wpAny C.M A (eval elt (compEnvC scope cl Cc env)) (fun y s2 => ∃ g3, Gr C gk s1 g3 s2 ∧ O i (j + 1) (ys ++ [y]) g3) E' s1) ∧
      (∀ D ys g' s', Gr C g s g' s' → g'.PlainList D ys.toArray → ys.length = n * m → O n 0 ys g' → Q (.ref D) s')) E s₁) E s)
    (hcl : clFrom env.cells scope.names [] = some cl := by rfl) (hcell : ∀ y ∈ scope.names, y.2 ≠ .cell := by decide) (hkind : scope.kind = .function := by rfl)
    (hnames : ∀ y ∈ scope.names, y.2 = .local → scope.names.lookup y.1 = some .local := by decide) (hlook : ∀ Cc, cellsOk (compEnvC scope cl Cc env) = true := by intro _; rfl)
    (hx1 : ∀ Cc, (compEnvC scope cl Cc env).kindOf x1 = some .local := by intro _; rfl) (hx2 : ∀ Cc, (compEnvC scope cl Cc env).kindOf x2 = some .local := by intro _; rfl)
    (hs : ∀ x, foldedSetIterable iter1 env x = pure x := by intro _; rfl) (hs2 : ∀ Cc x, foldedSetIterable iter2 (compEnvC scope cl Cc env) x = pure x := by intro _ _; rfl) :
    wpAny C.M A (eval (.ListComp elt [⟨.Name x1 p1, iter1, [], 0⟩, ⟨.Name x2 p2, iter2, [], 0⟩] scope pos) env) Q E s := by
  rw [eval_ListComp]
  refine wpAny_comprehension_free (use := none) rfl hs (closureFor_eq hcl) hkind hnames (wpAny_mono h (fun xv s₁ h₁ => wpAny_mono h₁ (fun it s₂ h₂ => ?_) fun _ _ e => e) fun _ _ e => e)
  obtain ⟨I, g₂, n, P, m, O, P2, rfl, ⟨fp, wr, S, W, hS, hwr, hfp, G⟩, hn, hO, hcarry, hmono, hiter2, helt, hQ⟩ := h₂
  refine comp_block (RR := fun acc Cc => compPost C.M A E none Q acc Cc) (N := [x1, x2]) rfl f G hcl hcell hkind hlook W hS fun D Cc s4 hD hC x0 hS4 _ _ _ => ?_
  refine comp_loop2 hA (hx1 Cc) (hx2 Cc) (hlook Cc) W hD hC (notExFp f.st hwr hfp G) hwr x0 hS4 m hn O hO hcarry hmono P2 (hiter2 Cc) (helt Cc) (fun ge se σe ys c hl ho => ?_) (hs2 Cc)
  exact comp_ends c fun g' s' gr hsub hpl => hQ D ys g' s' gr hpl hl (hmono _ _ _ _ _ hsub ho)

end
end Mine
end
section
open PySem PySem.W PySem.Calls PyProof.Rows PySem.Spec
set_option Elab.async false
set_option maxRecDepth 100000
namespace Mine
variable {C : Cfg} {K : Frag}

/-- a dict's entries, told by names and values -/
inductive EntAre : List DictEntry → List (Str × Value) → Prop
  | nil : EntAre [] []
  | cons {h : Int} {k : Str} {t : Tok} {v : Value} {es : List DictEntry} {fs : List (Str × Value)} : EntAre es fs → EntAre (⟨h, .str k t, v⟩ :: es) ((k, v) :: fs)

theorem getL_of {es : List DictEntry} {fs : List (Str × Value)} (x : EntAre es fs) (name : Str) : getL name es = some (fs.lookup name) := by
  induction x with
  | nil => rfl
  | @cons h k t v es fs r ih =>
    unfold getL at ih ⊢
    by_cases q : name = k
    · subst q
      simp [Value.isStr]
    · have q1 : (k == name) = false := beq_eq_false_iff_ne.mpr (Ne.symm q)
      have q2 : (name == k) = false := beq_eq_false_iff_ne.mpr q
      simp only [List.find?_cons, Value.isStr, q1, List.lookup_cons, q2, List.any_cons, DictEntry.refKey, Bool.false_or] at ih ⊢
      exact ih

/-- an object of an own class, told by its fields -/
def Fld (g : Heap) (x Cc : Addr) (fs : List (Str × Value)) : Prop := ∃ dx es n, g.get? x = some (instObj Cc dx) ∧ g.get? dx = some (dictOf es n) ∧ EntAre es fs
theorem Fld.up {g g' : Heap} {x Cc : Addr} {fs : List (Str × Value)} (h : Fld g x Cc fs) (k : Sub g g') : Fld g' x Cc fs := let ⟨dx, es, n, a, b, c⟩ := h; ⟨dx, es, n, k _ _ a, k _ _ b, c⟩
theorem IsList.up {g g' : Heap} {l : Addr} {vs : Array Value} (h : g.IsList l vs) (k : Sub g g') : g'.IsList l vs := let ⟨o, a, b⟩ := h; ⟨o, k _ _ a, b⟩
theorem PlainList.toIs {g : Heap} {l : Addr} {vs : Array Value} (h : g.PlainList l vs) : g.IsList l vs := let ⟨n, a⟩ := h; ⟨_, a, rfl, n, rfl⟩

section
variable {A : Around} {E : Value → Shared → Prop} {g₀ g : Heap} {s₀ s : Shared} {env : Env} {σ : Str → Option Value} {t : Nat}

abbrev Same (S s : Shared) : Prop := S = { s with toks := S.toks }
theorem Fn.at {S : Shared} (f : Fn C K g₀ s₀ env g s σ) (h : Same S s) : Fn C K g₀ s₀ env g S σ := by rw [h]; exact f.tok _
theorem St.kin' (x : St C K g s) : K.In s.heap := x.kin.keeps x.sub
theorem kinOf (f : Fn C K g₀ s₀ env g s σ) : K.In s.heap := f.st.kin.keeps f.st.sub
variable {S : Shared} {M : Model} {prog : Program} {w : World}
theorem nmT {x : Str} {pos : Pos} {v : Value} {Q : Value → Shared → Prop} (f : Fn C K g₀ s₀ env g s σ) (hS : Same S s) (hv : σ x = some v) (h : Q v S) (hk : varOk env x = true := by rfl) : wpAny M A (eval (.Name x pos) env) Q E S :=
  nm (f.at hS) hv h hk
theorem ldT {x : Str} {v : Value} {Q : Value → Shared → Prop} (f : Fn C K g₀ s₀ env g s σ) (hS : Same S s) (hv : σ x = some v) (h : Q v S) (hk : varOk env x = true := by rfl) : wpAny M A (loadName env x) Q E S :=
  loadVar (f.at hS) hv h hk
theorem nmGT {x : Str} {pos : Pos} {v : Value} {Q : Value → Shared → Prop} (f : Fn C K g₀ s₀ env g s σ) (hS : Same S s) (e : nsIn K mainGlobals x = some (some v)) (h : Q v S) (hk : globOk env x = true := by rfl) : wpAny M A (eval (.Name x pos) env) Q E S :=
  nmG (f.at hS) e h hk
theorem nmBT {x : Str} {pos : Pos} {v : Value} {Q : Value → Shared → Prop} (f : Fn C K g₀ s₀ env g s σ) (hS : Same S s) (e : nsIn K mainGlobals x = some none) (hv : bootBuiltins x = some v) (h : Q v S) (hn : x ≠ "__name__" := by decide) (hk : globOk env x = true := by rfl) :
    wpAny M A (eval (.Name x pos) env) Q E S := nmB (f.at hS) e hv h hn hk
theorem stT {x : Str} {v : Value} {Q : Unit → Shared → Prop} (f : Fn C K g₀ s₀ env g s σ) (hS : Same S s) (h : ∀ s', Fn C K g₀ s₀ env g s' (fun y => if y = x then some v else σ y) → Q () s') (hk : storeOk env x = true := by rfl) (hcells : cellsOk env = true := by rfl) :
    wpAny M A (storeName env x v) Q E S := storeVar (f.at hS) hk hcells fun s' f' _ => h s' f'
theorem kin_and {P : Prop} (f : Fn C K g₀ s₀ env g s σ) (hS : Same S s) (h : P) : K.In S.heap ∧ P := ⟨kinOf (f.at hS), h⟩

theorem inst_of {x Cc : Addr} {fs : List (Str × Value)} (h : Fld g x Cc fs) {h' : Heap} (k : Sub g h') : ∃ dx es n, EntAre es fs ∧ InstAt h' x (instObj Cc dx) Cc (some (dictOf es n)) :=
  let ⟨dx, es, n, a, b, c⟩ := h; ⟨dx, es, n, c, k _ _ a, rfl, rfl, k _ _ b⟩

/-- a field is read -/
theorem attrT {x Cc : Addr} {fs : List (Str × Value)} {name : Str} {expr : Bool} {v : Value} {attr : Option Value} {Q : Value → Shared → Prop} (f : Fn C K g₀ s₀ env g s σ) (hS : Same S s) (I : Fld g x Cc fs) (hl : fs.lookup name = some v)
    (hg : plainGet K Cc name = true) (hh : hasDictIn K Cc = true) (ha : findIn K (.ref Cc) name = some attr) (hn : noGet K attr = true) (hv : handedIn v = true) (h : Q v { S with toks := S.toks + 1 }) :
    wpAny (model prog w) A (getAttr (.ref x) name expr) Q E S := by
  have f' := f.at hS
  obtain ⟨dx, es, n, en, ia⟩ := inst_of I f'.st.sub
  exact get_value (kinOf f') ia (plainGet_of hg).1 (findObj_own hh ha hn (by rw [lookIn_dict, getL_of en, hl])) hv h

/-- a method of an own class is found -/
theorem methT {x Cc fa : Addr} {fs : List (Str × Value)} {name : Str} {pl : Sem Bool} {Q : Value × List Value → Shared → Prop} (f : Fn C K g₀ s₀ env g s σ) (hS : Same S s) (I : Fld g x Cc fs) (hl : fs.lookup name = none)
    (hg : plainGet K Cc name = true) (hf : findIn K (.ref Cc) name = some (some (.ref fa))) (ht : isFn K (.ref fa) = true) (h : Q (.ref fa, [.ref x]) S) :
    wpAny (model prog w) A (getMethod (.ref x) name pl) Q E S := by
  have f' := f.at hS
  obtain ⟨dx, es, n, en, ia⟩ := inst_of I f'.st.sub
  exact method_fn (kinOf f') ia (plainGet_of hg).1 (plainGet_of hg).2 hf (beq_iff_eq.mp ht) (by show (lookIn name (dictOf es n)).map _ = _; rw [lookIn_dict, getL_of en, hl]; rfl) h

theorem pylong (a : Int) {b : Int} (h : b.natAbs.log2 < 9000) {M : Model} {A : Around} {s : Shared} : Builtin.divisionGoesByPylong a b = false ∨ PylongRoom M A s := .inl (PyProof.noPylong_of_log2 h)
end

section
variable {A : Around} {E : Value → Shared → Prop} {g : Heap} {s : Shared}

theorem Gr.same_l {g' : Heap} {s' S : Shared} (h : Gr C g S g' s') (hS : Same S s) : Gr C g s g' s' := by rw [hS] at h; exact h.tok_l
theorem Gr.same_r {g' : Heap} {s' S : Shared} (h : Gr C g s g' s') (hS : Same S s') : Gr C g s g' S := by rw [hS]; exact h.tok_r _
theorem St.at {S : Shared} (h : St C K g s) (hS : Same S s) : St C K g S := by rw [hS]; exact h.tok _
theorem ItOk.same_l {g₂ : Heap} {s₂ S : Shared} {I : Addr} {n : Nat} {P : Nat → Value → Heap → Prop} (h : ItOk C A g S g₂ s₂ I n P) (hS : Same S s) : ItOk C A g s g₂ s₂ I n P :=
  let ⟨fp, wr, S', a, b, c, d, e⟩ := h; ⟨fp, wr, S', a, b, (fun x hx => by have := c x hx; rw [hS] at this; exact this), d, e.same_l hS⟩
theorem ItOk.gr {g₂ : Heap} {s₂ : Shared} {I : Addr} {n : Nat} {P : Nat → Value → Heap → Prop} (h : ItOk C A g s g₂ s₂ I n P) : Gr C g s g₂ s₂ := let ⟨_, _, _, _, _, _, _, e⟩ := h; e

/-- from the library's iterators to ours -/
theorem wk_of {I : Addr} {fp wr : List Addr} {n : Nat} {P : Nat → Value → Prop} {S : Nat → Heap → Prop} (W : Walks C.prog C.w A I fp wr n P S) (hth : ∀ i h, S i h → ∀ b ∈ fp, ∃ o, h.get? b = some o ∧ o.cls ≠ .none ∧ ∀ v, o.data ≠ .cell v) :
    Wk C A I fp wr n (fun i v _ => P i v) S := ⟨W.sub, hth, W.frame, W.item, W.done, W.self⟩

theorem list_itS {l : Addr} {vs : List Value} {Q : Value → Shared → Prop} (st : St C K g s) (hh : A.handled = none) (hl : g.IsList l vs.toArray)
    (h : ∀ I g₂ s₂, ItOk C A g s g₂ s₂ I vs.length (fun i v _ => vs[i]? = some v) → Q (.ref I) s₂) : wpAny C.M A (pyIter (.ref l)) Q E s := by
  have hl' := IsList.up hl st.sub
  obtain ⟨o, ho, hc, k, hd⟩ := id hl
  have hI := get_size_none s.heap
  have W : Walks C.prog C.w A s.heap.objs.size [s.heap.objs.size, l] [s.heap.objs.size] vs.length (fun i v => vs[i]? = some v) (fun i h => h.IsListIter s.heap.objs.size l i ∧ h.IsList l vs.toArray) := by
    have := Walks.list (prog := C.prog) (w := C.w) hh s.heap.objs.size l (fun q => by have := st.sub l o ho; rw [q, hI] at this; cases this) vs.toArray
    simpa using this
  refine wpAny_pyIter_list hl' (h _ g _ ⟨[s.heap.objs.size, l], [s.heap.objs.size], _, wk_of W ?_, ⟨⟨_, Heap.get?_push_size _ rfl, rfl, rfl⟩, hl'.push _⟩, ?_, ?_, ?_⟩)
  · rintro i hp ⟨⟨oi, hoi, hci, hdi⟩, ⟨ol, hol, hcl, kl, hdl⟩⟩ b hb
    rcases List.mem_cons.mp hb with rfl | hb
    · exact ⟨oi, hoi, by rw [hci]; simp, fun v q => by rw [hdi] at q; cases q⟩
    · rw [List.mem_singleton.mp hb]
      exact ⟨ol, hol, by rw [hcl]; simp, fun v q => by rw [hdl] at q; cases q⟩
  · intro b hb
    rw [List.mem_singleton.mp hb]
    exact ⟨none_of_sub st.sub hI, hI⟩
  · intro b hb
    rcases List.mem_cons.mp hb with rfl | hb
    · exact .inl (.head _)
    · rw [List.mem_singleton.mp hb]; exact .inr ⟨o, ho⟩
  · exact ⟨fun _ _ e => e, fun b o e => Heap.get?_push_of_some _ (st.sub b o e), fun b o _ _ e => Heap.get?_push_of_some _ e, fun b _ o e => ⟨o, Heap.get?_push_of_some _ e⟩, fun _ _ e _ => e, fun P hP => (st.tab P hP).keeps fun _ _ e => Heap.get?_push_of_some _ e, st.gens, ⟨rfl, rfl, fun _ _ e => e⟩, fun _ _ e => e⟩

theorem range_itS {r : Addr} {a b c : Int} {t u v : Tok} {n : Nat} {Q : Value → Shared → Prop} {ob : Obj} {tk : Nat} (st : St C K g s) (hh : A.handled = none) (hr : IsRange (s.heap.push ob) r a b c t u v) (hsmall : Builtin.Range.small a b c = true) (hn : Builtin.Range.rangeSize a b c = (n : Int))
    (h : ∀ I g₂ s₂, ItOk C A g s g₂ s₂ I n (fun i v _ => ∃ t, v = .int (a + i * c) t) → Q (.ref I) s₂) : wpAny C.M A (pyIter (.ref r)) Q E { s with heap := s.heap.push ob, toks := tk } := by
  have hk : Sub s.heap (s.heap.push ob) := fun _ _ e => Heap.get?_push_of_some _ e
  have hI : s.heap.get? (s.heap.push ob).objs.size = none := by
    cases q : s.heap.get? (s.heap.push ob).objs.size with
    | none => rfl
    | some o => have := hk _ _ q; rw [get_size_none] at this; cases this
  refine wpAny_pyIter_range hr hsmall (h _ g _ ⟨[(s.heap.push ob).objs.size], [(s.heap.push ob).objs.size], _, wk_of (Walks.range hh _ a c n) ?_, ?_, ?_, fun b hb => .inl hb, ?_⟩)
  · intro i hp hit b hb
    rw [List.mem_singleton.mp hb]
    exact ⟨_, hit, by simp, fun v q => by cases q⟩
  · have e1 : (a + ((0 : Nat) : Int) * c) = a := by simp
    have e2 : ((n : Int) - ((0 : Nat) : Int)) = Builtin.Range.rangeSize a b c := by rw [hn]; simp
    show IsRangeIter _ _ (a + ((0 : Nat) : Int) * c) ((n : Int) - ((0 : Nat) : Int)) c
    rw [e1, e2]
    exact Heap.get?_push_size _ rfl
  · intro b hb
    rw [List.mem_singleton.mp hb]
    exact ⟨none_of_sub st.sub hI, hI⟩
  · exact ⟨fun _ _ e => e, fun b o e => Heap.get?_push_of_some _ (hk b o (st.sub b o e)), fun b o _ _ e => Heap.get?_push_of_some _ (hk b o e), fun b _ o e => ⟨o, Heap.get?_push_of_some _ (hk b o e)⟩, fun _ _ e _ => e, fun P hP => (st.tab P hP).keeps fun _ _ e => Heap.get?_push_of_some _ (hk _ _ e), st.gens, ⟨rfl, rfl, fun _ _ e => e⟩, fun _ _ e => e⟩
end
end Mine
end
section
open PySem PySem.W PySem.Calls PyProof.Rows PySem.Spec
set_option Elab.async false
set_option maxRecDepth 100000
namespace Mine
namespace O
section
variable {prog : Program} {w : World} {A : Around} {E : Value → Shared → Prop} {h : Heap} {gs : Array GenState} {d : Drawn} {t : Nat} {os : OsState} {a b : Int} {ta tb : Tok} {env : Env}
theorem add_ {Q : Value → Shared → Prop}  (hq : Q (.int (a + b) t) ⟨h, gs, d, t + 1, os⟩) : wpAny (model prog w) A (binaryOp .Add (.int a ta) (.int b tb)) Q E ⟨h, gs, d, t, os⟩ := PyProof.Rows.add_int (s := ⟨h, gs, d, t, os⟩)  (h := hq)
theorem sub_ {Q : Value → Shared → Prop}  (hq : Q (.int (a - b) t) ⟨h, gs, d, t + 1, os⟩) : wpAny (model prog w) A (binaryOp .Sub (.int a ta) (.int b tb)) Q E ⟨h, gs, d, t, os⟩ := PyProof.Rows.sub_int (s := ⟨h, gs, d, t, os⟩)  (h := hq)
theorem mul_ {Q : Value → Shared → Prop} (hm : IntMulOk a b) (hq : Q (.int (a * b) t) ⟨h, gs, d, t + 1, os⟩) : wpAny (model prog w) A (binaryOp .Mult (.int a ta) (.int b tb)) Q E ⟨h, gs, d, t, os⟩ := PyProof.Rows.mul_int (s := ⟨h, gs, d, t, os⟩) (hm := hm) (h := hq)
theorem mod_ {Q : Value → Shared → Prop} (hb : b ≠ 0) (hq : Q (.int (a.fmod b) t) ⟨h, gs, d, t + 1, os⟩) : wpAny (model prog w) A (binaryOp .Mod (.int a ta) (.int b tb)) Q E ⟨h, gs, d, t, os⟩ := PyProof.Rows.mod_int (s := ⟨h, gs, d, t, os⟩) hb (h := hq)
theorem fdiv_ {Q : Value → Shared → Prop} (hb : b ≠ 0) (hl : b.natAbs.log2 < 9000) (hq : Q (.int (a.fdiv b) t) ⟨h, gs, d, t + 1, os⟩) : wpAny (model prog w) A (binaryOp .FloorDiv (.int a ta) (.int b tb)) Q E ⟨h, gs, d, t, os⟩ := PyProof.Rows.floordiv_int (s := ⟨h, gs, d, t, os⟩) (hp := pylong a hl) hb (h := hq)
theorem pow_ {Q : Value → Shared → Prop} (hn : 0 ≤ b) (hz : (Builtin.Int.intBits a : Int) * b ≤ 2 ^ 27) (hq : Q (.int (a ^ b.toNat) t) ⟨h, gs, d, t + 1, os⟩) : wpAny (model prog w) A (binaryOp .Pow (.int a ta) (.int b tb)) Q E ⟨h, gs, d, t, os⟩ := PyProof.Rows.pow_int (s := ⟨h, gs, d, t, os⟩) hn hz (h := hq)
theorem shl_ {Q : Value → Shared → Prop} (hn : 0 ≤ b) (hz : (Builtin.Int.intBits a : Int) + b ≤ 2 ^ 27) (hq : Q (.int (a * 2 ^ b.toNat) t) ⟨h, gs, d, t + 1, os⟩) : wpAny (model prog w) A (binaryOp .LShift (.int a ta) (.int b tb)) Q E ⟨h, gs, d, t, os⟩ := PyProof.Rows.lshift_int (s := ⟨h, gs, d, t, os⟩) hn hz (h := hq)
theorem ishl_ {Q : Value → Shared → Prop} (hn : 0 ≤ b) (hz : (Builtin.Int.intBits a : Int) + b ≤ 2 ^ 27) (hq : Q (.int (a * 2 ^ b.toNat) t) ⟨h, gs, d, t + 1, os⟩) : wpAny (model prog w) A (inplaceOp .LShift (.int a ta) (.int b tb)) Q E ⟨h, gs, d, t, os⟩ := PyProof.Rows.ilshift_int (s := ⟨h, gs, d, t, os⟩) hn hz (h := hq)
theorem shr_ {Q : Value → Shared → Prop} (hn : 0 ≤ b) (hq : Q (.int (a.fdiv (2 ^ b.toNat)) t) ⟨h, gs, d, t + 1, os⟩) : wpAny (model prog w) A (binaryOp .RShift (.int a ta) (.int b tb)) Q E ⟨h, gs, d, t, os⟩ := PyProof.Rows.rshift_int (s := ⟨h, gs, d, t, os⟩) hn (h := hq)
theorem and_ {Q : Value → Shared → Prop}  (hq : Q (.int (Builtin.bitAnd a b) t) ⟨h, gs, d, t + 1, os⟩) : wpAny (model prog w) A (binaryOp .BitAnd (.int a ta) (.int b tb)) Q E ⟨h, gs, d, t, os⟩ := PyProof.Rows.and_int (s := ⟨h, gs, d, t, os⟩)  (h := hq)
theorem ior_ {Q : Value → Shared → Prop}  (hq : Q (.int (Builtin.bitOr a b) t) ⟨h, gs, d, t + 1, os⟩) : wpAny (model prog w) A (inplaceOp .BitOr (.int a ta) (.int b tb)) Q E ⟨h, gs, d, t, os⟩ := PyProof.Rows.ior_int (s := ⟨h, gs, d, t, os⟩)  (h := hq)
theorem neg_ {Q : Value → Shared → Prop} (hq : Q (.int (-a) t) ⟨h, gs, d, t + 1, os⟩) : wpAny (model prog w) A (unaryOp .USub (.int a ta)) Q E ⟨h, gs, d, t, os⟩ := PyProof.Rows.neg_int (s := ⟨h, gs, d, t, os⟩) (h := hq)
theorem cint_ {M : Model} {k : Nat} {pos : Pos} {Q : Value → Shared → Prop} (hq : Q (.int a t) ⟨h, gs, d, t + 1, os⟩) : wpAny M A (eval (.Constant (.int a) k pos) env) Q E ⟨h, gs, d, t, os⟩ := wpAny_Constant_int (s := ⟨h, gs, d, t, os⟩) hq
theorem cstr_ {M : Model} {x : Str} {k : Nat} {pos : Pos} {Q : Value → Shared → Prop} (hq : Q (.str x t) ⟨h, gs, d, t + 1, os⟩) : wpAny M A (eval (.Constant (.str x) k pos) env) Q E ⟨h, gs, d, t, os⟩ := Constant_str (s := ⟨h, gs, d, t, os⟩) hq
theorem cbytes_ {M : Model} {x : List UInt8} {k : Nat} {pos : Pos} {Q : Value → Shared → Prop} (hq : Q (.bytes x.toArray t) ⟨h, gs, d, t + 1, os⟩) : wpAny M A (eval (.Constant (.bytes x) k pos) env) Q E ⟨h, gs, d, t, os⟩ := fun _ _ _ => hq
end
end O
section
variable {prog : Program} {w : World} {C : Cfg} {K : Frag} {A : Around} {E : Value → Shared → Prop} {g₀ g : Heap} {s₀ s : Shared} {env : Env} {σ : Str → Option Value} {h : Heap} {gs : Array GenState} {d : Drawn} {t : Nat} {os : OsState}
theorem attrF {x Cc : Addr} {fs : List (Str × Value)} {name : Str} {expr : Bool} {v : Value} {attr : Option Value} {Q : Value → Shared → Prop} (f : Fn C K g₀ s₀ env g s σ) (hS : Same ⟨h, gs, d, t, os⟩ s) (I : Fld g x Cc fs) (hl : fs.lookup name = some v)
    (hg : plainGet K Cc name = true) (hh : hasDictIn K Cc = true) (ha : findIn K (.ref Cc) name = some attr) (hn : noGet K attr = true) (hv : handedIn v = true) (hq : Q v ⟨h, gs, d, t + 1, os⟩) :
    wpAny (model prog w) A (getAttr (.ref x) name expr) Q E ⟨h, gs, d, t, os⟩ := attrT f hS I hl hg hh ha hn hv hq
end
end Mine
end
section
open PySem PySem.W PySem.Calls PyProof.Rows PySem.Spec Builtin.ObjectAttr
set_option Elab.async false
set_option maxRecDepth 100000
namespace Mine
variable {C : Cfg} {K : Frag}

/-- the same, and one more place that is exempt: the dict of an object under construction -/
@[reducible] def Cfg.x (C : Cfg) (dx : Addr) : Cfg := { C with ex := dx :: C.ex }

theorem EntAre.put {es : List DictEntry} {fs : List (Str × Value)} (x : EntAre es fs) {name : Str} {hsh : Int} {t : Tok} {v : Value} (h : fs.lookup name = none) : EntAre (putL name hsh (.str name t) v es) (fs ++ [(name, v)]) := by
  induction x with
  | nil => exact .cons .nil
  | @cons hh k t' v' es fs r ih =>
    rw [List.lookup_cons] at h
    split at h
    · cases h
    · rename_i hb
      have q : name ≠ k := by simpa using hb
      unfold putL
      have : (Value.str k t').isStr name = false := by show (k == name) = false; exact beq_eq_false_iff_ne.mpr (Ne.symm q)
      simp only [this]
      exact .cons (ih h)
theorem EntAre.noRef {es : List DictEntry} {fs : List (Str × Value)} (x : EntAre es fs) : es.any (·.refKey) = false := by
  induction x with
  | nil => rfl
  | cons _ ih => simp only [List.any_cons, DictEntry.refKey, Bool.false_or]; exact ih
theorem EntAre.len {es : List DictEntry} {fs : List (Str × Value)} (x : EntAre es fs) : es.length = fs.length := by
  induction x with
  | nil => rfl
  | cons _ ih => simp [ih]

/-- an object under construction: x stands, its dict dx holds fs for now -/
structure Und (C : Cfg) (g h : Heap) (x Cc dx : Addr) (fs : List (Str × Value)) : Prop where
  nx : dx ∉ C.ex
  at_ : g.get? x = some (instObj Cc dx)
  dict : ∃ es n, h.get? dx = some (dictOf es n) ∧ EntAre es fs

section
variable {prog : Program} {w : World} {A : Around} {E : Value → Shared → Prop} {g₀ g : Heap} {s₀ s : Shared} {env : Env} {σ : Str → Option Value}

theorem Und.keep {g h g' h' : Heap} {x Cc dx : Addr} {fs : List (Str × Value)} (u : Und C g h x Cc dx fs) (up : Sub g g') (hd : ∀ o, h.get? dx = some o → h'.get? dx = some o) : Und C g' h' x Cc dx fs := ⟨u.nx, up _ _ u.at_, let ⟨es, n, a, b⟩ := u.dict; ⟨es, n, hd _ a, b⟩⟩

/-- a field of an object under construction is set -/
theorem setF {x Cc dx : Addr} {fs : List (Str × Value)} {name : Str} {v : Value} {Q : Unit → Shared → Prop} (f : Fn (C.x dx) K g₀ s₀ env g s σ) (u : Und C g s.heap x Cc dx fs)
    (hl : fs.lookup name = none) (hz : fs.length < 900)
    (hs : findIn K (.ref Cc) "__setattr__" = some (some (.builtin "object.__setattr__"))) (hp : plainOver K Cc = true) (ht : takerIn K Cc name = some none) (hh : hasDictIn K Cc = true)
    (h : ∀ s', Fn (C.x dx) K g₀ s₀ env g s' σ → Und C g s'.heap x Cc dx (fs ++ [(name, v)]) → Q () s') : wpAny (model prog w) A (setAttr (.ref x) name v) Q E s := by
  obtain ⟨es, n, hd, en⟩ := u.dict
  have hx : s.heap.get? x = some ⟨.ref Cc, some dx, .plain, #[]⟩ := f.st.sub _ _ u.at_
  have I : InstAt s.heap x (instObj Cc dx) Cc (some (dictOf es n)) := ⟨hx, rfl, rfl, hd⟩
  have X := kinOf f
  have gd : g.get? dx = none := f.st.ge dx (.head _)
  refine set_plain X I hs (osa_open (s := { s with toks := s.toks + 1 }) X I hp ht fun b => ?_)
  obtain ⟨cd, hc, hd'⟩ := any_some hh
  have SB : Heap.SameBut dx s.heap (s.heap.update dx (Obj.putName name (PyData.keyHash w.params name) (.str name (s.toks + 1)) v)) ∧ (s.heap.update dx (Obj.putName name (PyData.keyHash w.params name) (.str name (s.toks + 1)) v)).get? dx = some (dictOf (putL name (PyData.keyHash w.params name) (.str name (s.toks + 1)) v es) (putN name es n)) := by
    refine ⟨Heap.SameBut.update .., ?_⟩
    rw [Heap.get?_update_self _ hd (by rw [putName_dict]; rfl), putName_dict]
  obtain ⟨SB, D'⟩ := SB
  refine wpAny_bind (wpAny_pure (wpAny_bind (wpAny_bind (wpAny_loadPart hx (wpAny_bind (Looks.here (s := { s with toks := s.toks + 1 }) (looks_clsIn X hc) ?_))))))
  rw [hd']
  refine wpAny_pure (a := some dx) (wpAny_bind (wpAny_pure (wpAny_bind ?_)))
  unfold nsSet
  refine wpAny_bind (wpAny_bind (wpAny_askSetting (wpAny_pure (wpAny_bind (wpAny_mkText (wpAny_bind (wpAny_loadPart hd ?_)))))))
  dsimp only
  have c : (!es.toArray.any (·.key.isStr name) && es.toArray.any (·.refKey)) = false := by
    rw [← Array.any_toList, ← Array.any_toList]
    show (_ && es.any (·.refKey)) = false
    rw [en.noRef, Bool.and_false]
  rw [aRefKeyMayBeTheName_at, c]
  refine wpAny_updatePart hd ?_
  have en' := en.put (hsh := PyData.keyHash w.params name) (t := s.toks + 1) (v := v) hl
  refine wpAny_bind (wpAny_lookBehind D' (pastItsLine_dict (by rw [List.size_toArray, en'.len, sizeLine_eq, List.length_append]; simp; omega)) ?_)
  refine wpAny_pure (h _ ?_ ⟨u.nx, u.at_, _, _, D', en'⟩)
  have hdt : dx ∉ C.ts := fun q => by
    obtain ⟨ps, hp, _⟩ := f.st.tab dx q
    rw [hd] at hp; cases hp
  exact f.wr (wr := [dx]) (t := s.toks + 2) (fun b o hb e => SB.extBut b o (fun q => hb (by simp [q])) e) (fun b hb _ => by rw [List.mem_singleton.mp hb]; exact ⟨_, D'⟩) (fun b hb => by rw [List.mem_singleton.mp hb]; exact gd)
    (fun b hb => .inl (by rw [List.mem_singleton.mp hb]; exact .head _)) (fun b hb => by rw [List.mem_singleton.mp hb]; exact hdt) (fun b hb => by rw [List.mem_singleton.mp hb]; exact (f.exo dx (.head _)).1)
    (fun b hb => by rw [List.mem_singleton.mp hb]; exact (f.exo dx (.head _)).2)
theorem setFT {S : Shared} {x Cc dx : Addr} {fs : List (Str × Value)} {name : Str} {v : Value} {Q : Unit → Shared → Prop} (f : Fn (C.x dx) K g₀ s₀ env g s σ) (hS : Same S s) (u : Und C g s.heap x Cc dx fs)
    (hl : fs.lookup name = none) (hz : fs.length < 900)
    (hs : findIn K (.ref Cc) "__setattr__" = some (some (.builtin "object.__setattr__"))) (hp : plainOver K Cc = true) (ht : takerIn K Cc name = some none) (hh : hasDictIn K Cc = true)
    (h : ∀ s', Fn (C.x dx) K g₀ s₀ env g s' σ → Und C g s'.heap x Cc dx (fs ++ [(name, v)]) → Q () s') : wpAny (model prog w) A (setAttr (.ref x) name v) Q E S :=
  setF (f.at hS) (by rw [hS]; exact u) hl hz hs hp ht hh h

/-- inside, a call may take the object as it stands for settled -/
theorem St.opened {fs : List (Str × Value)} {x Cc dx : Addr} (st : St (C.x dx) K g s) (u : Und C g s.heap x Cc dx fs) : St C K (addG g s.heap dx) s where
  sub := addG_sub
  gt := fun P hP => addG_none (st.gt P hP) fun q => by
    obtain ⟨ps, hp, _⟩ := st.tab P hP
    obtain ⟨es, n, hd, _⟩ := u.dict
    rw [q, hd] at hp; cases hp
  ge := fun P hP => addG_none (st.ge P (.tail _ hP)) fun q => u.nx (q ▸ hP)
  exs := fun b hb => st.exs b (.tail _ hb)
  tab := st.tab
  gens := st.gens
  kin := st.kin.keeps (addG_up st.sub)
  top := st.top.keeps (addG_up st.sub)
theorem Und.fld {fs : List (Str × Value)} {x Cc dx : Addr} (u : Und C g s.heap x Cc dx fs) (hs : Sub g s.heap) : Fld (addG g s.heap dx) x Cc fs :=
  let ⟨es, n, a, b⟩ := u.dict; ⟨dx, es, n, addG_up hs _ _ u.at_, by rw [addG_D]; exact a, b⟩

def delG (g : Heap) (D : Addr) : Heap := restrict g fun b => !(b == D)
theorem delG_get {g : Heap} {D b : Addr} : (delG g D).get? b = if !(b == D) then g.get? b else none := restrict_get _ _ _
theorem delG_ne {g : Heap} {D b : Addr} {o : Obj} (h : g.get? b = some o) (hb : b ≠ D) : (delG g D).get? b = some o := by rw [delG_get]; simpa [hb] using h
theorem delG_sub {g : Heap} {D : Addr} : Sub (delG g D) g := fun b o e => by rw [delG_get] at e; split at e <;> first | exact e | cases e
theorem delG_none {g : Heap} {D b : Addr} (h : g.get? b = none) : (delG g D).get? b = none := none_of_sub delG_sub h
theorem delG_D {g : Heap} {D : Addr} : (delG g D).get? D = none := by rw [delG_get]; simp

/-- and at its end the object is again under construction -/
theorem Gr.back {g' : Heap} {s' : Shared} {fs : List (Str × Value)} {x Cc dx : Addr} (st : St (C.x dx) K g s) (u : Und C g s.heap x Cc dx fs) (y : Gr C (addG g s.heap dx) s g' s') : Gr (C.x dx) g s (delG g' dx) s' ∧ Und C (delG g' dx) s'.heap x Cc dx fs := by
  have hg : g.get? dx = none := st.ge dx (.head _)
  obtain ⟨es, n, hd, en⟩ := u.dict
  have hd' : s'.heap.get? dx = some (dictOf es n) := y.sub _ _ (y.up _ _ (by rw [addG_D]; exact hd))
  have up : Sub g (delG g' dx) := fun b o e => delG_ne (y.up b o (addG_up st.sub b o e)) fun q => by rw [q, hg] at e; cases e
  refine ⟨⟨up, fun b o e => y.sub b o (delG_sub b o e), fun b o hb hx e => y.keep b o hb (fun q => hx (.tail _ q)) e, fun b hb o e => ?_, fun b o e1 e2 => ?_, y.tab, y.gens, ⟨y.os.1, y.os.2, y.os.3⟩, fun P hP e => ?_⟩, u.nx, up _ _ u.at_, es, n, hd', en⟩
  · rcases List.mem_cons.mp hb with rfl | hb
    · exact ⟨_, hd'⟩
    · exact y.exk b hb o e
  · by_cases q : b = dx
    · subst q; exact delG_D
    · exact delG_none (y.fresh b o (addG_none e1 q) e2)
  · rcases List.mem_cons.mp hP with rfl | hP
    · exact delG_D
    · by_cases q : P = dx
      · subst q; exact delG_D
      · exact delG_none (y.geR P hP (addG_none e q))
theorem Fn.opened {fs : List (Str × Value)} {x Cc dx : Addr} (f : Fn (C.x dx) K g₀ s₀ env g s σ) (u : Und C g s.heap x Cc dx fs) : View C K env (addG g s.heap dx) s σ :=
  ⟨f.st.opened u, f.loc, fun b hb => f.exo b (.tail _ hb), f.gl, f.bl⟩
theorem Fn.back {g' : Heap} {s' : Shared} {fs : List (Str × Value)} {x Cc dx : Addr} (f : Fn (C.x dx) K g₀ s₀ env g s σ) (u : Und C g s.heap x Cc dx fs) (y : Gr C (addG g s.heap dx) s g' s') : Fn (C.x dx) K g₀ s₀ env (delG g' dx) s' σ ∧ Und C (delG g' dx) s'.heap x Cc dx fs :=
  let ⟨a, b⟩ := Gr.back f.st u y; ⟨f.gr a, b⟩
/-- a method of an object under construction -/
theorem methU {S : Shared} {x Cc dx fa : Addr} {fs : List (Str × Value)} {name : Str} {pl : Sem Bool} {Q : Value × List Value → Shared → Prop} (f : Fn (C.x dx) K g₀ s₀ env g s σ) (hS : Same S s) (u : Und C g s.heap x Cc dx fs) (hl : fs.lookup name = none)
    (hg : plainGet K Cc name = true) (hf : findIn K (.ref Cc) name = some (some (.ref fa))) (ht : isFn K (.ref fa) = true) (h : Q (.ref fa, [.ref x]) S) :
    wpAny (model prog w) A (getMethod (.ref x) name pl) Q E S := by
  have f := f.at hS
  have u : Und C g S.heap x Cc dx fs := by rw [hS]; exact u
  obtain ⟨es, n, hd, en⟩ := u.dict
  have I : InstAt S.heap x (instObj Cc dx) Cc (some (dictOf es n)) := ⟨f.st.sub _ _ u.at_, rfl, rfl, hd⟩
  exact method_fn (kinOf f) I (plainGet_of hg).1 (plainGet_of hg).2 hf (beq_iff_eq.mp ht) (by show (lookIn name (dictOf es n)).map _ = _; rw [lookIn_dict, getL_of en, hl]; rfl) h

/-- what an __init__ leaves behind -/
def InitPost (C : Cfg) (E : Value → Shared → Prop) (g : Heap) (s : Shared) (x Cc dx : Addr) (Q : Value → Shared → Prop) (g₁ : Heap) (s₁ : Shared) (r : Result) (s' : Shared) : Prop := match r with
  | .ok (.ret v) => v = .none ∧ ∃ g' fs, Gr (C.x dx) g₁ s₁ g' s' ∧ Und C g' s'.heap x Cc dx fs ∧ (∀ g'', Sub g' g'' → Gr C g s g'' s' → Fld g'' x Cc fs → Q (.ref x) s')
  | .ok _ => False
  | .error e => E e s'

/-- a class is called: what its __init__ tells -/
theorem mkInst {Cc fI : Addr} {rest : List Value} {kw : List (Str × Value)} {Q : Value → Shared → Prop} (st : St C K g s) (hm : makesIn K Cc = true)
    (hi : findIn K (.ref Cc) "__init__" = some (some (.ref fI))) (hf : typeIn K (.ref fI) = some (.type "function"))
    (h : ∀ x dx g₁ s₁, St (C.x dx) K g₁ s₁ → Sub g g₁ → Und C g₁ s₁.heap x Cc dx [] →
      codeAny C.M (A.under (.builtin "type.__call__" ⟨.ref Cc :: rest, kw⟩)) (.call (.ref fI) ⟨.ref x :: rest, kw⟩) (InitPost C E g s x Cc dx Q g₁ s₁) s₁) : wpAny C.M A (call (.ref Cc) rest kw) Q E s := by
  obtain ⟨hh, gs, dr, tk, os⟩ := s
  have X : K.In hh := st.kin'
  refine wpAny_call (make_core (makes_of X hm) (looks_findIn X hi) (fun self => bind_fn X self hf) (.inl rfl) ?_)
  have eqd : (hh.push emptyDict).get? hh.objs.size = some emptyDict := Heap.get?_push_size _ rfl
  have hsz : (hh.push emptyDict).objs.size = hh.objs.size + 1 := Heap.size_push ..
  generalize hH2 : (hh.push emptyDict).push (instObj Cc hh.objs.size) = H2
  have old : Sub hh H2 := fun b o e => hH2 ▸ Heap.get?_push_of_some _ (Heap.get?_push_of_some _ e)
  have fr : ∀ b, hh.objs.size ≤ b → hh.get? b = none := fun b hb => Heap.get?_none_of_le hb
  have hD : H2.get? hh.objs.size = some (dictOf [] 0) := hH2 ▸ Heap.get?_push_of_some _ eqd
  have hX : H2.get? (hh.objs.size + 1) = some (instObj Cc hh.objs.size) := by rw [← hH2, ← hsz]; exact Heap.get?_push_size _ rfl
  have gn : ∀ b, hh.objs.size ≤ b → g.get? b = none := fun b hb => none_of_sub st.sub (fr b hb)
  have nx : hh.objs.size ∉ C.ex := fun q => by
    obtain ⟨o, e⟩ := st.exs _ q
    rw [show (⟨hh, gs, dr, tk, os⟩ : Shared).heap = hh from rfl, fr _ (Nat.le_refl _)] at e; cases e
  have nX : hh.objs.size + 1 ∉ C.ex := fun q => by
    obtain ⟨o, e⟩ := st.exs _ q
    rw [show (⟨hh, gs, dr, tk, os⟩ : Shared).heap = hh from rfl, fr _ (Nat.le_succ _)] at e; cases e
  have nt : ∀ b, hh.objs.size ≤ b → b ∉ C.ts := fun b hb q => by
    obtain ⟨ps, e, _⟩ := st.tab _ q
    rw [show (⟨hh, gs, dr, tk, os⟩ : Shared).heap = hh from rfl, fr _ hb] at e; cases e
  have sg : Sub g H2 := fun b o e => old b o (st.sub b o e)
  have up1 : Sub g (addG g H2 (hh.objs.size + 1)) := addG_up sg
  have st1 : St (C.x hh.objs.size) K (addG g H2 (hh.objs.size + 1)) ⟨H2, gs, dr, tk, os⟩ := {
    sub := addG_sub
    gt := fun P hP => addG_none (st.gt P hP) fun q => by rw [q] at hP; exact nt _ (Nat.le_succ _) hP
    ge := fun P hP => by
      rcases List.mem_cons.mp hP with rfl | hP
      · exact addG_none (gn _ (Nat.le_refl _)) (Nat.ne_of_lt (Nat.lt_succ_self _))
      · exact addG_none (st.ge P hP) fun q => nX (q ▸ hP)
    exs := fun b hb => by
      rcases List.mem_cons.mp hb with rfl | hb
      · exact ⟨_, hD⟩
      · obtain ⟨o, e⟩ := st.exs b hb; exact ⟨o, old b o e⟩
    tab := fun P hP => (st.tab P hP).keeps old
    gens := st.gens
    kin := st.kin.keeps up1
    top := st.top.keeps up1 }
  have u1 : Und C (addG g H2 (hh.objs.size + 1)) H2 (hh.objs.size + 1) Cc hh.objs.size [] := ⟨nx, by rw [addG_D]; exact hX, [], 0, hD, .nil⟩
  refine codeAny_mono (h (hh.objs.size + 1) hh.objs.size _ ⟨H2, gs, dr, tk, os⟩ st1 up1 u1) fun r s' z => ?_
  rcases r with e | (v | _ | _ | _) <;> first | exact z | exact z.elim | skip
  obtain ⟨rfl, g', fs, y, u, hq⟩ := z
  refine ⟨rfl, ?_⟩
  obtain ⟨es, n, hd, en⟩ := u.dict
  have sg' : Sub g' (addG g' s'.heap hh.objs.size) := addG_up y.sub
  refine hq (addG g' s'.heap hh.objs.size) sg' ⟨fun b o e => sg' b o (y.up b o (up1 b o e)), addG_sub, fun b o hb hx e => ?_, fun b hb o e => y.exk b (.tail _ hb) o (old b o e), fun b o e1 e2 => ?_, y.tab, y.gens, ⟨y.os.1, y.os.2, y.os.3⟩, fun P hP e => ?_⟩ ⟨hh.objs.size, es, n, sg' _ _ u.at_, by rw [addG_D]; exact hd, en⟩
  · refine y.keep b o hb (fun q => ?_) (old b o e)
    rcases List.mem_cons.mp q with rfl | q
    · have := fr _ (Nat.le_refl hh.objs.size); rw [show (⟨hh, gs, dr, tk, os⟩ : Shared).heap = hh from rfl, this] at e; cases e
    · exact hx q
  · have hlt : b < hh.objs.size := Heap.lt_size (show hh.get? b = some o from e2)
    refine addG_none (y.fresh b o (addG_none e1 (Nat.ne_of_lt (Nat.lt_succ_of_lt hlt))) (old b o e2)) (Nat.ne_of_lt hlt)
  · refine addG_none (y.geR P (.tail _ hP) (addG_none e fun q => nX (q ▸ hP))) fun q => nx (q ▸ hP)
end
end Mine
end
section
open PySem PySem.W PySem.Calls PyProof.Rows PySem.Spec PySem.NumText
set_option Elab.async false
set_option maxRecDepth 100000
set_option maxHeartbeats 0
namespace Mine
theorem entry_pow : entryFor table "pow" = some Builtin.«pow» := entryFor_of_tree (by kernel_rfl)
theorem kind_pow : builtinKind "pow" = none := by decide +kernel
theorem plain_pow : plainId "pow" = true := by decide +kernel
theorem args_pow3 (a b c : Value) : argsOk "pow" ⟨[a, b, c], []⟩ := by unfold argsOk; kernel_rfl
section
variable {prog : Program} {w : World} {A : Around} {E : Value → Shared → Prop} {s : Shared}
theorem pow3t {a b m : Int} {t u v : Tok} {Q : Value → Shared → Prop} (hb : 0 ≤ b) (hm : 1 < m) (h : ∀ i t k, Q (.int i t) { s with toks := k }) :
    wpAny (model prog w) A (call (.builtin "int.__pow__") [.int a t, .int b u, .int m v]) Q E s := by
  refine wpAny_call_entry F.slot_int_pow (typeIs_int s a t) F.entry_int_pow ?_ (F.args_int_pow_3 _ _ _)
  obtain ⟨hh, g, d, tk, os⟩ := s
  have h1 : ¬ b < 0 := by omega
  have h2 : ¬ m = 0 := by omega
  have h3 : ¬ m.natAbs = 1 := by omega
  unfold Builtin.«int.__pow__»
  repeat wp_step
  exact ⟨_, rfl, h _ _ _⟩
/-- 256 to the -1 modulo q -/
theorem pow3i {t u v : Tok} {Q : Value → Shared → Prop} (h : ∀ i t k, Q (.int i t) { s with toks := k }) :
    wpAny (model prog w) A (call (.builtin "int.__pow__") [.int 256 t, .int (-1) u, .int 8380417 v]) Q E s := by
  refine wpAny_call_entry F.slot_int_pow (typeIs_int s _ t) F.entry_int_pow ?_ (F.args_int_pow_3 _ _ _)
  obtain ⟨hh, g, d, tk, os⟩ := s
  unfold Builtin.«int.__pow__»
  repeat wp_step
  exact ⟨_, rfl, h _ _ _⟩
theorem bind_pow (a b c : Value) : Builtin.Builtins.bindParams "pow" ["base", "exp", "mod"] 2 ⟨[a, b, c], []⟩ = pure [some a, some b, some c] := by rfl
theorem pow3_of {a b m : Int} {t u v : Tok} {Q : Value → Shared → Prop}
    (h : ∀ Q' : Value → Shared → Prop, (∀ i t k, Q' (.int i t) { s with toks := k }) → wpAny (model prog w) A.in1 (call (.builtin "int.__pow__") [.int a t, .int b u, .int m v]) Q' E s)
    (hq : ∀ i t k, Q (.int i t) { s with toks := k }) : wpAny (model prog w) A (call (.builtin "pow") [.int a t, .int b u, .int m v]) Q E s := by
  have hT : s.TypeIs (Value.int a t) "int" := typeIs_int s a t
  generalize Value.int a t = va at h hT ⊢
  have key : ∀ Q', (∀ i t k, Q' (some (.int i t)) { s with toks := k }) → wpAny (model prog w) A.in1 (callSpecial? va (Str.ofString "__pow__") [.int b u, .int m v]) Q' E s := fun Q' hQ' =>
    wpAny_callSpecial?_slot hT F.slot_int_pow (h _ fun i t k => hQ' i t k)
  refine Calls.call_function_entry kind_pow plain_pow entry_pow (args_pow3 _ _ _) ?_
  have f1 : typeLookup (.type "int") (Str.ofString "__pow__") = pure (some (.builtin "int.__pow__")) := F.slot_int_pow.lookup
  unfold Builtin.«pow»
  refine wpAny_bind (wpAny_of_eq (bind_pow _ _ _) ?_)
  refine wpAny_bind (wpAny_rule ?_)
  refine wpAny_bind (wpAny_typeOf hT ?_)
  show wpAny (model prog w) A.in1 (typeLookup (Value.type "int") (Str.ofString "__pow__") >>= _) _ _ _
  refine wpAny_bind (wpAny_of_eq f1 ?_)
  show wpAny _ _ (callSpecial? va (Str.ofString "__pow__") [Value.int b u, Value.int m v] >>= _) _ _ _
  refine wpAny_bind (key _ fun i t k => ?_)
  show wpAny _ _ (if (Value.int i t != Value.notImplemented) = true then ret (Value.int i t) else _) _ _ _
  rw [if_pos (by rfl)]
  exact wpAny_pure ⟨_, rfl, hq _ _ _⟩
theorem pow3 {a b m : Int} {t u v : Tok} {Q : Value → Shared → Prop} (hb : 0 ≤ b) (hm : 1 < m) (h : ∀ i t k, Q (.int i t) { s with toks := k }) : wpAny (model prog w) A (call (.builtin "pow") [.int a t, .int b u, .int m v]) Q E s :=
  pow3_of (fun _ hQ => pow3t hb hm hQ) h
end
end Mine
end
section
open PySem PySem.W PySem.Calls PyProof.Rows PySem.Spec PySem.NumText Builtin Builtin.Str
set_option Elab.async false
set_option maxRecDepth 100000
set_option maxHeartbeats 0
namespace Mine
variable {C : Cfg} {K : Frag}
/-- the text that a slice of a text is -/
def cutText (x : Str) (l u st : Option Int) : Str := ⟨((strSliceIndices l u (st.getD 1) x.length).filterMap (x.cps[·]?)).toArray⟩
section
variable {prog : Program} {w : World} {A : Around} {E : Value → Shared → Prop} {s : Shared}

theorem slice_made {x : Str} {t : Tok} {l u st : Option (Int × Tok)} {Q : Value → Shared → Prop} (hsz : (cutText x (l.map (·.1)) (u.map (·.1)) (st.map (·.1))).length ≤ sizeLine)
    (hw : ((st.map (·.1)).getD 1 == 1 && (slicePicked x l u st).length == x.length) = false) (h : ∀ t' k, Q (.str (cutText x (l.map (·.1)) (u.map (·.1)) (st.map (·.1))) t') { s with toks := k }) : (sliceMade x t l u st).post Q s := by
  unfold sliceMade
  rw [if_neg (by rw [hw]; exact Bool.false_ne_true)]
  exact ⟨hsz, h _ _⟩

theorem int_typeCall_2 (a b : Value) : checkTypeCall "int" ⟨[a, b], []⟩ = pure () := by kernel_rfl
theorem int_newCall_2 (a b : Value) : checkBuiltinCall "int.__new__" ⟨[.type "int", a, b], []⟩ = pure () := by kernel_rfl
theorem oi_args3 (a b c : Value) : argsOk "object.__init__" ⟨[a, b, c], []⟩ := by unfold argsOk; kernel_rfl

theorem wp_text2 {M : Model} {Q : Value → Shared → Prop} {v : Value} {text : List Nat} {n : Int}
    (hs : (text.takeWhile (· != 0)).length ≤ 640) (hr : (int_private% "readNumeral") 0 2 (text.takeWhile (· != 0)) = (int_private% "Numeral.value") n)
    (ha : ((text.takeWhile (· != 0)).length == text.length) = true) (h : Q (.int n s.toks) { s with toks := s.toks + 1 }) :
    wpAny M A ((int_private% "intFromText") v text 2) Q E s := by
  obtain ⟨hp, g, d, tk, os⟩ := s
  repeat (any_goals (first
    | assumption
    | (with_reducible refine wpAny_ite_true (decide_eq_true hs) ?_)
    | (with_reducible refine wpAny_ite_true (decide_eq_true ha) ?_)
    | wp_step))
  all_goals (try rw [hr])
  all_goals (try dsimp only)
  repeat (any_goals (first
    | assumption
    | (with_reducible refine wpAny_ite_true (decide_eq_true hs) ?_)
    | (with_reducible refine wpAny_ite_true (decide_eq_true ha) ?_)
    | wp_step))

/-- a text of digits, written to the base two -/
def binOk (x : Str) (n : Int) : Prop := (numSeenOf x).length ≤ 640 ∧ (int_private% "readNumeral") 0 2 (numSeenOf x) = (int_private% "Numeral.value") n ∧ ((numSeenOf x).length == (numTextOf x).length) = true
theorem gives_text2 {x : PySem.Str} {u t : Tok} {n : Int} (hk : KIN.Hid (binOk x n)) : Gives (Builtin.«int.__new__» ⟨[.type "int", .str x u, .int 2 t], []⟩) (.int n) :=
  .of_wp fun M A E s Q h => by
    obtain ⟨hp, g, d, tk, os⟩ := s
    have f1 := F.conv_sub_int
    have f2 := F.madeHere_int
    repeat (any_goals (first
      | assumption
      | ((with_reducible show wpAny _ _ ((int_private% "intFromText") _ _ _) _ _ _); refine wp_text2 hk.out.1 hk.out.2.1 hk.out.2.2 ?_)
      | wp_step))
    all_goals first | exact ⟨_, rfl, h⟩ | skip
theorem int_text2 {x : Str} {t u : Tok} {n : Int} {Q : Value → Shared → Prop} (hn : binOk x n) (h : ∀ t k, Q (.int n t) { s with toks := k }) : wpAny (model prog w) A (call (.type "int") [.str x t, .int 2 u]) Q E s :=
  callType_new F.called_int F.newNe_int (int_typeCall_2 _ _) (int_newCall_2 _ _) (fun obj => oi_args3 obj _ _) F.entry_int_new (gives_text2 ⟨hn⟩).meets (show (Made.int n).post _ s from ⟨rfl, h _ _⟩)

def twoDigits (T : List Nat) : Option (Array Nat) :=
  if (sign (T.dropWhile blank)).1 = false ∧ (based 2 (sign (T.dropWhile blank)).2).1 = 2 ∧ (based 2 (sign (T.dropWhile blank)).2).2.1 = false then
    digits? 2 (((based 2 (sign (T.dropWhile blank)).2).2.2.reverse.dropWhile blank).reverse) else none
theorem read_two {T : List Nat} {ds : Array Nat} (h : twoDigits T = some ds) : (int_private% "readNumeral") 0 2 T = (int_private% "Numeral.value") ((ds.foldl (fun acc d => acc * 2 + d) 0 : Nat) : Int) := by
  unfold twoDigits at h
  split at h
  · rename_i hc
    obtain ⟨h1, h2, h3⟩ := hc
    rw [readNumeral_eq, h1, h2, h3, h]
    unfold judge
    exact (if_neg (by simp)).trans ((if_neg (by simp)).trans ((if_neg (by simp)).trans rfl))
  · cases h

def brT1 (j : Int) : Str := cutText (baseText "0b" 2 j) (some 2) none none
def brT2 (j : Int) : Str := if (8 : Int) ≤ (brT1 j).length then brT1 j else zfilled (brT1 j) (8 - (brT1 j).length)
def brT3 (j : Int) : Str := cutText (brT2 j) none none (some (-1))
def brGood (j : Int) : Bool := decide ((baseText "0b" 2 j).length ≤ 100) && decide ((brT1 j).length + 2 = (baseText "0b" 2 j).length) && decide ((brT2 j).length = 8) && decide ((brT3 j).length = 8) && decide ((numSeenOf (brT3 j)).length ≤ 640) &&
  ((numSeenOf (brT3 j)).length == (numTextOf (brT3 j)).length) && (twoDigits (numSeenOf (brT3 j))).isSome && decide ((slicePicked (baseText "0b" 2 j) (some (2, 0)) none none).length ≠ (baseText "0b" 2 j).length)
theorem br_good : ∀ j : Fin 256, brGood ((j.val : Nat) : Int) = true := by decide +kernel
end
end Mine
end
section
open PySem PySem.W PySem.Calls PyProof.Rows PySem.Spec PySem.NumText Builtin Builtin.Str
set_option Elab.async false
set_option maxRecDepth 100000
set_option maxHeartbeats 0
namespace Mine
variable {C : Cfg} {K : Frag}
section
variable {prog : Program} {w : World} {A : Around} {E : Value → Shared → Prop} {g₀ g : Heap} {s₀ s : Shared} {env : Env} {σ : Str → Option Value} {h : Heap} {gs : Array GenState} {d : Drawn} {tk : Nat} {os : OsState}
/-- what is made and thrown away -/
theorem Gr.junk (st : St C K g s) (o : Obj) (t : Nat) : Gr C g s g { s with heap := s.heap.push o, toks := t } :=
  have hk : Sub s.heap (s.heap.push o) := fun _ _ e => Heap.get?_push_of_some _ e
  ⟨fun _ _ e => e, fun b o e => hk b o (st.sub b o e), fun b o _ _ e => hk b o e, fun b _ o e => ⟨o, hk b o e⟩, fun _ _ e _ => e, fun P hP => (st.tab P hP).keeps hk, st.gens, ⟨rfl, rfl, fun _ _ e => e⟩, fun _ _ e => e⟩
theorem Fn.junk {S : Shared} (f : Fn C K g₀ s₀ env g s σ) (hS : Same S s) (o : Obj) (t : Nat) : Fn C K g₀ s₀ env g { S with heap := S.heap.push o, toks := t } σ := (f.at hS).gr (Gr.junk (f.at hS).st o t)

theorem tailStr_s {value slice : Expr} {x : Str} {t : Tok} {i : Int} {ui : Tok} {Q : Value → Shared → Prop} (f : Fn C K g₀ s₀ env g s σ) (hS : Same ⟨h, gs, d, tk, os⟩ s) (hsz : (cutText x (some i) none none).length ≤ sizeLine) (hne : (slicePicked x (some (i, ui)) none none).length ≠ x.length)
    (hq : ∀ s' t', Fn C K g₀ s₀ env g s' σ → Q (.str (cutText x (some i) none none) t') s')
    (hs : subscripted slice false (.str x t) (.ref h.objs.size) = operate [.ref h.objs.size, .str x t] (getItem (.str x t) (.ref h.objs.size)) := by with_unfolding_all rfl)
    (ht : ∀ r, letTemporaryGo value (.str x t) r = pure () := by intro _; with_unfolding_all rfl) :
    wpAny (model prog w) A (subscriptTail value slice (.str x t) (.ref h.objs.size)) Q E ⟨h.push { cls := .type "slice", data := .fields #[.int i ui, .none, .none] }, gs, d, tk, os⟩ :=
  tail_of_ItemOn ⟨"str", _, F.slot_str_getitem.lookup, typeIs_str _ _ _, wpAny_getItem_str_slice (l := some (i, ui)) (u := none) (st := none) ⟨_, Heap.get?_push_size _ rfl, rfl, rfl⟩ rfl
    (slice_made hsz (by simpa using hne) fun t' k => hq _ t' ((f.junk hS _ tk).tok k))⟩ hs ht
theorem tailStr_rev {value slice : Expr} {x : Str} {t : Tok} {us : Tok} {Q : Value → Shared → Prop} (f : Fn C K g₀ s₀ env g s σ) (hS : Same ⟨h, gs, d, tk, os⟩ s) (hsz : (cutText x none none (some (-1))).length ≤ sizeLine)
    (hq : ∀ s' t', Fn C K g₀ s₀ env g s' σ → Q (.str (cutText x none none (some (-1))) t') s')
    (hs : subscripted slice false (.str x t) (.ref h.objs.size) = operate [.ref h.objs.size, .str x t] (getItem (.str x t) (.ref h.objs.size)) := by with_unfolding_all rfl)
    (ht : ∀ r, letTemporaryGo value (.str x t) r = pure () := by intro _; with_unfolding_all rfl) :
    wpAny (model prog w) A (subscriptTail value slice (.str x t) (.ref h.objs.size)) Q E ⟨h.push { cls := .type "slice", data := .fields #[.none, .none, .int (-1) us] }, gs, d, tk, os⟩ :=
  tail_of_ItemOn ⟨"str", _, F.slot_str_getitem.lookup, typeIs_str _ _ _, wpAny_getItem_str_slice (l := none) (u := none) (st := some (-1, us)) ⟨_, Heap.get?_push_size _ rfl, rfl, rfl⟩ rfl
    (slice_made (st := some (-1, us)) hsz rfl fun t' k => hq _ t' ((f.junk hS _ tk).tok k))⟩ hs ht
theorem zfill8 {x : Str} {t u : Tok} {Q : Value → Shared → Prop} (hsz : (if (8 : Int) ≤ x.length then x else zfilled x (8 - x.length)).length ≤ sizeLine)
    (hq : ∀ t' k, Q (.str (if (8 : Int) ≤ x.length then x else zfilled x (8 - x.length)) t') { s with toks := k }) : wpAny (model prog w) A (call (.builtin "str.zfill") [.str x t, .int 8 u]) Q E s := by
  refine call_gives F.slot_str_zfill (typeIs_str _ _ _) F.entry_str_zfill (F.args_str_zfill_2 _ _) (gives_str_zfill x 8 t u (by decide) (by decide)) ?_
  show (if (8 : Int) ≤ x.length then Made.val (.str x t) else Made.str (zfilled x ((8 : Int).toNat - x.length))).post Q s
  split
  · rename_i hc
    simp only [if_pos hc] at hq
    exact hq t s.toks
  · rename_i hc
    simp only [if_neg hc] at hq hsz
    exact ⟨hsz, hq _ _⟩
end
end Mine
end
section
open PySem PySem.W PySem.Calls PyProof.Rows PySem.Spec PySem.NumText Builtin Builtin.Str
set_option Elab.async false
set_option maxRecDepth 100000
set_option maxHeartbeats 0
namespace Mine
variable {C : Cfg} {K : Frag}
section
variable {prog : Program} {w : World} {A : Around} {E : Value → Shared → Prop} {g₀ g : Heap} {s₀ s : Shared} {env : Env} {σ : Str → Option Value} {h : Heap} {gs : Array GenState} {d : Drawn} {tk : Nat} {os : OsState}

/-- a static method is found through an object -/
theorem smT {S : Shared} {x Cc p : Addr} {fs : List (Str × Value)} {name : Str} {pl : Sem Bool} {fv : Value} {rest : List Value} {Q : Value × List Value → Shared → Prop} (f : Fn C K g₀ s₀ env g s σ) (hS : Same S s) (I : Fld g x Cc fs) (hl : fs.lookup name = none)
    (hg : plainGet K Cc name = true) (hh : hasDictIn K Cc = true) (ha : findIn K (.ref Cc) name = some (some (.ref p))) (ht : typeIn K (.ref p) = some (.type "staticmethod"))
    (hgf : specialIn K (.ref p) "__get__" = some (some (.builtin "staticmethod.__get__"))) (hts : takesIn K (.ref p) = some false) (hc : copiedNames.contains name = false) (hp : recIn K p "staticmethod" = some (fv :: rest)) (hv : handedIn fv = true)
    (h : Q (fv, []) { S with toks := S.toks + 1 }) : wpAny (model prog w) A (getMethod (.ref x) name pl) Q E S := by
  have f' := f.at hS
  obtain ⟨dx, es, n, en, ia⟩ := inst_of I f'.st.sub
  have X := kinOf f'
  exact method_usual (r := some (.ref p)) X ia (plainGet_of hg).1 (plainGet_of hg).2 ha (by simp only [Option.all_some, ht, Option.any_some]; decide +kernel)
    (get_bind X ia (plainGet_of hg).1 (findObj_fn hh ha hgf hts hc (by show lookIn name (dictOf es n) = _; rw [lookIn_dict, getL_of en, hl])) (plainGet_of hg).2
      (wpAny_call (sm_get (s := { S with toks := S.toks + 1 }) X hp (handed_on hv h))))

/-- a name is bound while an object is under construction -/
theorem stU {S : Shared} {M : Model} {x Cc dx : Addr} {fs : List (Str × Value)} {y : Str} {v : Value} {Q : Unit → Shared → Prop} (f : Fn (C.x dx) K g₀ s₀ env g s σ) (hS : Same S s) (u : Und C g s.heap x Cc dx fs)
    (h : ∀ s', Fn (C.x dx) K g₀ s₀ env g s' (fun z => if z = y then some v else σ z) → Und C g s'.heap x Cc dx fs → Q () s') (hk : storeOk env y = true := by rfl) (hcells : cellsOk env = true := by rfl) :
    wpAny M A (storeName env y v) Q E S := storeVar (f.at hS) hk hcells fun s' f' keep => h s' f' (u.keep (fun _ _ e => e) fun o e => keep dx o (f.exo dx (.head _)).1 (f.exo dx (.head _)).2 (by rw [hS]; exact e))
theorem delG_fld {g' : Heap} {s' : Shared} {fs fs' : List (Str × Value)} {x Cc dx p Cp : Addr} (u : Und C g s.heap x Cc dx fs) (y : Gr C (addG g s.heap dx) s g' s') (hl : Fld g' p Cp fs') (hne : fs.length ≠ fs'.length) : Fld (delG g' dx) p Cp fs' := by
  obtain ⟨es, n, hd, en⟩ := u.dict
  have hd' : g'.get? dx = some (dictOf es n) := y.up _ _ (by rw [addG_D]; exact hd)
  obtain ⟨dp, es', n', h1, h2, h3⟩ := hl
  refine ⟨dp, es', n', delG_ne h1 fun q => ?_, delG_ne h2 fun q => ?_, h3⟩
  · rw [q, hd'] at h1; cases h1
  · rw [q, hd'] at h2
    have e : es = es' := by
      have := congrArg Obj.data (Option.some.inj h2)
      injection this with e1 e2
      have := congrArg Array.toList e1
      simpa using this
    rw [← e] at h3
    exact hne (en.len.symm.trans h3.len)

theorem rangeGo1 {S : Shared} {n : Int} {k : Nat} {t : Tok} {Q : Value → Shared → Prop} (st : St C K g s) (hS : Same S s) (hh : A.handled = none) (hn : n = k) (hs : Builtin.Range.small 0 n 1 = true)
    (h : ∀ I g₂ s₂, ItOk C A g s g₂ s₂ I k (fun i v _ => ∃ t, v = .int i t) → Q (.ref I) s₂) : wpAny C.M A (call (.type "range") [.int n t]) (fun xv s₁ => wpAny C.M A (pyIter xv) Q E s₁) E S := by
  refine call_range_1 ?_
  have st' := st.at hS
  refine range_itS st' hh (IsRange.new _ _ _ _ _ _ _) hs (n := k) (by rw [rangeSize_one, hn]; split <;> omega) fun I g₂ s₂ it => ?_
  refine h I g₂ s₂ (ItOk.same_l ?_ hS)
  obtain ⟨fp, wr, S', W, b, c, d, e⟩ := it
  exact ⟨fp, wr, S', ⟨W.sub, W.there, W.frame, fun i s Q E hi hs hq => W.item i s Q E hi hs (fun v h' tk hp => hq v h' tk (by obtain ⟨t, ht⟩ := hp; exact ⟨t, by rw [ht]; congr 1; omega⟩)), W.done, W.self⟩, b, c, d, e⟩
end
end Mine
namespace Mine
theorem Room.under_call {A : Around} {n m : Nat} {Cc : Addr} {rest : List Value} {kw : List (Str × Value)} (h : Room A n) (hm : m + 1 ≤ n := by decide) : Room (A.under (.builtin "type.__call__" ⟨.ref Cc :: rest, kw⟩)) m := by
  obtain ⟨a, b, c⟩ := h
  refine ⟨?_, ?_, c⟩
  · show A.depth + 1 + _ ≤ _; omega
  · show A.units + 1 + _ ≤ _; omega
end Mine
end
section
open PySem PySem.W PySem.Calls PyProof.Rows PySem.Spec PySem.NumText Builtin Builtin.Str
set_option Elab.async false
set_option maxRecDepth 100000
set_option maxHeartbeats 0
namespace Mine
variable {C : Cfg} {K : Frag}
section
variable {prog : Program} {w : World} {A : Around} {E : Value → Shared → Prop} {g₀ g : Heap} {s₀ s : Shared} {env : Env} {σ : Str → Option Value} {h : Heap} {gs : Array GenState} {d : Drawn} {tk : Nat} {os : OsState}
/-- the length of a list -/
theorem lenF {l : Addr} {vs : List Value} {Q : Value → Shared → Prop} (f : Fn C K g₀ s₀ env g s σ) (hS : Same ⟨h, gs, d, tk, os⟩ s) (hl : g.IsList l vs.toArray) (hz : vs.length < 2 ^ 62) (hq : Q (.int vs.length (tk + 1)) ⟨h, gs, d, tk + 1 + 1, os⟩) :
    wpAny (model prog w) A (call (.builtin "len") [.ref l]) Q E ⟨h, gs, d, tk, os⟩ := by
  have f' := f.at hS
  exact Calls.call_len_list (IsList.up hl f'.st.sub) (by simp; omega) (by simpa using hq)
/-- an item of a list -/
theorem itemF {value slice : Expr} {l : Addr} {vs : List Value} {k : Int} {u : Tok} {x : Value} {Q : Value → Shared → Prop} (f : Fn C K g₀ s₀ env g s σ) (hS : Same ⟨h, gs, d, tk, os⟩ s) (hl : g.IsList l vs.toArray)
    (h0 : 0 ≤ k) (hfit : k < 2 ^ 63) (hx : vs[k.toNat]? = some x) (hq : Q x ⟨h, gs, d, tk, os⟩)
    (hs : subscripted slice false (.ref l) (.int k u) = operate [.ref l, .int k u] (getItem (.ref l) (.int k u)) := by with_unfolding_all rfl) (hg : ∀ r, letTemporaryGo value (.ref l) r = pure () := by intro _; with_unfolding_all rfl) :
    wpAny (model prog w) A (subscriptTail value slice (.ref l) (.int k u)) Q E ⟨h, gs, d, tk, os⟩ := by
  have f' := f.at hS
  exact item_listL (IsList.up hl f'.st.sub) h0 hfit hx hq hs hg
theorem isiList {l : Addr} {vs : List Value} {T : Value} {b : Bool} {Q : Value → Shared → Prop} (f : Fn C K g₀ s₀ env g s σ) (hS : Same ⟨h, gs, d, tk, os⟩ s) (hl : g.IsList l vs.toArray) (e : kitOne K (.type "list") T = some b)
    (hq : ∀ tk, Q (.bool b) ⟨h, gs, d, tk, os⟩) : wpAny (model prog w) A (call (.builtin "isinstance") [.ref l, T]) Q E ⟨h, gs, d, tk, os⟩ := by
  have f' := f.at hS
  obtain ⟨o, ho, hc, _⟩ := IsList.up hl f'.st.sub
  exact kia_one (s := ⟨h, gs, d, tk, os⟩) kitx_list (kinOf f') ⟨o, ho, hc⟩ e (by intro q; cases q) hq
theorem isiObj {x D : Addr} {fs : List (Str × Value)} {T : Value} {b : Bool} {Q : Value → Shared → Prop} (f : Fn C K g₀ s₀ env g s σ) (hS : Same ⟨h, gs, d, tk, os⟩ s) (I : Fld g x D fs)
    (hg : plainGet K D "__class__" = true) (hdct : hasDictIn K D = true) (ha : findIn K (.ref D) "__class__" = some (some (.builtin "object.__class__")))
    (hn : specialIn K (.builtin "object.__class__") "__get__" = some (some (.builtin "getset_descriptor.__get__"))) (htk : takesIn K (.builtin "object.__class__") = some true) (hm : mroIn K D (.type "object") = some true)
    (e : kitOne K (.ref D) T = some b) (hq : ∀ tk, Q (.bool b) ⟨h, gs, d, tk, os⟩) : wpAny (model prog w) A (call (.builtin "isinstance") [.ref x, T]) Q E ⟨h, gs, d, tk, os⟩ := by
  have f' := f.at hS
  obtain ⟨dx, es, n, en, ia⟩ := inst_of I f'.st.sub
  exact kia_one (s := ⟨h, gs, d, tk, os⟩) (kitx_own hg hdct ha hn htk hm) (kinOf f') ia e (by intro q; cases q) hq
theorem ifN {c : Prop} [Decidable c] {X Y : Prop} (hc : ¬ c) (hy : Y) : if c then X else Y := by rw [if_neg hc]; exact hy
theorem ifY {c : Prop} [Decidable c] {X Y : Prop} (hc : c) (hx : X) : if c then X else Y := by rw [if_pos hc]; exact hx
abbrev VR (Q : Value → Shared → Prop) (E : Value → Shared → Prop) : Result → Shared → Prop := fun r s' => match r with | .ok (.ret v) => Q v s' | .ok _ => False | .error e => E e s'
/-- an object of an own class is called -/
theorem callObjT {S : Shared} {x Cc fa : Addr} {fs : List (Str × Value)} {pos : Pos} {first : List Value} {e : Expr} {rest : List Expr} {Q : Value → Shared → Prop} (f : Fn C K g₀ s₀ env g s σ) (hS : Same S s) (I : Fld g x Cc fs)
    (hs : findIn K (.ref Cc) "__call__" = some (some (.ref fa))) (hf : isFn K (.ref fa) = true) (hfn : fnIn K fa = true)
    (h : wpAny (model prog w) A (spliced (backTo pos (starEach (e :: rest) env))) (fun vs s₁ => Sub g s₁.heap ∧ codeAny (model prog w) A (.call (.ref fa) ⟨.ref x :: (first ++ vs), []⟩) (VR Q E) s₁) E S)
    (he : starEach (e :: rest) env = (false, eval e env) :: starEach rest env := by rfl) (hplain : (backTo pos (starEach rest env)).any (·.1) = false := by rfl) :
    wpAny (model prog w) A (callWith pos (.ref x) first (backTo pos (starEach (e :: rest) env)) []) Q E S := by
  have f' := f.at hS
  obtain ⟨dx, es, n, h1, h2, en⟩ := I
  have ia : ∀ {h' : Heap}, Sub g h' → InstAt h' x (instObj Cc dx) Cc (some (dictOf es n)) := fun k => ⟨k _ _ h1, rfl, rfl, k _ _ h2⟩
  refine kco_callWith (kinOf f') (ia f'.st.sub) rfl hs (wpAny_mono h (fun vs s₁ hq => ?_) fun _ _ e => e) he hplain
  have X := f'.st.kin.keeps hq.1
  refine ⟨⟨X, ia hq.1⟩, wpAny_call (kco_code X (ia hq.1) rfl hs hf hfn hq.2)⟩
end
end Mine
end
section
open PySem PySem.W PySem.Calls PyProof.Rows PySem.Spec PySem.NumText Builtin Builtin.Str
set_option Elab.async false
set_option maxRecDepth 100000
set_option maxHeartbeats 0
namespace Mine
variable {C : Cfg} {K : Frag}
section
variable {prog : Program} {w : World} {A : Around} {E : Value → Shared → Prop} {g₀ g : Heap} {s₀ s : Shared} {env : Env} {σ : Str → Option Value} {h : Heap} {gs : Array GenState} {d : Drawn} {tk : Nat} {os : OsState}
/-- what is made beside, all that stands being kept -/
theorem Gr.ext (st : St C K g s) {h' : Heap} (k : Sub s.heap h') (t : Nat) : Gr C g s g { s with heap := h', toks := t } :=
  ⟨fun _ _ e => e, fun b o e => k b o (st.sub b o e), fun b o _ _ e => k b o e, fun b _ o e => ⟨o, k b o e⟩, fun _ _ e _ => e, fun P hP => (st.tab P hP).keeps k, st.gens, ⟨rfl, rfl, fun _ _ e => e⟩, fun _ _ e => e⟩
theorem Fn.ext {S : Shared} (f : Fn C K g₀ s₀ env g s σ) (hS : Same S s) {h' : Heap} (k : Sub S.heap h') (t : Nat) : Fn C K g₀ s₀ env g { S with heap := h', toks := t } σ := (f.at hS).gr (Gr.ext (f.at hS).st k t)
/-- a list is made -/
theorem newListF {S : Shared} {M : Model} {vs : List Value} {Q : Value → Shared → Prop} (f : Fn C K g₀ s₀ env g s σ) (hS : Same S s) (hz : vs.length ≤ sizeLine)
    (hq : ∀ D g' s', Fn C K g₀ s₀ env g' s' σ → Gr C g S g' s' → Sub g g' → Sub S.heap s'.heap → g'.PlainList D vs.toArray → Q (.ref D) s') : wpAny M A (newList vs) Q E S := by
  have f' := f.at hS
  have k : Sub S.heap (S.heap.push { cls := .type "list", dict := none, data := .seq vs.toArray }) := fun _ _ e => Heap.get?_push_of_some _ e
  have gr : Gr C g S (nextG g S.heap (S.heap.push { cls := .type "list", dict := none, data := .seq vs.toArray })) { S with heap := S.heap.push { cls := .type "list", dict := none, data := .seq vs.toArray }, toks := S.toks } := Gr.keeps f'.st k
  refine wpAny_newObj_type (hq _ _ _ (f'.gr gr) gr gr.up k ⟨_, nextG_push _⟩) (by show vs.toArray.size ≤ sizeLine; simpa using hz)

/-- len(set(one number)) -/
theorem set1F {D : Addr} {n : Int} {v : Value} {Q : Value → Shared → Prop} (f : Fn C K g₀ s₀ env g s σ) (hS : Same ⟨h, gs, d, tk, os⟩ s) (hh : A.handled = none) (hl : g.IsList D [v].toArray) (hv : ∃ t, v = .int n t)
    (hq : ∀ S s' , Fn C K g₀ s₀ env g s' σ → (∀ (Q' : Value → Shared → Prop) E', (∀ t k, Q' (.int 1 t) { s' with toks := k }) → wpAny (model prog w) A (call (.builtin "len") [.ref S]) Q' E' s') → Q (.ref S) s') :
    wpAny (model prog w) A (call (.type "set") [.ref D]) Q E ⟨h, gs, d, tk, os⟩ := by
  have f' := f.at hS
  obtain ⟨t, rfl⟩ := hv
  refine call_set_list (ns := [n]) hh (IsList.up hl f'.st.sub) (.cons n t .nil) (by show 1 + 1 < scanBound; decide) fun h' tk' hS' hk => ?_
  have k : Sub h h' := fun b o e => hk b o (Heap.lt_size e) e
  have f2 := f.ext hS k tk'
  refine hq _ _ f2 fun Q' E' hQ' => ?_
  obtain ⟨o, ho, hso⟩ := hS'.objOf
  obtain ⟨hex, es, ep, t', hd, _, _, hn, hf⟩ := hso
  have h1 : es.size = 1 := hn
  exact call_len_set ho hex hd hf (by rw [h1]; decide) (by rw [h1]; exact hQ' _ _)
end
end Mine
end
section
open PySem PySem.W PySem.Calls PyProof.Rows PySem.Spec PySem.NumText Builtin Builtin.Str
set_option Elab.async false
set_option maxRecDepth 100000
set_option maxHeartbeats 0
set_option pp.deepTerms false
set_option pp.deepTerms.threshold 2
namespace Mine
variable {C : Cfg} {K : Frag}
def σs (D : Addr) (binds : List (Str × Value)) : Str → Option Value := fun y => if y = ("__class__" : Str) then some (.ref D) else binds.reverse.lookup y
section
variable {A : Around} {E : Value → Shared → Prop} {g : Heap} {s : Shared}

theorem wpAt_MethodCallKw {M : Model} {A : Around} {c : Code} {E : Value → Shared → Prop} {s : Shared} {env : Env} {o : Expr} {name : Str} {apos pos : Pos} {args : List Expr} {kws : List Keyword} {pl : Sem Bool} {Q : Value → Shared → Prop}
    (h : PySem.wpAt M A c (attributeBase o name env (eval o env)) (fun ov s₁ => wpAny M A (getMethod ov name pl) (fun fx s₂ => wpAny M A (callWith pos fx.1 fx.2 (backTo pos (starEach args env)) (backToKw pos (keywordEach kws env))) Q E s₂) E s₁) E s)
    (he : eval (.Call (.Attribute o name apos) args kws pos) env = (do
      let ov ← attributeBase o name env (eval o env)
      standAt apos.atName
      let (f, first) ← holding [ov] (getMethod ov name pl)
      callWith pos f first (backTo pos (starEach args env)) (backToKw pos (keywordEach kws env)))) :
    PySem.wpAt M A c (eval (.Call (.Attribute o name apos) args kws pos) env) Q E s := by
  rw [he]
  refine PySem.wpAt_bind (PySem.wpAt_mono h (fun ov s₁ h₁ => PySem.wpAt_of_wpAny (wpAny_bind (wpAny_standAt (wpAny_bind (wpAny_holding (wpAny_mono h₁ (fun fx s₂ h₂ => ?_) fun _ _ x => x)))))) fun _ _ x => x)
  exact h₂

/-- an __init__ whose one statement is super().__init__(..) -/
theorem superInit {R : Result → Shared → Prop} {x Cc dx D cc cda f2 f : Addr} {name qual : Str} {params : Arguments} {scope : Scope} {dV kV doc pm ct oc ccl cl : Value} {an od cdd cld : Option Addr} {osl ccs csl : Array (Option Value)}
    {p0 p1 apos pos epos : Pos} {args : List Expr} {kws : List Keyword} {vals : List Value} {kw : List (Str × Value)} {binds : List (Str × Value)} {ar : Arg} {vs : Array Value} {file : Str} {tf : Tok} {cdD : ClassData} {pl : Sem Bool}
    (st : St (C.x dx) K g s) (u : Und C g s.heap x Cc dx [])
    (ho : K.lookup f = some ⟨oc, od, .func (fnX name qual params [.Expr (.Call (.Attribute (.Call (.Name "super" p0) [] [] p1) "__init__" apos) args kws pos) epos] scope [("__class__", cc)] dV kV doc pm an (.ref cda) ct), osl⟩)
    (hcd : codeIn K (.ref cda) qual = true) (hR : Room A 2)
    (hbind : BindsTo s (fnX name qual params [.Expr (.Call (.Attribute (.Call (.Name "super" p0) [] [] p1) "__init__" apos) args kws pos) epos] scope [("__class__", cc)] dV kV doc pm an (.ref cda) ct) ⟨vals, kw⟩ binds)
    (hloc : (binds.all fun y => scope.names.lookup y.1 == some .local) = true) (hcell : ∀ x ∈ scope.names, x.2 ≠ .cell)
    (hp : (params.posonlyargs ++ params.args).head? = some ar) (hv : binds.reverse.lookup ar.arg = some (.ref x))
    (hcode : K.lookup cda = some ⟨ccl, cdd, .fields vs, ccs⟩) (hvs : vs[2]? = some (.str file tf)) (hfile : ((C.prog.main.file : Str) == file) = true)
    (hcellv : K.lookup cc = some ⟨cl, cld, .cell (some (.ref D)), csl⟩) (hD : clsIn K D = some cdD) (hsub : mroIn K Cc (.ref D) = some true) (hsuper : nsIn K mainGlobals "super" = some none)
    (hks : scope.names.lookup ("super" : Str) = some .globalImplicit) (hkc : scope.names.lookup ("__class__" : Str) = some .free) (hka : scope.names.lookup ar.arg = some .local) (hk : scope.kind = .function)
    (htop : (C.prog.main.scope.names.lookup ("super" : Str)).isSome = false)
    (hop : nsIn K cStatics "thirdparty.any" = some none) (hm : ks_superIn K Cc D "__init__" = some (some (.ref f2))) (ht : typeIn K (.ref f2) = some (.type "function")) (hfn : fnIn K f2 = true)
    (hplain : ∀ env : Env, ((backTo pos (starEach args env)).any (·.1) || (backToKw pos (keywordEach kws env)).any (·.1.isNone)) = false)
    (he : ∀ L, interactive (envX qual scope L f (.ref cda) [("__class__", cc)]) = false) (hs : ∀ L, swapsWith (.Call (.Attribute (.Call (.Name "super" p0) [] [] p1) "__init__" apos) args kws pos) none epos.line (envX qual scope L f (.ref cda) [("__class__", cc)]) = pure false)
    (hev : ∀ L, eval (.Call (.Attribute (.Call (.Name "super" p0) [] [] p1) "__init__" apos) args kws pos) (envX qual scope L f (.ref cda) [("__class__", cc)]) = (do
      let ov ← attributeBase (.Call (.Name "super" p0) [] [] p1) "__init__" (envX qual scope L f (.ref cda) [("__class__", cc)]) (eval (.Call (.Name "super" p0) [] [] p1) (envX qual scope L f (.ref cda) [("__class__", cc)]))
      standAt apos.atName
      let (fx, first) ← holding [ov] (getMethod ov "__init__" pl)
      callWith pos fx first (backTo pos (starEach args (envX qual scope L f (.ref cda) [("__class__", cc)]))) (backToKw pos (keywordEach kws (envX qual scope L f (.ref cda) [("__class__", cc)])))))
    (h : ∀ L q s1, Fn (C.x dx) K g s (envX qual scope L f (.ref cda) [("__class__", cc)]) g s1 (σs D binds) → Und C g s1.heap x Cc dx [] → s1.heap.get? q = some (methodObj (.ref f2) (.ref x)) →
      wpAny C.M (A.deeper (envX qual scope L f (.ref cda) [("__class__", cc)])) (evalArgs (.ref q) true (backTo pos (starEach args (envX qual scope L f (.ref cda) [("__class__", cc)]))) (backToKw pos (keywordEach kws (envX qual scope L f (.ref cda) [("__class__", cc)]))))
        (fun a s₂ => Sub s1.heap s₂.heap ∧ codeAny C.M (A.deeper (envX qual scope L f (.ref cda) [("__class__", cc)])) (.call (.ref f2) ⟨.ref x :: a.pos, a.kw⟩) (VR (fun _ s' => R (.ok (.ret .none)) s')
          (fun e s'' => wpAny C.M (A.deeper (envX qual scope L f (.ref cda) [("__class__", cc)])) (leaving (envX qual scope L f (.ref cda) [("__class__", cc)]) e) (fun _ s3 => R (.error e) s3) (fun e' s3 => R (.error e') s3) s'')) s₂)
        (fun e s'' => wpAny C.M (A.deeper (envX qual scope L f (.ref cda) [("__class__", cc)])) (leaving (envX qual scope L f (.ref cda) [("__class__", cc)]) e) (fun _ s3 => R (.error e) s3) (fun e' s3 => R (.error e') s3) s'') s1)
    (hco : scope.isCoroutine = false := by rfl) (hgen : scope.isGenerator = false := by rfl) : codeAny C.M A (.call (.ref f) ⟨vals, kw⟩) R s := by
  have X : K.In s.heap := st.kin'
  have hcellK := X _ _ hcellv
  have hgc : ∃ o, g.get? cc = some o ∧ o.data = .cell (some (.ref D)) := ⟨_, st.kin _ _ hcellv, rfl⟩
  have mk : ∀ h'' t, Sub s.heap h'' → h''.Ns s.heap.objs.size (fun y => binds.reverse.lookup y) → Fn (C.x dx) K g s (envX qual scope s.heap.objs.size f (.ref cda) [("__class__", cc)]) g { s with heap := h'', toks := t } (σs D binds) := fun h'' t k ns => {
    st := ⟨fun b o e => k b o (st.sub b o e), st.gt, st.ge, fun b hb => let ⟨o, e⟩ := st.exs b hb; ⟨o, k b o e⟩, fun P hP => (st.tab P hP).keeps k, st.gens, st.kin, st.top⟩
    loc := ⟨⟨_, ns, fun y hy => by
      have hy' : scope.names.lookup y = some .local := hy
      have hne : y ≠ ("__class__" : Str) := fun q => by rw [q, hkc] at hy'; cases hy'
      show binds.reverse.lookup y = σs D binds y
      unfold σs; rw [if_neg hne]⟩, fun y c e => by
      have e' : List.lookup y [(("__class__" : Str), cc)] = some c := e
      rw [List.lookup_cons] at e'
      split at e'
      · rename_i hq
        cases e'
        have hq' : y = ("__class__" : Str) := by simpa using hq
        obtain ⟨o, ho, hd⟩ := hgc
        exact ⟨o, k _ _ (st.sub _ _ ho), by rw [hd, hq']; rfl⟩
      · cases e'⟩
    up := fun _ _ e => e
    keep := fun b o _ _ e => k b o e
    fresh := fun _ _ e _ => e
    os := ⟨rfl, rfl, fun _ _ e => e⟩
    exo := fun b hb => by
      obtain ⟨o, e⟩ := st.exs b hb
      refine ⟨fun q => ?_, fun n q => ?_⟩
      · have q' : b = s.heap.objs.size := q
        rw [q', get_size_none] at e; cases e
      · have q' : List.lookup n [(("__class__" : Str), cc)] = some b := q
        rw [List.lookup_cons] at q'
        split at q'
        · cases q'
          obtain ⟨o', ho', _⟩ := hgc
          rw [st.ge cc hb] at ho'; cases ho'
        · cases q'
    st₀ := st
    own := ⟨get_size_none _, none_of_sub st.sub (get_size_none _)⟩
    ownC := fun _ n c e hkd => by
      exfalso
      have q' : List.lookup n [(("__class__" : Str), cc)] = some c := e
      rw [List.lookup_cons] at q'
      split at q'
      · rename_i hq
        have hq' : n = ("__class__" : Str) := by simpa using hq
        have : scope.names.lookup n = some .cell := hkd
        rw [hq', hkc] at this; cases this
      · cases q'
    gC := fun _ n c e hkd => by
      exfalso
      have q' : List.lookup n [(("__class__" : Str), cc)] = some c := e
      rw [List.lookup_cons] at q'
      split at q'
      · rename_i hq
        have hq' : n = ("__class__" : Str) := by simpa using hq
        have : scope.names.lookup n = some .cell := hkd
        rw [hq', hkc] at this; cases this
      · cases q'
    apart := fun _ => List.pairwise_singleton _ _
    apartL := fun n c e => by
      have q' : List.lookup n [(("__class__" : Str), cc)] = some c := e
      rw [List.lookup_cons] at q'
      split at q'
      · cases q'
        obtain ⟨o', ho', _⟩ := hgc
        exact Nat.ne_of_lt (Heap.lt_size (st.sub _ _ ho'))
      · cases q'
    fn := hk
    gl := rfl
    bl := rfl }
  obtain ⟨es, n, hd, en⟩ := u.dict
  have hx0 := st.sub _ _ u.at_
  refine ks_codeAny_call_defAt (fd := fnX name qual params [.Expr (.Call (.Attribute (.Call (.Name "super" p0) [] [] p1) "__init__" apos) args kws pos) epos] scope [("__class__", cc)] dV kV doc pm an (.ref cda) ct) (binds := binds) hR.depth (X _ _ ho) rfl (st.top.nolimit.keeps st.sub) (codeRec_of X hcd) rfl hbind hcell
    (fun y hy => by simpa using List.all_eq_true.mp hloc y hy) (fun h₀ hns hk₀ => ?_) hco hgen hk
  have F : Fr s.heap s.heap.objs.size h₀ (fun y => binds.reverse.lookup y) := ⟨hns, hk₀, Nat.le_refl _⟩
  have ia : ∀ {h' : Heap}, Sub s.heap h' → InstAt h' x (instObj Cc dx) Cc (some (dictOf es n)) := fun k => ⟨k _ _ hx0, rfl, rfl, k _ _ hd⟩
  refine ks_wpAt_execs_cons (ks_wpAt_Expr_any (wpAt_MethodCallKw ?_ (hev _)) (he _) (hs _))
  refine ks_node (s := { s with heap := h₀, toks := s.toks + binds.length }) (news := []) (h₀ := s.heap) F X News.nil (st.top.keeps st.sub) ho hp hv (ia hk₀) hcode hvs hfile hcellv hD hsub hsuper (by decide) hks hkc hka hk htop (by boot_by_name) fun so h1 F1 N1 _ => ?_
  refine ks_method (s := { s with heap := h1, toks := s.toks + binds.length }) F1 X N1 (.head _) (ia F1.keep) hop hm ht (by decide) fun q h2 F2 N2 _ => ?_
  have hq : h2.get? q = some (methodObj (.ref f2) (.ref x)) := N2.get (.head _)
  have f2' := mk h2 (s.toks + binds.length + 1) F2.keep F2.ns
  have u2 : Und C g h2 x Cc dx [] := u.keep (fun _ _ e => e) fun o e => F2.keep _ _ e
  refine callWith_of (P := fun h => MethP K q f2 (.ref x) h) (hplain _) (keeps_M hfn) (wpAny_mono (h _ q _ f2' u2 hq) (fun a s₂ hs₂ => ?_) fun _ _ e => e)
  refine ⟨⟨hs₂.1 _ _ hq, f2'.st.kin.keeps fun b o e => hs₂.1 _ _ (f2'.st.sub _ _ e)⟩, wpAny_call (ks_codeAny_call_bound (hs₂.1 _ _ hq) (codeAny_mono hs₂.2 fun r s' z => ?_))⟩
  rcases r with e | (v | _ | _ | _) <;> first | exact z | exact z.elim | exact PySem.wpAt_of_wpAny (wpAny_execs_nil z)
end
end Mine
end
section
open PySem PySem.W PySem.Calls PyProof.Rows PySem.Spec PySem.NumText Builtin Builtin.Str
set_option Elab.async false
set_option maxRecDepth 100000
set_option maxHeartbeats 0
set_option pp.deepTerms false
set_option pp.deepTerms.threshold 2
namespace Mine
variable {C : Cfg} {K : Frag}
section
variable {prog : Program} {w : World} {M : Model} {A : Around} {E : Value → Shared → Prop} {g₀ g : Heap} {s₀ s : Shared} {env : Env} {σ : Str → Option Value} {h : Heap} {gs : Array GenState} {d : Drawn} {tk : Nat} {os : OsState}

theorem assertT {b : Bool} {P : Prop} (hb : b = true) (hp : P) : b = true ∧ P := ⟨hb, hp⟩
/-- int.to_bytes(k, 'little'), for any length in use -/
theorem toLittle {x : Int} {k : Nat} {t u v : Tok} {Q : Value → Shared → Prop} (hk : k ≤ 10000) (h0 : 0 ≤ x) (h1 : x < 256 ^ k) (hq : ∀ (b : Array UInt8) t' k', KBw.bInts b = KTBy.little k x → Q (.bytes b t') { s with toks := k' }) :
    wpAny (model prog w) A (call (.builtin "int.to_bytes") [.int x t, .int (k : Int) u, .str (Str.ofString "little") v]) Q E s := by
  refine wpAny_call_entry KTBy.slot (typeIs_int s x t) KTBy.entry ?_ (KTBy.args _ _ _)
  have hb := KTBy.bits_le rfl h0 h1
  show wpAny _ _ (Builtin.Int.intOfSelf (.int x t) >>= fun y => _) _ _ s
  refine wpAny_bind (wpAny_of_eq (a := x) rfl ?_)
  show wpAny _ _ (Builtin.Int.intBindNamed "to_bytes" ["length", "byteorder", "signed"] 0 2 [.int (k : Int) u, .str (Str.ofString "little") v] [] >>= fun l => _) _ _ s
  refine wpAny_bind (wpAny_of_eq (a := [some (.int (k : Int) u), some (.str (Str.ofString "little") v), none]) (by kernel_rfl) ?_)
  show wpAny _ _ (Builtin.Int.intIndex "int.to_bytes" (.int (k : Int) u) >>= fun n => _) _ _ s
  refine wpAny_bind (wpAny_of_eq (a := (k : Int)) rfl ?_)
  have no : ∀ {c : Bool} {a b : Sem Fin} {Q : Fin → Shared → Prop} {s : Shared}, c = false → wpAny (model prog w) A.in1 b Q E s → wpAny (model prog w) A.in1 (if c = true then a else b) Q E s := fun hc hh => by rw [hc, if_neg Bool.false_ne_true]; exact hh
  refine no (by show (decide ((k : Int) < -(2 ^ 63 : Int)) || decide ((k : Int) ≥ 2 ^ 63)) = false; rw [decide_eq_false (show ¬ ((k : Int) < -(2 ^ 63 : Int)) by omega), decide_eq_false (show ¬ ((k : Int) ≥ 2 ^ 63) by omega)]; rfl) ?_
  refine wpAny_bind (wpAny_of_eq (a := Str.ofString "little") (by kernel_rfl) ?_)
  refine wpAny_bind (wpAny_of_eq (a := false) rfl ?_)
  refine wpAny_bind (wpAny_of_eq (a := true) (by kernel_rfl) ?_)
  refine wpAny_ite_false (decide_eq_false (show ¬ ((k : Int) < 0) by omega)) ?_
  refine wpAny_ite_false (decide_eq_false (show ¬ ((k : Int) > 2 ^ 63 - 1 - 33) by omega)) ?_
  refine wpAny_ite_false (decide_eq_false (show ¬ ((k : Int) > (sizeLine : Int)) by rw [sizeLine_eq]; omega)) ?_
  refine no (by show (decide (x < 0) && !false) = false; rw [decide_eq_false (show ¬ x < 0 by omega)]; rfl) ?_
  refine no (by show (_ && decide ((Builtin.Int.intBits x : Int) > 8 * (k : Int))) = false; rw [decide_eq_false (show ¬ ((Builtin.Int.intBits x : Int) > 8 * (k : Int)) by omega), Bool.and_false]) ?_
  refine wpAny_bind (wpAny_mkBytes (wpAny_pure ⟨_, rfl, hq _ _ _ ?_⟩) (by show (KTBy.low x (Int.toNat (k : Int))).length ≤ sizeLine; rw [KTBy.low_length, Int.toNat_natCast, sizeLine_eq]; omega))
  show (List.map (fun c : UInt8 => ((c.toNat : Nat) : Int)) (KTBy.low x (Int.toNat (k : Int)))) = KTBy.little k x
  rw [Int.toNat_natCast, KTBy.low_ints h0 h1, ← KTBy.little_eq]

theorem grownBig {n k : Nat} {Q : Value → Shared → Prop} (hn : n < 256 ^ k) (hk : k ≤ 10000) (hq : Q (.int (n : Int) s.toks) { s with toks := s.toks + 1 }) : wpAny M A (mkIntGrown (n : Int)) Q E s := by
  unfold mkIntGrown
  have hl : ¬ ((n : Int).natAbs.log2 ≥ bitsLine) := by
    rw [Int.natAbs_natCast]
    have hb : bitsLine = 134217728 := by first | rfl | decide
    by_cases hz : n = 0
    · subst hz
      rw [hb]
      decide
    · have h2 : n < 2 ^ (8 * k) := by rw [Nat.pow_mul]; exact hn
      have h1 := (Nat.log2_lt hz).mpr h2
      omega
  rw [if_neg hl]
  exact wpAny_mkInt hq
/-- int.from_bytes(b, 'little') -/
theorem fbTree {b : Array UInt8} {t u : Tok} {P : Fin → Shared → Prop} (hl : b.size ≤ 10000) (hq : P (.done (.ret (.int (KFB.value (KBw.bInts b).reverse) s.toks))) { s with toks := s.toks + 1 }) :
    wpAny M A (Builtin.«int.from_bytes» ⟨[.type "int", .bytes b t, .str (Str.ofString "little") u], []⟩) P E s := by
  have hv : ((b.toList.reverse.foldl (fun (acc : Nat) (b : UInt8) => acc * 256 + b.toNat) 0 : Nat) : Int) = KFB.value (KBw.bInts b).reverse := by
    rw [KFB.fold_cast, List.map_reverse]; rfl
  have hn : b.toList.reverse.foldl (fun (acc : Nat) (b : UInt8) => acc * 256 + b.toNat) 0 < 256 ^ b.size := by
    have h1 := KFB.fold_lt b.toList.reverse 0
    rw [Nat.zero_add, Nat.one_mul, List.length_reverse, Array.length_toList] at h1
    exact h1
  have no : ∀ {c : Bool} {a b : Sem Fin} {Q : Fin → Shared → Prop} {s : Shared}, c = false → wpAny M A b Q E s → wpAny M A (if c = true then a else b) Q E s := fun hc hh => by rw [hc, if_neg Bool.false_ne_true]; exact hh
  have yes : ∀ {c : Bool} {a b : Sem Fin} {Q : Fin → Shared → Prop} {s : Shared}, c = true → wpAny M A a Q E s → wpAny M A (if c = true then a else b) Q E s := fun hc hh => by rw [hc, if_pos rfl]; exact hh
  unfold Builtin.«int.from_bytes»
  refine wpAny_bind (wpAny_of_eq (a := true) KFB.type_int ?_)
  refine no rfl ?_
  refine wpAny_bind (wpAny_of_eq (a := true) F.conv_sub_int ?_)
  refine no rfl ?_
  refine wpAny_bind (wpAny_of_eq (a := [some (.bytes b t), some (.str (Str.ofString "little") u), none]) (by kernel_rfl) ?_)
  refine wpAny_bind (wpAny_of_eq (a := Str.ofString "little") (by kernel_rfl) ?_)
  refine wpAny_bind (wpAny_of_eq (a := false) rfl ?_)
  refine wpAny_bind (wpAny_of_eq (a := true) (by kernel_rfl) ?_)
  refine wpAny_bind (wpAny_of_eq (a := b) rfl ?_)
  show wpAny _ _ (mkIntGrown (b.toList.reverse.foldl (fun (acc : Int) (b : UInt8) => acc * 256 + (b.toNat : Int)) ((0 : Nat) : Int)) >>= fun v => _) _ _ _
  rw [KFB.foldI_eq]
  refine wpAny_bind (grownBig hn hl ?_)
  rw [hv]
  refine yes (by decide +kernel) ?_
  exact wpAny_bind (wpAny_pure (wpAny_pure hq))

/-- int.from_bytes is looked up -/
theorem fbMethF {S : Shared} {pl : Sem Bool} {Q : Value × List Value → Shared → Prop} (f : Fn C K g₀ s₀ env g s σ) (hS : Same S s)
    (e : findCls K (.type "int") (.type "type") (Str.ofString "from_bytes") = some (.get (.builtin "classmethod_descriptor.__get__") (.builtin "int.from_bytes") .none (.type "int")))
    (hq : ∀ x s', Fn C K g₀ s₀ env g s' σ → KFB.StandsAt x s'.heap → Sub S.heap s'.heap → Q (.ref x, []) s') :
    wpAny (model prog w) A (getMethod (.type "int") (Str.ofString "from_bytes") pl) Q E S := by
  have f' := f.at hS
  have X := kinOf f'
  have hstub : opaqueClassAbove (.type "int") = pure none := by unfold opaqueClassAbove; dsimp only; rw [show Manifest.isStub "int" = false by decide +kernel]; rfl
  have ht : typeOf (.type "int") = pure (.type "type") := by first | rfl | kernel_rfl
  have L0 : Looks (model prog w) S.heap (typeOf (.type "int")) (.type "type") := Looks.of_pure ht
  have hg : findIn K (.type "type") "__getattribute__" = some (some (.builtin "type.__getattribute__")) := type_tga
  unfold getMethod specialOf
  refine wpAny_bind (wpAny_bind (L0.here ((looks_findIn X hg).here ?_)))
  dsimp only
  rw [if_pos canon_tga]
  refine wpAny_bind (wpAny_mono (Q := fun v => Q (v, [])) (E := E) ?_ (fun _ _ z => wpAny_pure z) fun _ _ z => z)
  have LO : Looks (model prog w) S.heap (opaqueClassAbove (.type "int")) none := Looks.of_pure hstub
  refine cls_open X LO L0 hg (looks_hook X (r := none) (by rfl)) (by show subIn K _ _ = _; rfl) e ?_
  show wpAny _ _ (holding [.builtin "int.from_bytes"] (call (.builtin "classmethod_descriptor.__get__") [.builtin "int.from_bytes", .none, .type "int"]) >>= fun v => ret v) _ _ _
  have k : Sub S.heap (S.heap.push KFB.bound) := fun _ _ e => Heap.get?_push_of_some _ e
  refine wpAny_bind (wpAny_holding (wpAny_call_entry KFB.slot_get KFB.type_fb KFB.entry_get (KFB.run_get ⟨_, rfl, wpAny_pure (wpAny_pure (hq _ _ (f.ext hS k _) (Heap.get?_push_size _ rfl) k))⟩) (KFB.args_get _ _ _)))
theorem fbCallWith {pos : Pos} {u : Addr} {first : List Value} {e : Expr} {rest : List Expr} {Q : Value → Shared → Prop}
    (hq : wpAny M A (spliced (backTo pos (starEach (e :: rest) env))) (fun vs s₁ => KFB.StandsAt u s₁.heap ∧ wpAny M A (call (.ref u) (first ++ vs)) Q E s₁) E s)
    (he : starEach (e :: rest) env = (false, eval e env) :: starEach rest env := by rfl) (hplain : (backTo pos (starEach rest env)).any (·.1) = false := by rfl) :
    wpAny M A (callWith pos (.ref u) first (backTo pos (starEach (e :: rest) env)) []) Q E s := by
  rw [he] at hq ⊢
  refine KFB.callWith_fields (by show (false || (backTo pos (starEach rest env)).any (·.1)) = false; rw [hplain]; rfl) ?_
  exact evalArgs_plain hq
theorem fbCall {x : Addr} {b : Array UInt8} {t u : Tok} {Q : Value → Shared → Prop} (ho : KFB.StandsAt x s.heap) (hl : b.size ≤ 10000)
    (hq : ∀ t' k, Q (.int (KFB.value (KBw.bInts b).reverse) t') { s with toks := k }) : wpAny (model prog w) A (call (.ref x) [.bytes b t, .str (Str.ofString "little") u]) Q E s :=
  KFB.call_of ho (fun z => fbTree hl z) (hq _ _)

/-- a cut of octets -/
theorem tailBytes {value slice : Expr} {b : Array UInt8} {t : Tok} {l u : Value} {lo hi : Option Int} {Q : Value → Shared → Prop} (f : Fn C K g₀ s₀ env g s σ) (hS : Same ⟨h, gs, d, tk, os⟩ s) (hl : IsPart l lo) (hu : IsPart u hi) (hsz : b.size ≤ sizeLine)
    (hq : ∀ b' s' t', KBw.bInts b' = ((KBw.bInts b).drop (lo.elim 0 (clipAt b.size))).take (hi.elim b.size (clipAt b.size) - lo.elim 0 (clipAt b.size)) → Fn C K g₀ s₀ env g s' σ → Gr C g ⟨h, gs, d, tk, os⟩ g s' → Q (.bytes b' t') s')
    (hs : subscripted slice false (.bytes b t) (.ref h.objs.size) = operate [.ref h.objs.size, .bytes b t] (getItem (.bytes b t) (.ref h.objs.size)) := by with_unfolding_all rfl)
    (ht : ∀ r, letTemporaryGo value (.bytes b t) r = pure () := by intro _; with_unfolding_all rfl) :
    wpAny (model prog w) A (subscriptTail value slice (.bytes b t) (.ref h.objs.size)) Q E ⟨h.push { cls := .type "slice", data := .fields #[l, u, .none] }, gs, d, tk, os⟩ :=
  tail_of_ItemOn ⟨"bytes", _, FB.slot_bytes_getitem.lookup, PySem.W.typeIs_bytes _ _ _, getItem_meets (PySem.W.typeIs_bytes _ _ _) (by decide) FB.slot_bytes_getitem FB.entry_bytes_getitem (FB.args_bytes_getitem_2 _ _) (KBc.meets_slice2 b t _ hl hu)
    ⟨Heap.IsSliceOf.new _ _ _ _, Nat.le_trans (KBc.size_picked_le b lo hi) hsz, fun t' k => hq _ _ t' (by have := KBc.ints_picked (b := b) rfl lo hi; rw [KBw.ints_length] at this; exact this) (f.ext hS (fun _ _ e => Heap.get?_push_of_some _ e) _) (Gr.ext (f.at hS).st (fun _ _ e => Heap.get?_push_of_some _ e) _)⟩⟩ hs ht

/-- a cut of a list -/
theorem tailList {value slice : Expr} {a : Addr} {vs : List Value} {l u : Value} {lo hi : Option Int} {Q : Value → Shared → Prop} (f : Fn C K g₀ s₀ env g s σ) (hS : Same ⟨h, gs, d, tk, os⟩ s) (hl : IsPart l lo) (hu : IsPart u hi) (ha : g.IsList a vs.toArray) (hsz : vs.length ≤ sizeLine)
    (hq : ∀ D g' s', Fn C K g₀ s₀ env g' s' σ → Gr C g ⟨h, gs, d, tk, os⟩ g' s' → g'.PlainList D (slicePick vs.toArray lo hi none) → Q (.ref D) s')
    (hs : subscripted slice false (.ref a) (.ref h.objs.size) = operate [.ref h.objs.size, .ref a] (getItem (.ref a) (.ref h.objs.size)) := by with_unfolding_all rfl)
    (ht : ∀ r, letTemporaryGo value (.ref a) r = pure () := by intro _; with_unfolding_all rfl) :
    wpAny (model prog w) A (subscriptTail value slice (.ref a) (.ref h.objs.size)) Q E ⟨h.push { cls := .type "slice", data := .fields #[l, u, .none] }, gs, d, tk, os⟩ := by
  have f0 := f.at hS
  have f1 := f.ext hS (h' := h.push { cls := .type "slice", data := .fields #[l, u, .none] }) (fun _ _ e => Heap.get?_push_of_some _ e) tk
  have hl1 := IsList.up ha f1.st.sub
  have gr1 : Gr C g ⟨h, gs, d, tk, os⟩ g ⟨h.push { cls := .type "slice", data := .fields #[l, u, .none] }, gs, d, tk, os⟩ := Gr.ext f0.st (fun _ _ e => Heap.get?_push_of_some _ e) tk
  have k2 : Sub (h.push { cls := .type "slice", data := .fields #[l, u, .none] }) ((h.push { cls := .type "slice", data := .fields #[l, u, .none] }).push { cls := .type "list", data := .seq (slicePick vs.toArray lo hi none) }) := fun _ _ e => Heap.get?_push_of_some _ e
  have gr2 := Gr.keeps (s := ⟨h.push { cls := .type "slice", data := .fields #[l, u, .none] }, gs, d, tk, os⟩) (t := tk) f1.st k2
  refine tail_of_ItemOn ⟨"list", _, list_getitem_lookup, hl1.typeIs, wpAny_getItem_list_slice hl1 (Heap.IsSliceOf.new ..) hl hu .none (by simp) ?_ (by simpa using hsz)⟩ hs ht
  exact hq _ _ _ (f1.gr gr2) (gr1.trans gr2) ⟨_, nextG_push _⟩

theorem rangeGo3 {S : Shared} {a b c : Int} {k : Nat} {t u v : Tok} {Q : Value → Shared → Prop} (st : St C K g s) (hS : Same S s) (hh : A.handled = none) (hc : 0 < c ∧ c < 2 ^ 60) (hn : Builtin.Range.rangeSize a b c = k) (hs : Builtin.Range.small a b c = true)
    (hq : ∀ I g₂ s₂, ItOk C A g s g₂ s₂ I k (fun i v _ => ∃ t, v = .int (a + i * c) t) → Q (.ref I) s₂) : wpAny C.M A (call (.type "range") [.int a t, .int b u, .int c v]) (fun xv s₁ => wpAny C.M A (pyIter xv) Q E s₁) E S := by
  have hcn : c.natAbs.log2 < 9000 := by
    have : c.natAbs < 2 ^ 60 := by omega
    have h0 : c.natAbs ≠ 0 := by omega
    have := (Nat.log2_lt h0).mpr this
    omega
  refine call_range_3 (by omega) ?_ (.inl (PyProof.noPylong_of_log2 hcn))
  exact range_itS (st.at hS) hh (IsRange.new _ _ _ _ _ _ _) hs hn fun I g₂ s₂ it => hq I g₂ s₂ (it.same_l hS)
end
end Mine
end
section
open PySem PySem.W PySem.Calls PyProof.Rows PySem.Spec PySem.NumText Builtin Builtin.Str
set_option Elab.async false
set_option maxRecDepth 100000
set_option maxHeartbeats 0
set_option pp.deepTerms false
set_option pp.deepTerms.threshold 2
namespace Mine
variable {C : Cfg} {K : Frag}
section
variable {A : Around} {E : Value → Shared → Prop} {g₀ g : Heap} {s₀ s : Shared} {env : Env} {σ : Str → Option Value}

def addL (g h : Heap) (wr : List Addr) : Heap := restrict h fun b => (g.get? b).isSome || wr.contains b
theorem addL_get {g h : Heap} {wr : List Addr} {b : Addr} : (addL g h wr).get? b = if (g.get? b).isSome || wr.contains b then h.get? b else none := restrict_get _ _ _
theorem addL_up {g h : Heap} {wr : List Addr} (hs : Sub g h) : Sub g (addL g h wr) := fun b o e => by rw [addL_get, e]; simpa using hs b o e
theorem addL_sub {g h : Heap} {wr : List Addr} : Sub (addL g h wr) h := fun b o e => by rw [addL_get] at e; split at e <;> first | exact e | cases e
theorem addL_in {g h : Heap} {wr : List Addr} {b : Addr} (hb : b ∈ wr) : (addL g h wr).get? b = h.get? b := by rw [addL_get]; simp [hb]
theorem addL_none {g h : Heap} {wr : List Addr} {b : Addr} (h1 : g.get? b = none) (h2 : b ∉ wr) : (addL g h wr).get? b = none := by rw [addL_get, h1]; simp [h2]
def delL (g : Heap) (wr : List Addr) : Heap := restrict g fun b => !wr.contains b
theorem delL_get {g : Heap} {wr : List Addr} {b : Addr} : (delL g wr).get? b = if !wr.contains b then g.get? b else none := restrict_get _ _ _
theorem delL_sub {g : Heap} {wr : List Addr} : Sub (delL g wr) g := fun b o e => by rw [delL_get] at e; split at e <;> first | exact e | cases e
theorem delL_ne {g : Heap} {wr : List Addr} {b : Addr} {o : Obj} (h : g.get? b = some o) (hb : b ∉ wr) : (delL g wr).get? b = some o := by rw [delL_get]; simpa [hb] using h
theorem delL_in {g : Heap} {wr : List Addr} {b : Addr} (hb : b ∈ wr) : (delL g wr).get? b = none := by rw [delL_get]; simp [hb]

/-- for a while some places more stand still -/
theorem Fn.add (f : Fn C K g₀ s₀ env g s σ) {wr : List Addr} (h0 : ∀ b ∈ wr, s₀.heap.get? b = none) (ht : ∀ b ∈ wr, b ∉ C.ts) (hx : ∀ b ∈ wr, b ∉ C.ex) (hl : env.locals ∉ wr) (hc : ∀ b ∈ wr, ∀ n, env.cells.lookup n ≠ some b) : Fn C K g₀ s₀ env (addL g s.heap wr) s σ where
  st := ⟨addL_sub, fun P hP => addL_none (f.st.gt P hP) fun q => ht P q hP, fun P hP => addL_none (f.st.ge P hP) fun q => hx P q hP, f.st.exs, f.st.tab, f.st.gens, f.st.kin.keeps (addL_up f.st.sub), f.st.top.keeps (addL_up f.st.sub)⟩
  loc := f.loc
  up := fun b o e => addL_up f.st.sub b o (f.up b o e)
  keep := f.keep
  fresh := fun b o e1 e2 => addL_none (f.fresh b o e1 e2) fun q => by rw [h0 b q] at e2; cases e2
  os := ⟨f.os.1, f.os.2, f.os.3⟩
  exo := f.exo
  st₀ := f.st₀
  own := ⟨f.own.1, addL_none f.own.2 hl⟩
  ownC := f.ownC
  gC := fun a n c e1 e2 => addL_none (f.gC a n c e1 e2) fun q => hc c q n e1
  apart := f.apart
  apartL := f.apartL
  fn := f.fn
  gl := f.gl
  bl := f.bl

theorem forName {x : Str} {px pos : Pos} {iter : Expr} {body : List Stmt} {Q : Flow → Shared → Prop} (f : Fn C K g₀ s₀ env g s σ)
    (h : wpAny C.M A (eval iter env) (fun xv s₁ => wpAny C.M A (pyIter xv) (fun it s₂ => ∃ I g₂ n P, ∃ Inv : Nat → (Str → Option Value) → Prop, it = .ref I ∧ ItOk C A g s g₂ s₂ I n P ∧ Inv 0 σ ∧
      (∀ i v gk s1 σk E' hk, i < n → P i v hk → Fn C K g₀ s₀ env gk s1 (fun y => if y = x then some v else σk y) → Sub g₂ gk → Inv i σk →
        wpAny C.M A (execs body env) (fun fl s2 => match fl with
          | .next | .cont => ∃ g3 σ3, Fn C K g₀ s₀ env g3 s2 σ3 ∧ Sub gk g3 ∧ Inv (i + 1) σ3
          | .brk => Q .next s2
          | .ret v => Q (.ret v) s2) E' s1) ∧
      (∀ ge se σe, Fn C K g₀ s₀ env ge se σe → Sub g₂ ge → Inv n σe → Q .next se)) E s₁) E s)
    (hk : storeOk env x = true := by rfl) (hcells : cellsOk env = true := by rfl) (hs : ∀ x, foldedSetIterable iter env x = pure x := by intro _; rfl) :
    wpAny C.M A (exec (.For (.Name x px) iter body [] pos) env) Q E s := by
  refine wpAny_For (wpAny_mono h (fun xv s₁ h₁ => wpAny_mono h₁ (fun it s₂ h₂ => ?_) fun _ _ e => e) fun _ _ e => e) hs
  obtain ⟨I, g₂, n, P, Inv, rfl, ⟨fp, wr, S, W, hS, hwr, hfp, G⟩, hI, hbody, hend⟩ := h₂
  have f2 := f.gr G
  have hw0 : ∀ b ∈ wr, s₀.heap.get? b = none := fun b hb => by
    cases q : s₀.heap.get? b with
    | none => rfl
    | some o =>
      exfalso
      have hsb := (hwr b hb).2
      by_cases ht : b ∈ C.ts
      · obtain ⟨ps, hp, _⟩ := f.st.tab b ht; rw [hsb] at hp; cases hp
      · by_cases hx : b ∈ C.ex
        · obtain ⟨o', e'⟩ := f.st.exs b hx; rw [hsb] at e'; cases e'
        · have := f.keep b o ht hx q; rw [hsb] at this; cases this
  have hwt : ∀ b ∈ wr, b ∉ C.ts := fun b hb q => by obtain ⟨ps, hp, _⟩ := f.st.tab b q; rw [(hwr b hb).2] at hp; cases hp
  have hwx : ∀ b ∈ wr, b ∉ C.ex := fun b hb q => by obtain ⟨o', e'⟩ := f.st.exs b q; rw [(hwr b hb).2] at e'; cases e'
  have hwl : env.locals ∉ wr := fun q => by
    obtain ⟨m, ⟨o, _, _, ho, _⟩, _⟩ := f.loc.ns
    rw [(hwr _ q).2] at ho; cases ho
  have hwc : ∀ b ∈ wr, ∀ n, env.cells.lookup n ≠ some b := fun b hb n q => by
    obtain ⟨o, ho, _⟩ := f.loc.cell n b q
    rw [(hwr b hb).2] at ho; cases ho
  have hfl : ∀ b ∈ fp, b ≠ env.locals ∧ ∀ n, env.cells.lookup n ≠ some b := fun b hb => by
    rcases hfp b hb with hw | ⟨o, ho⟩
    · exact ⟨fun q => hwl (q ▸ hw), hwc b hw⟩
    · refine ⟨fun q => ?_, fun n q => ?_⟩
      · rw [q, f2.own.2] at ho; cases ho
      · obtain ⟨o', ho', hd'⟩ := f2.loc.cell n b q
        obtain ⟨o'', ho'', _, hc''⟩ := W.there 0 _ hS b hb
        rw [ho'] at ho''; cases ho''; exact hc'' _ hd'
  refine codeAny_forLoop (fun k sk => ∃ i gk σk, i ≤ n ∧ k = n - i ∧ Fn C K g₀ s₀ env gk sk σk ∧ Sub g₂ gk ∧ (∀ b ∈ wr, gk.get? b = none) ∧ S i sk.heap ∧ Inv i σk) ?_ n ⟨0, g₂, σ, Nat.zero_le _, by simp, f2, fun _ _ e => e, fun b hb => (hwr b hb).1, hS, hI⟩
  rintro k sk ⟨i, gk, σk, hi, rfl, fk, subk, hgw, hSk, hIk⟩
  by_cases hlt : i < n
  · refine W.item i sk _ _ hlt hSk fun v h' tk hP hS' hkeep => ?_
    have hthere := W.there _ _ hS'
    have f1 := fk.wr (t := tk) hkeep (fun b hb q => absurd q (hwx b hb)) hgw (fun b hb => .inr (hw0 b hb)) hwt (fun b hb q => hwl (q ▸ hb)) hwc
    refine wpAny_assign_Name (storeVar f1 hk hcells fun s1 f3 keep3 => ?_)
    have hS3 : S (i + 1) s1.heap := W.frame _ _ _ hS' fun b hb o e => keep3 b o (hfl b hb).1 (hfl b hb).2 e
    have f4 := f3.add hw0 hwt hwx hwl hwc
    refine wpAny_mono (hbody i v _ s1 σk _ h' hlt hP f4 (fun b o e => addL_up f3.st.sub b o (subk b o e)) hIk) (fun fl s2 h2 => ?_) fun _ _ e => e
    have next : (∃ g3 σ3, Fn C K g₀ s₀ env g3 s2 σ3 ∧ Sub (addL gk s1.heap wr) g3 ∧ Inv (i + 1) σ3) → ∃ m, m < n - i ∧ ∃ i' gk σk, i' ≤ n ∧ m = n - i' ∧ Fn C K g₀ s₀ env gk s2 σk ∧ Sub g₂ gk ∧ (∀ b ∈ wr, gk.get? b = none) ∧ S i' s2.heap ∧ Inv i' σk := by
      rintro ⟨g3, σ3, f5, sub5, hI5⟩
      refine ⟨n - (i + 1), by omega, i + 1, delL g3 wr, σ3, hlt, rfl, f5.weaken delL_sub fun b o e => ?_, fun b o e => ?_, fun b hb => delL_in hb, W.frame _ _ _ hS3 fun b hb o e => ?_, hI5⟩
      · refine delL_ne (f5.up b o e) fun q => ?_
        have := f5.st₀.sub b o e
        rw [hw0 b q] at this; cases this
      · refine delL_ne (sub5 b o (addL_up f3.st.sub b o (subk b o e))) fun q => ?_
        have := subk b o e
        rw [hgw b q] at this; cases this
      · by_cases hw : b ∈ wr
        · exact f5.st.sub b o (sub5 b o (by rw [addL_in hw]; exact e))
        · rcases hfp b hb with hw' | ⟨o', ho'⟩
          · exact absurd hw' hw
          · have e1 := f3.st.sub b o' (subk b o' ho')
            rw [e] at e1; cases e1
            exact f5.st.sub b o (sub5 b o (addL_up f3.st.sub b o (subk b o ho')))
    cases fl with
    | next => exact next h2
    | cont => exact next h2
    | brk => exact h2
    | ret v => exact h2
  · have hin : i = n := by omega
    subst hin
    refine W.done sk _ _ hSk fun h' tk hkeep => wpAny_execs_nil ?_
    have f1 := fk.wr (t := tk) hkeep (fun b hb q => absurd q (hwx b hb)) hgw (fun b hb => .inr (hw0 b hb)) hwt (fun b hb q => hwl (q ▸ hb)) hwc
    exact hend _ _ _ f1 subk hIk

/-- reversed(l), ready to go -/
theorem revGo {S : Shared} {l : Addr} {vs : List Value} {Q : Value → Shared → Prop} (st : St C K g s) (hS : Same S s) (hh : A.handled = none) (hl : g.IsList l vs.toArray)
    (hq : ∀ I g₂ s₂, ItOk C A g s g₂ s₂ I vs.length (fun i v _ => vs[vs.length - 1 - i]? = some v) → Q (.ref I) s₂) : wpAny C.M A (call (.type "reversed") [.ref l]) (fun xv s₁ => wpAny C.M A (pyIter xv) Q E s₁) E S := by
  have st' := st.at hS
  have hl' := IsList.up hl st'.sub
  refine call_reversed_list hl' ?_
  have hI : S.heap.get? S.heap.objs.size = none := get_size_none _
  have k : Sub S.heap (S.heap.push (revObj l ((vs.toArray.size : Int) - 1))) := fun _ _ e => Heap.get?_push_of_some _ e
  obtain ⟨o, ho, _⟩ := id hl
  have hne : l ≠ S.heap.objs.size := fun q => by have := st'.sub l o ho; rw [q, hI] at this; cases this
  have hit : (S.heap.push (revObj l ((vs.toArray.size : Int) - 1))).IsRevIter S.heap.objs.size l ((vs.toArray.size : Int) - 1) := ⟨_, Heap.get?_push_size _ rfl, rfl, rfl⟩
  refine wpAny_pyIter_revIter hit (hq _ g _ (ItOk.same_l (S := S) ?_ hS))
  have W := Walks.listRev (prog := C.prog) (w := C.w) hh S.heap.objs.size l hne vs.toArray
  have hsz : vs.toArray.size = vs.length := by simp
  refine ⟨[S.heap.objs.size, l], [S.heap.objs.size], fun i h => i ≤ vs.toArray.size ∧ h.IsRevIter S.heap.objs.size l ((vs.toArray.size : Int) - 1 - (i : Int)) ∧ h.IsList l vs.toArray, ?_, ⟨Nat.zero_le _, by simpa using hit, hl'.push _⟩, ?_, ?_, ?_⟩
  · have W' := wk_of W ?_
    · refine ⟨W'.sub, W'.there, W'.frame, fun i s Q E hi => W'.item i s Q E (by omega) |> fun w hs hq => w hs fun v h' tk hP => hq v h' tk (by simpa using hP), ?_, W'.self⟩
      have := W'.done
      rw [hsz] at this
      exact this
    · rintro i hp ⟨_, ⟨oi, hoi, hci, hdi⟩, ⟨ol, hol, hcl, kl, hdl⟩⟩ b hb
      rcases List.mem_cons.mp hb with rfl | hb
      · exact ⟨oi, hoi, by rw [hci]; simp, fun v q => by rw [hdi] at q; cases q⟩
      · rw [List.mem_singleton.mp hb]
        exact ⟨ol, hol, by rw [hcl]; simp, fun v q => by rw [hdl] at q; cases q⟩
  · intro b hb
    rw [List.mem_singleton.mp hb]
    exact ⟨none_of_sub st'.sub hI, hI⟩
  · intro b hb
    rcases List.mem_cons.mp hb with rfl | hb
    · exact .inl (.head _)
    · rw [List.mem_singleton.mp hb]; exact .inr ⟨o, ho⟩
  · exact Gr.ext st' k _

/-- a tuple is made -/
theorem newTupleF {S : Shared} {M : Model} {vs : List Value} {Q : Value → Shared → Prop} (f : Fn C K g₀ s₀ env g s σ) (hS : Same S s) (hz : vs.length ≤ sizeLine)
    (hq : ∀ D g' s', Fn C K g₀ s₀ env g' s' σ → Gr C g S g' s' → Sub g g' → IsTup g' D vs.toArray → Q (.ref D) s') : wpAny M A (newTuple vs) Q E S := by
  have f' := f.at hS
  have k : Sub S.heap (S.heap.push { cls := .type "tuple", dict := none, data := .seq vs.toArray }) := fun _ _ e => Heap.get?_push_of_some _ e
  have gr : Gr C g S (nextG g S.heap (S.heap.push { cls := .type "tuple", dict := none, data := .seq vs.toArray })) { S with heap := S.heap.push { cls := .type "tuple", dict := none, data := .seq vs.toArray }, toks := S.toks } := Gr.keeps f'.st k
  refine wpAny_newObj_type (hq _ _ _ (f'.gr gr) gr gr.up ⟨_, nextG_push _, rfl, _, rfl⟩) (by show vs.toArray.size ≤ sizeLine; simpa using hz)
theorem IsTup.up {g g' : Heap} {t : Addr} {vs : Array Value} (h : IsTup g t vs) (k : Sub g g') : IsTup g' t vs := let ⟨o, a, b⟩ := h; ⟨o, k _ _ a, b⟩

theorem baseT {value slice : Expr} {o i : Value} {prog : Program} {w : World} {S : Shared} {Q : Value → Shared → Prop} (h : wpAny (model prog w) A (subscriptTail (.Name (Str.ofString "_") ⟨0, 0, 0, 0⟩) slice o i) Q E S) : wpAny (model prog w) A (subscriptTail value slice o i) Q E S :=
  kba_turn (fun _ => rfl) h
end
end Mine
end
section
open PySem PySem.W PySem.Calls PyProof.Rows PySem.Spec PySem.NumText Builtin Builtin.Str
set_option Elab.async false
namespace Mine
/-- the number with these digits, the low ones first -/
def dig (B : Int) (cs : List Int) : Int := cs.foldr (fun c r => r * B + c) 0
theorem dig_nil (B : Int) : dig B [] = 0 := rfl
theorem dig_cons (B c : Int) (cs : List Int) : dig B (c :: cs) = dig B cs * B + c := rfl
theorem dig_append (B : Int) (as bs : List Int) : dig B (as ++ bs) = dig B bs * B ^ as.length + dig B as := by
  induction as with
  | nil => simp [dig_nil]
  | cons a as ih =>
    rw [List.cons_append, dig_cons, ih, dig_cons, List.length_cons, Int.pow_succ, Int.add_mul, Int.mul_assoc, Int.add_assoc]
theorem dig_bounds {B : Int} (hB : 0 < B) : ∀ {cs : List Int}, (∀ c ∈ cs, 0 ≤ c ∧ c < B) → 0 ≤ dig B cs ∧ dig B cs < B ^ cs.length
  | [], _ => by simp [dig_nil]
  | c :: cs, h => by
    have ih := dig_bounds hB fun c hc => h c (.tail _ hc)
    have hc := h c (.head _)
    rw [dig_cons, List.length_cons, Int.pow_succ]
    have h1 : 0 ≤ dig B cs * B := Int.mul_nonneg ih.1 (by omega)
    have h2 : (dig B cs + 1) * B ≤ B ^ cs.length * B := Int.mul_le_mul_of_nonneg_right (by omega) (by omega)
    rw [Int.add_mul, Int.one_mul] at h2
    omega
theorem dig_at {B : Int} (hB : 0 < B) : ∀ {cs : List Int}, (∀ c ∈ cs, 0 ≤ c ∧ c < B) → ∀ {i : Nat} {c : Int}, cs[i]? = some c → dig B cs / B ^ i % B = c
  | c :: cs, h, 0, c', e => by
    cases e
    have hc := h c (.head _)
    rw [dig_cons, Int.pow_zero, Int.ediv_one, Int.add_comm, Int.add_mul_emod_self_right]
    exact Int.emod_eq_of_lt hc.1 hc.2
  | c :: cs, h, i + 1, c', e => by
    have ih := dig_at hB (fun c hc => h c (.tail _ hc)) (i := i) (c := c') (by simpa using e)
    have hc := h c (.head _)
    rw [dig_cons, Int.pow_succ, Int.mul_comm (B ^ i) B, ← Int.ediv_ediv_of_nonneg (by omega), Int.add_comm, Int.add_mul_ediv_right _ _ (by omega), Int.ediv_eq_zero_of_lt hc.1 hc.2, Int.zero_add]
    exact ih
/-- m digits of G -/
def digits (B : Int) (m : Nat) (G : Int) : List Int := (List.range m).map fun c => G / B ^ c % B
theorem dig_digits {B : Int} (hB : 0 < B) : ∀ (m : Nat) {G : Int}, 0 ≤ G → dig B (digits B m G) = G % B ^ m
  | 0, G, _ => by simp [digits, dig_nil, Int.emod_one]
  | m + 1, G, h => by
    have e : digits B (m + 1) G = digits B m G ++ [G / B ^ m % B] := by unfold digits; rw [List.range_succ, List.map_append]; rfl
    rw [e, dig_append, dig_digits hB m h]
    have hl : (digits B m G).length = m := by simp [digits]
    rw [hl, dig_cons, dig_nil, Int.zero_mul, Int.zero_add, Int.pow_succ]
    have hp : 0 < B ^ m := Int.pow_pos hB
    rw [Int.emod_def G (B ^ m * B), Int.emod_def (G / B ^ m) B, Int.emod_def G (B ^ m), Int.ediv_ediv_of_nonneg (by omega)]
    have : (G / B ^ m - B * (G / (B ^ m * B))) * B ^ m = B ^ m * (G / B ^ m) - B ^ m * B * (G / (B ^ m * B)) := by
      generalize G / B ^ m = q
      generalize G / (B ^ m * B) = q2
      generalize B ^ m = P
      grind
    omega
theorem dig_concat {B : Int} (hB : 0 < B) (m : Nat) : ∀ {Gs : List Int}, (∀ G ∈ Gs, 0 ≤ G ∧ G < B ^ m) → dig B (Gs.flatMap (digits B m)) = dig (B ^ m) Gs
  | [], _ => rfl
  | G :: Gs, h => by
    have hG := h G (.head _)
    rw [List.flatMap_cons, dig_append, dig_concat hB m fun G hG => h G (.tail _ hG), dig_cons, dig_digits hB m hG.1, Int.emod_eq_of_lt hG.1 hG.2]
    have hl : (digits B m G).length = m := by simp [digits]
    rw [hl]
theorem digits_in {B : Int} (hB : 0 < B) {m : Nat} {G c : Int} (h : c ∈ digits B m G) : 0 ≤ c ∧ c < B := by
  obtain ⟨i, _, rfl⟩ := List.mem_map.mp h
  exact ⟨Int.emod_nonneg _ (by omega), Int.emod_lt_of_pos _ hB⟩
def unpackEl (r n : Int) (i : Nat) : Int := Builtin.bitAnd (r.fdiv (2 ^ ((n * i).toNat))) (1 * 2 ^ n.toNat - 1)
theorem value_dig (os : List Int) : KFB.value os.reverse = dig 256 os := by
  unfold KFB.value dig
  rw [List.foldl_reverse]
theorem nat_and_shift (R Y n : Nat) (h : Y < 2 ^ n) : (R * 2 ^ n) &&& Y = 0 := by
  apply Nat.eq_of_testBit_eq
  intro i
  rw [Nat.testBit_and, Nat.mul_comm, Nat.testBit_two_pow_mul, Nat.zero_testBit]
  by_cases hi : n ≤ i
  · have : Y.testBit i = false := Nat.testBit_lt_two_pow (Nat.lt_of_lt_of_le h (Nat.pow_le_pow_right (by decide) hi))
    rw [this, Bool.and_false]
  · simp [hi]
theorem or_step {r c : Int} {n : Nat} (hr : 0 ≤ r) (h0 : 0 ≤ c) (h1 : c < 2 ^ n) : Builtin.bitOr (r * 2 ^ n) c = r * 2 ^ n + c := by
  have hrn : 0 ≤ r * 2 ^ n := Int.mul_nonneg hr (Int.pow_nonneg (by decide))
  rw [bitOr_and]
  have : Builtin.bitAnd (r * 2 ^ n) c = 0 := by
    unfold Builtin.bitAnd
    rw [decide_eq_true hrn, decide_eq_true h0]
    show (((r * 2 ^ n).toNat &&& c.toNat : Nat) : Int) = 0
    obtain ⟨R, rfl⟩ := Int.eq_ofNat_of_zero_le hr
    obtain ⟨Y, rfl⟩ := Int.eq_ofNat_of_zero_le h0
    have e : ((R : Int) * 2 ^ n) = ((R * 2 ^ n : Nat) : Int) := by push_cast; rfl
    rw [e, Int.toNat_natCast, Int.toNat_natCast, nat_and_shift R Y n (by exact_mod_cast h1)]
    rfl
  rw [this]; omega
theorem mask_el {r w : Int} {i : Nat} (hw : 0 ≤ w) : unpackEl r w i = r / (2 ^ w.toNat) ^ i % 2 ^ w.toNat := by
  unfold unpackEl
  have e : (w * (i : Int)).toNat = w.toNat * i := by
    obtain ⟨W, rfl⟩ := Int.eq_ofNat_of_zero_le hw
    have : ((W : Int) * (i : Int)) = ((W * i : Nat) : Int) := by push_cast; rfl
    rw [this, Int.toNat_natCast, Int.toNat_natCast]
  rw [e, Int.one_mul, kbt_mask, Int.fdiv_eq_ediv_of_nonneg _ (Int.pow_nonneg (by decide)), Int.pow_mul]
end Mine
end
section
open PySem PySem.W PySem.Calls PyProof.Rows PySem.Spec PySem.NumText Builtin Builtin.Str
set_option Elab.async false
set_option maxRecDepth 100000
set_option maxHeartbeats 0
set_option pp.deepTerms false
set_option pp.deepTerms.threshold 2
namespace Mine
variable {C : Cfg} {K : Frag}
section
variable {prog : Program} {w : World} {A : Around} {E : Value → Shared → Prop} {g₀ g : Heap} {s₀ s : Shared} {env : Env} {σ : Str → Option Value} {h : Heap} {gs : Array GenState} {d : Drawn} {tk : Nat} {os : OsState}
theorem isiTup {l : Addr} {vs : Array Value} {T : Value} {b : Bool} {Q : Value → Shared → Prop} (f : Fn C K g₀ s₀ env g s σ) (hS : Same ⟨h, gs, d, tk, os⟩ s) (hl : IsTup g l vs) (e : kitOne K (.type "tuple") T = some b)
    (hq : ∀ tk, Q (.bool b) ⟨h, gs, d, tk, os⟩) : wpAny (model prog w) A (call (.builtin "isinstance") [.ref l, T]) Q E ⟨h, gs, d, tk, os⟩ := by
  have f' := f.at hS
  obtain ⟨o, ho, hc, _⟩ := IsTup.up hl f'.st.sub
  exact kia_one (s := ⟨h, gs, d, tk, os⟩) kitx_tuple (kinOf f') ⟨o, ho, hc⟩ e (by intro q; cases q) hq
theorem lenTupF {l : Addr} {vs : Array Value} {Q : Value → Shared → Prop} (f : Fn C K g₀ s₀ env g s σ) (hS : Same ⟨h, gs, d, tk, os⟩ s) (hl : IsTup g l vs) (hz : (vs.size : Int) < 2 ^ 63) (hq : Q (.int vs.size (tk + 1)) ⟨h, gs, d, tk + 1 + 1, os⟩) :
    wpAny (model prog w) A (call (.builtin "len") [.ref l]) Q E ⟨h, gs, d, tk, os⟩ := by
  have f' := f.at hS
  exact Calls.call_function_entry kind_len plain_len entry_len (args_len1 _) (len_entry_tuple (s := ⟨h, gs, d, tk, os⟩) (IsTup.up hl f'.st.sub) hz hq)
theorem itemTupF {value slice : Expr} {l : Addr} {vs : Array Value} {k : Int} {u : Tok} {x : Value} {Q : Value → Shared → Prop} (f : Fn C K g₀ s₀ env g s σ) (hS : Same ⟨h, gs, d, tk, os⟩ s) (hl : IsTup g l vs)
    (h0 : 0 ≤ k) (hfit : k < vs.size ∧ (vs.size : Int) < 2 ^ 60) (hx : vs[k.toNat]? = some x) (hq : Q x ⟨h, gs, d, tk, os⟩)
    (hs : subscripted slice false (.ref l) (.int k u) = operate [.ref l, .int k u] (getItem (.ref l) (.int k u)) := by with_unfolding_all rfl) :
    wpAny (model prog w) A (subscriptTail value slice (.ref l) (.int k u)) Q E ⟨h, gs, d, tk, os⟩ := by
  have f' := f.at hS
  refine baseT (item_tuple (IsTup.up hl f'.st.sub) (by omega) (by omega) (j := k.toNat) ?_ hx hq hs)
  unfold seqIndex?
  simp only [if_neg (show ¬ k < 0 by omega), decide_eq_true h0, decide_eq_true hfit.1, Bool.and_self, if_true]
/-- an item of an object of an own class -/
theorem subObjT {S : Shared} {x Cc fa : Addr} {fs : List (Str × Value)} {value slice : Expr} {i : Value} {Q : Value → Shared → Prop} (f : Fn C K g₀ s₀ env g s σ) (hS : Same S s) (I : Fld g x Cc fs)
    (hs : findIn K (.ref Cc) "__getitem__" = some (some (.ref fa))) (hf : fnIn K fa = true) (hfn : isFn K (.ref fa) = true) (hq : wpAny (model prog w) A.in1 (call (.ref fa) [.ref x, i]) Q E S)
    (hsl : subscripted slice true (.ref x) i = runValue (.builtin "lifetime.subscript" ⟨[.ref x, i], []⟩) := by with_unfolding_all rfl) : wpAny (model prog w) A (subscriptTail value slice (.ref x) i) Q E S := by
  have f' := f.at hS
  have X := kinOf f'
  obtain ⟨dx, es, n, en, ia⟩ := inst_of I f'.st.sub
  unfold fnIn at hf
  split at hf
  · rename_i e
    unfold subscriptTail getitemInPython
    refine wpAny_bind (wpAny_bind (wpAny_bind (ia.type.here ((looks_findIn X hs).here ?_))))
    dsimp only
    refine wpAny_bind (wpAny_load (X _ _ e) (wpAny_pure ?_))
    dsimp only
    rw [hsl]
    refine wpAny_bind (wpAny_runValue (codeAny_builtin entry_sub ?_))
    unfold Builtin.«lifetime.subscript»
    refine wpAny_bind (special_fn X ia hs (beq_iff_eq.mp hfn) (wpAny_mono hq (fun v s' z => ?_) fun _ _ z => z))
    refine wpAny_pure ?_
    show wpAny (model prog w) A (letTemporaryGo value (.ref x) v >>= fun _ => pure v) Q E s'
    exact wpAny_bind (wpAny_letTemporaryGo (wpAny_pure z))
  · cases hf
end
end Mine
end
section
open PySem PySem.W PySem.Calls PyProof.Rows PySem.Spec PySem.NumText Builtin Builtin.Str
set_option Elab.async false
set_option maxRecDepth 100000
set_option maxHeartbeats 0
set_option pp.deepTerms false
set_option pp.deepTerms.threshold 2
namespace Mine
/-- a generator at work beside a list S that its consumer fills: it keeps S, and S may change under it -/
structure Gk (prog : Program) (w : World) (A : Around) (I S : Addr) (n : Nat) (P : Nat → Value → Prop) (St : Nat → Shared → Prop) (Fi : Shared → Prop) : Prop where
  ne : S ≠ I
  gen : ∀ i s, St i s → s.TypeIs (.ref I) "generator"
  frame : ∀ i (s : Shared) h' tk, St i s → (∀ b, b ≠ S → ∀ o, s.heap.get? b = some o → h'.get? b = some o) → (∃ o', h'.get? S = some o') → St i { s with heap := h', toks := tk }
  item : ∀ i (s : Shared) (Q : Option Value → Shared → Prop) (E : Value → Shared → Prop), i < n → St i s → (∀ v s', P i v → St (i + 1) s' → (∀ o, s.heap.get? S = some o → s'.heap.get? S = some o) → Q (some v) s') → wpAny (model prog w) A (pyNext (.ref I)) Q E s
  done : ∀ (s : Shared) (Q : Option Value → Shared → Prop) (E : Value → Shared → Prop), St n s → (∀ s', Fi s' → (∀ o, s.heap.get? S = some o → s'.heap.get? S = some o) → Q none s') → wpAny (model prog w) A (pyNext (.ref I)) Q E s
  self : ∀ i (s : Shared) (Q : Value → Shared → Prop) (E : Value → Shared → Prop), St i s → Q (.ref I) s → wpAny (model prog w) A (pyIter (.ref I)) Q E s
section
variable {prog : Program} {w : World} {A : Around} {R : Result → Shared → Prop} {I S : Addr} {n : Nat} {P : Nat → Value → Prop} {St : Nat → Shared → Prop} {Fi : Shared → Prop}
theorem gk_extend_loop (W : Gk prog w A.in1 I S n P St Fi) (hn : n ≤ sizeLine) (res : Value) :
    ∀ (k i : Nat) (s : Shared) (acc : Array Value) (c : Nat), n - i = k → i ≤ n → St i s → s.heap.get? S = some { cls := .type "list", dict := none, data := .seq acc c, slots := #[] } → ItemsOf P acc i →
    (∀ s' acc' c', Fi s' → s'.heap.get? S = some { cls := .type "list", dict := none, data := .seq acc' c', slots := #[] } → ItemsOf P acc' n → R (.ok (.ret res)) s') →
    codeAny (model prog w) A (.builtin "list.extend.loop" ⟨[.ref S, .ref I, res], []⟩) R s := by
  intro k
  induction k with
  | zero =>
    intro i s acc c hk hi hst hS hacc hR
    have hin : i = n := by omega
    subst hin
    refine codeAny_builtin F.entry_extend_loop ?_
    rw [Around.under_plainId F.plain_extend_loop _]
    show wpAny _ A.in1 (pyNext (.ref I) >>= _) _ _ s
    refine wpAny_bind (W.done s _ _ hst fun s' hf hm => ?_)
    exact wpAny_pure (hR s' acc c hf (hm _ hS) hacc)
  | succ k ih =>
    intro i s acc c hk hi hst hS hacc hR
    have hlt : i < n := by omega
    refine codeAny_builtin F.entry_extend_loop ?_
    rw [Around.under_plainId F.plain_extend_loop _]
    show wpAny _ A.in1 (pyNext (.ref I) >>= _) _ _ s
    refine wpAny_bind (W.item i s _ _ hlt hst fun v s' hP hst' hm => ?_)
    have hS' := hm _ hS
    show wpAny _ A.in1 (updateSeq S (·.push v) >>= _) _ _ _
    refine wpAny_bind ?_
    refine wpAny_updateSeq hS' rfl (wpAny_pure ⟨plainId_quiet F.plain_extend_loop _, ih (i + 1) _ (acc.push v) _ (by omega) hlt (W.frame _ s' _ s'.toks hst' (fun b hb o e => (Heap.get?_update_other _ _ (Ne.symm hb)).trans e) ⟨_, Heap.get?_update_self _ hS' rfl⟩) (Heap.get?_update_self _ hS' rfl) (hacc.push hP) hR⟩)
      (by rw [hacc.1]; omega) (by show (acc.push v).size ≤ sizeLine + 1; rw [Array.size_push, hacc.1]; omega)
theorem gk_extend {s : Shared} (W : Gk prog w A.in1 I S n P St Fi) (hn : n ≤ sizeLine) (res : Value) (c₀ : Nat) (hst : St 0 s) (hS : s.heap.get? S = some { cls := .type "list", data := .seq #[] c₀ })
    (hR : ∀ s' acc' c', Fi s' → s'.heap.get? S = some { cls := .type "list", dict := none, data := .seq acc' c', slots := #[] } → ItemsOf P acc' n → R (.ok (.ret res)) s') :
    wpAny (model prog w) A.in1 (Builtin.List.listExtendWith (.ref S) (.ref I) res)
      (fun fin s' => match fin with | .done f => R (.ok f) s' | .again c' => c'.quiet = true ∧ codeAny (model prog w) A c' R s') (fun e s' => R (.error e) s') s := by
  unfold Builtin.List.listExtendWith
  refine wpAny_bind (wpAny_typeOf (W.gen 0 _ hst) ?_)
  have h1 : Builtin.List.listSameRef (.ref S) (.ref I) = false := by simp [Builtin.List.listSameRef, W.ne]
  have h2 : (Value.type "generator" == Value.type "list") = false := by decide
  have h3 : (Value.type "generator" == Value.type "tuple") = false := by decide
  simp only [h1, h2, h3, Bool.or_false, Bool.false_eq_true, if_false]
  refine wpAny_bind (W.self 0 _ _ _ hst ?_)
  refine wpAny_bind (wpAny_holding ?_)
  unfold Builtin.List.listLengthHint
  refine wpAny_bind (wpAny_specialOf (W.gen 0 _ hst) F.gen_no_len ?_)
  show wpAny _ A.in1 (specialOf (Value.ref I) (Str.ofString "__length_hint__") >>= _) _ _ _
  refine wpAny_bind (wpAny_specialOf (W.gen 0 _ hst) F.gen_no_hint ?_)
  refine wpAny_pure ?_
  show wpAny _ A.in1 (rule "list.extend.makes-room" >>= fun _ => Builtin.List.listTouch (.ref S) >>= fun _ =>
    again (.builtin "list.extend.loop" ⟨[.ref S, .ref I, res], []⟩)) _ _ _
  refine wpAny_bind (wpAny_rule ?_)
  refine wpAny_bind ?_
  show wpAny _ A.in1 (updateSeq S (·.push .none) >>= fun _ => updateSeq S (·.pop)) _ _ _
  refine wpAny_bind (wpAny_updateSeq hS rfl ?_)
  have hS₂ := Heap.get?_update_self (Obj.mapSeq (·.push Value.none)) hS rfl
  refine wpAny_updateSeq (hz := by seq_fits) hS₂ rfl ?_
  have hS₃ := Heap.get?_update_self (Obj.mapSeq (·.pop)) hS₂ rfl
  exact wpAny_pure ⟨plainId_quiet F.plain_extend_loop _, gk_extend_loop W hn _ n 0 _ _ _ rfl (Nat.zero_le _)
    (W.frame 0 s _ s.toks hst (fun b hb o e => (Heap.get?_update_other _ _ (Ne.symm hb)).trans ((Heap.get?_update_other _ _ (Ne.symm hb)).trans e)) ⟨_, hS₃⟩) hS₃ (ItemsOf.nil P) hR⟩
theorem gk_list_init {s : Shared} (W : Gk prog w A.in1 I S n P St Fi) (hn : n ≤ sizeLine) (hst : St 0 s) (hS : s.heap.get? S = some { cls := .type "list", data := .seq #[] })
    (hR : ∀ s' acc' c', Fi s' → s'.heap.get? S = some { cls := .type "list", dict := none, data := .seq acc' c', slots := #[] } → ItemsOf P acc' n → R (.ok (.ret .none)) s') :
    wpAny (model prog w) A.in1 (Builtin.«list.__init__» ⟨[.ref S, .ref I], []⟩)
      (fun fin s' => match fin with | .done f => R (.ok f) s' | .again c' => c'.quiet = true ∧ codeAny (model prog w) A c' R s') (fun e s' => R (.error e) s') s := by
  show wpAny _ A.in1 (do let old ← Builtin.List.listItems (.ref S); Builtin.List.listUpdate (.ref S) (fun _ => #[]); letGo old.toList.reverse; Builtin.List.listExtendWith (.ref S) (.ref I) .none) _ _ s
  refine wpAny_bind ?_
  unfold Builtin.List.listItems
  refine wpAny_bind (wpAny_seqItems hS rfl (wpAny_pure ?_))
  show wpAny _ A.in1 (updateSeq S (fun _ => #[]) >>= fun _ => letGo (#[] : Array Value).toList.reverse >>= fun _ => Builtin.List.listExtendWith (.ref S) (.ref I) .none) _ _ s
  refine wpAny_bind (wpAny_updateSeq hS rfl ?_)
  have hS₂ := Heap.get?_update_self (Obj.mapSeq (fun _ => (#[] : Array Value))) hS rfl
  refine wpAny_bind (wpAny_letGo ?_)
  exact gk_extend W hn .none _ (W.frame 0 s _ s.toks hst (fun b hb o e => (Heap.get?_update_other _ _ (Ne.symm hb)).trans e) ⟨_, hS₂⟩) hS₂ hR
/-- list(generator): told once the list is made -/
theorem gk_call_list {s : Shared} {E : Value → Shared → Prop} {Q : Value → Shared → Prop} (hn : n ≤ sizeLine)
    (h : Gk prog w A.in1.in1 I s.heap.objs.size n P St Fi ∧ St 0 { s with heap := s.heap.push { cls := .type "list", data := .seq #[] } })
    (hQ : ∀ s' acc' c', Fi s' → s'.heap.get? s.heap.objs.size = some { cls := .type "list", dict := none, data := .seq acc' c', slots := #[] } → ItemsOf P acc' n → Q (.ref s.heap.objs.size) s') :
    wpAny (model prog w) A (call (.type "list") [.ref I]) Q E s := by
  refine callType_codes (Q₁ := fun obj s₁ => obj = .ref s.heap.objs.size ∧ s₁ = { s with heap := s.heap.push { cls := .type "list", data := .seq #[] } }) F.called_list (F.typeCall_list_1 _) F.entry_list_init
    (code_list_new _ ⟨rfl, rfl⟩) fun obj s₁ h₁ => ?_
  obtain ⟨rfl, rfl⟩ := h₁
  have hS : (s.heap.push { cls := .type "list", data := .seq #[] }).get? s.heap.objs.size = some { cls := .type "list", data := .seq #[] } := Heap.get?_push_size _ rfl
  refine ⟨⟨_, hS, rfl⟩, F.args_list_init_2 _ _, gk_list_init h.1 hn h.2 hS fun s' acc' c' hf hS' hacc => ?_⟩
  exact ⟨rfl, hQ s' acc' c' hf hS' hacc⟩
end
end Mine
end
section
open PySem PySem.W PySem.Calls PyProof.Rows PySem.Spec PySem.NumText Builtin Builtin.Str
set_option Elab.async false
set_option maxRecDepth 100000
set_option maxHeartbeats 0
set_option pp.deepTerms false
set_option pp.deepTerms.threshold 2
namespace Mine
variable {C : Cfg} {K : Frag}

/-- inside a generator: its frame, and the places Sl that its consumer fills stand as they stood when it was woken -/
structure GI (C : Cfg) (K : Frag) (g₀ : Heap) (s₀ : Shared) (cenv : Env) (Sl : List Addr) (s₁ : Shared) (gk : Heap) (s : Shared) (σ : Str → Option Value) : Prop where
  fn : Fn C K g₀ s₀ cenv gk s σ
  sl : ∀ b ∈ Sl, ∃ o, s₁.heap.get? b = some o ∧ gk.get? b = some o
  ou : Out s₁ s

/-- what the consumer may do while the generator waits -/
structure Per (gn : Nat) (Sl : List Addr) (s s'' : Shared) : Prop where
  keep : ∀ b, b ∉ Sl → ∀ o, s.heap.get? b = some o → s''.heap.get? b = some o
  sl : ∀ b ∈ Sl, ∃ o, s''.heap.get? b = some o
  os : s''.os = s.os
  dr : s''.drawn = s.drawn
  gens : ∀ k x, k ≠ gn → s.gens[k]? = some x → s''.gens[k]? = some x
  bare : AllBare s.gens → AllBare s''.gens

structure SlOk (C : Cfg) (s₀ : Shared) (cenv : Env) (Sl : List Addr) (gn : Nat) : Prop where
  h0 : ∀ b ∈ Sl, s₀.heap.get? b = none
  ht : ∀ b ∈ Sl, b ∉ C.ts
  hx : ∀ b ∈ Sl, b ∉ C.ex
  hl : cenv.locals ∉ Sl
  hc : ∀ b ∈ Sl, ∀ n, cenv.cells.lookup n ≠ some b
  hg : s₀.gens[gn]? = none

section
variable {g₀ gk gA : Heap} {s₀ s₁ s s'' : Shared} {cenv : Env} {σ : Str → Option Value} {Sl : List Addr} {gn : Nat}

theorem GI.resume (x : GI C K g₀ s₀ cenv Sl s₁ gk s σ) (ok : SlOk C s₀ cenv Sl gn) (p : Per gn Sl s s'') : GI C K g₀ s₀ cenv Sl s'' (addL (delL gk Sl) s''.heap Sl) s'' σ := by
  have f := x.fn
  have g0n : ∀ b ∈ Sl, g₀.get? b = none := fun b hb => none_of_sub f.st₀.sub (ok.h0 b hb)
  have fw : Fn C K g₀ s₀ cenv (delL gk Sl) s σ := f.weaken delL_sub fun b o e => delL_ne (f.up b o e) fun q => by rw [g0n b q] at e; cases e
  have f2 : Fn C K g₀ s₀ cenv (delL gk Sl) s'' σ := {
    st := ⟨fun b o e => p.keep b (fun q => by rw [delL_in q] at e; cases e) o (fw.st.sub b o e), fw.st.gt, fw.st.ge, fun b hb => by
      obtain ⟨o, e⟩ := f.st.exs b hb
      exact ⟨o, p.keep b (fun q => ok.hx b q hb) o e⟩, fun P hP => let ⟨ps, a, b⟩ := f.st.tab P hP; ⟨ps, p.keep P (fun q => ok.ht P q hP) _ a, b⟩, p.bare f.st.gens, fw.st.kin, fw.st.top⟩
    loc := f.loc.keeps fun b o hb e => p.keep b (fun q => by
      rcases hb with rfl | ⟨n, hn⟩
      · exact ok.hl q
      · exact ok.hc b q n hn) o e
    up := fw.up
    keep := fun b o hb hbx e => p.keep b (fun q => by rw [ok.h0 b q] at e; cases e) o (f.keep b o hb hbx e)
    fresh := fw.fresh
    os := ⟨p.os.trans f.os.os, p.dr.trans f.os.dr, fun k z e => p.gens k z (fun q => by rw [q, ok.hg] at e; cases e) (f.os.gk k z e)⟩
    exo := f.exo
    st₀ := f.st₀
    own := fw.own
    ownC := f.ownC
    gC := fw.gC
    apart := f.apart
    apartL := f.apartL
    fn := f.fn
    gl := f.gl
    bl := f.bl }
  exact ⟨f2.add ok.h0 ok.ht ok.hx ok.hl ok.hc, fun b hb => by
    obtain ⟨o, e⟩ := p.sl b hb
    exact ⟨o, e, by rw [addL_in hb]; exact e⟩, ⟨rfl, rfl, fun _ _ e => e⟩⟩
theorem GI.resume_up (x : GI C K g₀ s₀ cenv Sl s₁ gk s σ) (p : Per gn Sl s s'') (up : Sub gA gk) (hA : ∀ b ∈ Sl, gA.get? b = none) : Sub gA (addL (delL gk Sl) s''.heap Sl) := fun b o e => by
  have hb : b ∉ Sl := fun q => by rw [hA b q] at e; cases e
  have h1 : (delL gk Sl).get? b = some o := delL_ne (up b o e) hb
  refine addL_up (fun b o e => p.keep b (fun q => by rw [delL_in q] at e; cases e) o (x.fn.st.sub b o (delL_sub b o e))) b o h1
end

def gY (C : Cfg) (K : Frag) (g₀ : Heap) (s₀ : Shared) (cenv : Env) (Sl : List Addr) (gn T : Nat) (gA : Heap) (F : Nat → Value → Prop) : Protocol := fun m s₁ v s kap =>
  F (T - 1 - m) v ∧ (∃ gk σ, GI C K g₀ s₀ cenv Sl s₁ gk s σ ∧ Sub gA gk) ∧ ∀ s'', Per gn Sl s s'' → kap (.send .none) s''
def gP (C : Cfg) (K : Frag) (g₀ : Heap) (s₀ : Shared) (cenv : Env) (Sl : List Addr) (gA : Heap) : Nat → Shared → Shared → Prop := fun n s₁ s => n = 0 ∧ ∃ gk σ, GI C K g₀ s₀ cenv Sl s₁ gk s σ ∧ Sub gA gk
abbrev gR (P : Nat → Shared → Shared → Prop) : GenEnd := fun n s₁ r s => r = .ok .next ∧ P n s₁ s

section
variable {A : Around} {g₀ gA gk : Heap} {s₀ s₁ s : Shared} {cenv : Env} {σ : Str → Option Value} {Sl : List Addr} {gn T : Nat} {gZ : Heap} {F : Nat → Value → Prop}

/-- an element is handed out -/
theorem seg_emit {x : Str} {px : Pos} {elt : Expr} {I : Addr} {v : Value} {fs : List Frame} {c : Code} {K' : Unit → Sem Fin} {H : Value → Sem Fin} {j n : Nat} (ok : SlOk C s₀ cenv Sl gn)
    (hx : cenv.kindOf x = some .local) (hcells : cellsOk cenv = true) (hco : cenv.scope.isCoroutine = false)
    (hfs : splitAtGen fs = none) (hfg : fs.any Frame.guarded = false) (hn : n + j = T) (hj : j < T)
    (x0 : GI C K g₀ s₀ cenv Sl s₁ gk s σ) (up : Sub gA gk) (hA : ∀ b ∈ Sl, gA.get? b = none) (hZ : Sub gZ gA)
    (helt : ∀ s' E', Fn C K g₀ s₀ cenv gk s' (fun y => if y = x then some v else σ y) → wpAny C.M (A.over c fs) (eval elt cenv) (fun y s2 => ∃ g2, Gr C gk s' g2 s2 ∧ F j y) E' s')
    (hcont : ∀ gk' s', GI C K g₀ s₀ cenv Sl s' gk' s' (fun y => if y = x then some v else σ y) → Sub gA gk' → Seg C.M A (gR (gP C K g₀ s₀ cenv Sl gZ)) (gY C K g₀ s₀ cenv Sl gn T gZ F) (n - 1) s' c (K' ()) fs s') :
    Seg C.M A (gR (gP C K g₀ s₀ cenv Sl gZ)) (gY C K g₀ s₀ cenv Sl gn T gZ F) n s₁ c
      ((letOwnedTupleGo (.Name x px) (.ref I) v >>= fun _ => assign (.Name x px) cenv v >>= fun _ => (eval elt cenv >>= fun y => standAt elt.pos >>= fun _ => yieldOut cenv y >>= fun _ => pure ())).wrap K' H id id) fs s := by
  refine seg_bind_wrap (wpAny_of_eq (show letOwnedTupleGo (.Name x px) (.ref I) v = pure () from rfl) ?_)
  refine seg_bind_wrap ?_
  show wpAny _ _ (do standAt px; bindName cenv x v) _ _ _
  refine wpAny_bind (wpAny_standAt (wpAny_bindName (storeLocal x0.fn hx hcells fun h1 f1 hs1 => ?_)))
  have o1 : Out s₁ { s with heap := h1, toks := s.toks + 1 } := ⟨x0.ou.1, x0.ou.2, x0.ou.3⟩
  refine seg_bind_wrap (wpAny_mono (helt _ _ f1) (fun y s2 h2 => ?_) fun _ _ e => e)
  obtain ⟨g2, hg2, hF⟩ := h2
  have f2 := f1.gr hg2
  have o2 : Out s₁ s2 := hg2.os.trans o1
  obtain ⟨m, rfl⟩ : ∃ m, n = m + 1 := ⟨n - 1, by omega⟩
  have hy : yieldOut cenv y = yieldValue y := by simp only [yieldOut, hco, Bool.false_eq_true, if_false]
  rw [hy]
  have gi2 : GI C K g₀ s₀ cenv Sl s₁ g2 s2 _ := ⟨f2, fun b hb => by
    obtain ⟨o, e1, e2⟩ := x0.sl b hb
    exact ⟨o, e1, hg2.up b o e2⟩, o2⟩
  have up2 : Sub gA g2 := fun b o e => hg2.up b o (up b o e)
  refine seg_bind_wrap (wpAny_standAt ?_)
  refine seg_yield hfs rfl hfg ⟨?_, ⟨g2, _, gi2, fun b o e => up2 b o (hZ b o e)⟩, fun s'' p => ?_⟩
  · have : T - 1 - m = j := by omega
    rw [this]; exact hF
  · exact hcont _ s'' (gi2.resume ok p) (gi2.resume_up p up2 hA)

/-- a generator's loop at one of its clauses -/
theorem seg_loop {e : Expr} {d : Nat} {I : Addr} {ps : Pos} {fs : List Frame} {fp wr : List Addr} {N : Nat} {P : Nat → Value → Prop} {S : Nat → Heap → Prop} {H : Value → Sem Unit} (body : Value → Sem Unit) (O : Nat → Nat → (Str → Option Value) → Prop)
    (ok : SlOk C s₀ cenv Sl gn)
    (hden : C.M.den (.compLoop e d (.ref I) .none cenv) = (compTurn e d (.ref I) .none cenv).onRaise H)
    (hturn : compTurn e d (.ref I) .none cenv = (standAt ps >>= fun _ => pyNext (.ref I) >>= fun r => match r with
      | none => pure (.done .next)
      | some v => body v >>= fun _ => again (.compLoop e d (.ref I) .none cenv)))
    (hq : (Code.compLoop e d (.ref I) .none cenv).quiet = true) (hh : (A.over (.compLoop e d (.ref I) .none cenv) fs).handled = none)
    (W : Wk C (A.over (.compLoop e d (.ref I) .none cenv) fs) I fp wr N (fun i v _ => P i v) S)
    (hfp : ∀ b ∈ fp, b ∈ wr ∨ ∃ o, gA.get? b = some o) (hwA : ∀ b ∈ wr, gA.get? b = none) (hw0 : ∀ b ∈ wr, s₀.heap.get? b = none) (hwt : ∀ b ∈ wr, b ∉ C.ts) (hwx : ∀ b ∈ wr, b ∉ C.ex) (hwl : cenv.locals ∉ wr) (hwc : ∀ b ∈ wr, ∀ n, cenv.cells.lookup n ≠ some b)
    (hwS : ∀ b ∈ wr, b ∉ Sl) (hA : ∀ b ∈ Sl, gA.get? b = none)
    (hbody : ∀ i j v n s₁ gB gk s σ (K' : Unit → Sem Fin) (H' : Value → Sem Fin), i < N → P i v → O i j σ → n + j = T → Sub gA gB → (∀ b ∈ Sl, gB.get? b = none) → GI C K g₀ s₀ cenv Sl s₁ gk s σ → Sub gB gk →
      (∀ n' j' s₁' gk' s' σ', n' + j' = T → O (i + 1) j' σ' → GI C K g₀ s₀ cenv Sl s₁' gk' s' σ' → Sub gB gk' → Seg C.M A (gR (gP C K g₀ s₀ cenv Sl gZ)) (gY C K g₀ s₀ cenv Sl gn T gZ F) n' s₁' (.compLoop e d (.ref I) .none cenv) (K' ()) fs s') →
      Seg C.M A (gR (gP C K g₀ s₀ cenv Sl gZ)) (gY C K g₀ s₀ cenv Sl gn T gZ F) n s₁ (.compLoop e d (.ref I) .none cenv) ((body v).wrap K' H' id id) fs s)
    (hend : ∀ n j s₁ gk s σ, n + j = T → O N j σ → GI C K g₀ s₀ cenv Sl s₁ gk s σ → Sub gA gk → Seg C.M A (gR (gP C K g₀ s₀ cenv Sl gZ)) (gY C K g₀ s₀ cenv Sl gn T gZ F) n s₁ (.compLoop e d (.ref I) .none cenv) (pure (.done .next)) fs s) :
    ∀ (k i j n : Nat) (s₁ : Shared) (gk : Heap) (s : Shared) (σ : Str → Option Value), N - i = k → i ≤ N → S i s.heap → (∀ b ∈ wr, gk.get? b = none) → O i j σ → n + j = T → GI C K g₀ s₀ cenv Sl s₁ gk s σ → Sub gA gk →
      Seg C.M A (gR (gP C K g₀ s₀ cenv Sl gZ)) (gY C K g₀ s₀ cenv Sl gn T gZ F) n s₁ (.compLoop e d (.ref I) .none cenv) (C.M.den (.compLoop e d (.ref I) .none cenv)) fs s := by
  intro k
  induction k with
  | zero =>
    intro i j n s₁ gk s σ hk hi hS hgw hO hn x up
    have hin : i = N := by omega
    subst hin
    rw [hden, Sem.onRaise_eq_wrap, hturn]
    refine seg_bind_wrap (wpAny_standAt ?_)
    refine seg_bind_wrap (W.done s _ _ hS fun h' tk hkeep => ?_)
    have f1 := x.fn.wr (t := tk) hkeep (fun b hb q => absurd q (hwx b hb)) hgw (fun b hb => .inr (hw0 b hb)) hwt (fun b hb q => hwl (q ▸ hb)) hwc
    exact hend n j s₁ gk _ σ hn hO ⟨f1, x.sl, ⟨x.ou.1, x.ou.2, x.ou.3⟩⟩ up
  | succ k ih =>
    intro i j n s₁ gk s σ hk hi hS hgw hO hn x up
    have hlt : i < N := by omega
    rw [hden, Sem.onRaise_eq_wrap, hturn]
    refine seg_bind_wrap (wpAny_standAt ?_)
    refine seg_bind_wrap (W.item i s _ _ hlt hS fun v h' tk hP hS' hkeep => ?_)
    have f1 := x.fn.wr (t := tk) hkeep (fun b hb q => absurd q (hwx b hb)) hgw (fun b hb => .inr (hw0 b hb)) hwt (fun b hb q => hwl (q ▸ hb)) hwc
    have hthere := W.there _ _ hS'
    have f4 := f1.add hw0 hwt hwx hwl hwc
    have upk : Sub gk (addL gk h' wr) := addL_up f1.st.sub
    have upA : Sub gA h' := fun b o e => f1.st.sub b o (up b o e)
    have hB : ∀ b ∈ Sl, (addL gA h' wr).get? b = none := fun b hb => addL_none (hA b hb) fun q => hwS b q hb
    have gi4 : GI C K g₀ s₀ cenv Sl s₁ (addL gk h' wr) { s with heap := h', toks := tk } σ := ⟨f4, fun b hb => by
      obtain ⟨o, e1, e2⟩ := x.sl b hb
      exact ⟨o, e1, upk b o e2⟩, ⟨x.ou.1, x.ou.2, x.ou.3⟩⟩
    have upB : Sub (addL gA h' wr) (addL gk h' wr) := fun b o e => by
      rw [addL_get] at e ⊢
      split at e
      · rename_i hc
        rw [Bool.or_eq_true] at hc
        have : ((gk.get? b).isSome || wr.contains b) = true := by
          rw [Bool.or_eq_true]
          rcases hc with hc | hc
          · obtain ⟨o', e'⟩ := Option.isSome_iff_exists.mp hc
            left; rw [up b o' e']; rfl
          · exact .inr hc
        rw [if_pos this]; exact e
      · cases e
    show Seg _ _ _ _ _ _ _ ((body v >>= fun _ => again (.compLoop e d (.ref I) .none cenv)).wrap _ _ id id) fs _
    rw [Sem.bind_eq_wrap', Sem.wrap_wrap]
    refine hbody i j v n s₁ _ _ _ σ _ _ hlt hP hO hn (addL_up upA) hB gi4 upB fun n' j' s₁' gk' s' σ' hn' hO' x' up' => ?_
    show Seg _ _ _ _ _ _ _ (.pure (.again (.compLoop e d (.ref I) .none cenv))) fs s'
    refine seg_again hq (ih (i + 1) j' n' s₁' (delL gk' wr) s' σ' (by omega) hlt ?_ (fun b hb => delL_in hb) hO' hn' ⟨x'.fn.weaken delL_sub fun b o e => ?_, fun b hb => ?_, x'.ou⟩ fun b o e => ?_)
    · refine W.frame _ _ _ hS' fun b hb o e => ?_
      by_cases hw : b ∈ wr
      · exact x'.fn.st.sub b o (up' b o (by rw [addL_in hw]; exact e))
      · rcases hfp b hb with hw' | ⟨o', ho'⟩
        · exact absurd hw' hw
        · have e1 := upA b o' ho'
          rw [e] at e1; cases e1
          exact x'.fn.st.sub b o (up' b o (addL_up upA b o ho'))
    · refine delL_ne (x'.fn.up b o e) fun q => ?_
      have := x'.fn.st₀.sub b o e
      rw [hw0 b q] at this; cases this
    · obtain ⟨o, e1, e2⟩ := x'.sl b hb
      exact ⟨o, e1, delL_ne e2 fun q => hwS b q hb⟩
    · refine delL_ne (up' b o (addL_up upA b o e)) fun q => ?_
      rw [hwA b q] at e; cases e
end
end Mine
end
section
open PySem PySem.W PySem.Calls PyProof.Rows PySem.Spec PySem.NumText Builtin Builtin.Str
set_option Elab.async false
set_option maxRecDepth 100000
set_option maxHeartbeats 0
set_option pp.deepTerms false
set_option pp.deepTerms.threshold 2
namespace Mine
variable {C : Cfg} {K : Frag}

theorem turnG_last {elt target iter : Expr} {gens : List Comprehension} {scope : Scope} {pos : Pos} {d : Nat} {it acc : Value} {env : Env} (h1 : gens[d]? = some ⟨target, iter, [], 0⟩) (h2 : gens[d + 1]? = none) :
    compTurn (.GeneratorExp elt gens scope pos) d it acc env = (standAt iter.pos >>= fun _ => pyNext it >>= fun r => match r with
      | none => pure (.done .next)
      | some v => (letOwnedTupleGo target it v >>= fun _ => assign target env v >>= fun _ => (eval elt env >>= fun y => standAt elt.pos >>= fun _ => yieldOut env y >>= fun _ => pure ())) >>= fun _ =>
        again (.compLoop (.GeneratorExp elt gens scope pos) d it acc env)) := by
  unfold compTurn
  simp only [h1, h2, bne_self_eq_false, Bool.false_eq_true, if_false]
  congr 1; funext _; congr 1; funext r
  cases r with
  | none => rfl
  | some v => simp [bind_assoc]
theorem turnG_mid {elt target iter target2 iter2 : Expr} {gens : List Comprehension} {scope : Scope} {pos : Pos} {d : Nat} {it acc : Value} {env : Env} (h1 : gens[d]? = some ⟨target, iter, [], 0⟩) (h2 : gens[d + 1]? = some ⟨target2, iter2, [], 0⟩) :
    compTurn (.GeneratorExp elt gens scope pos) d it acc env = (standAt iter.pos >>= fun _ => pyNext it >>= fun r => match r with
      | none => pure (.done .next)
      | some v => (letOwnedTupleGo target it v >>= fun _ => assign target env v >>= fun _ => (eval iter2 env >>= fun x => standAt iter2.pos >>= fun _ => foldedSetIterable iter2 env x >>= fun x => holding [x] (pyIter x) >>= fun it2 =>
          runOwn (.compStart (.GeneratorExp elt gens scope pos) (d + 1) it2 acc env) env >>= fun _ => pure ())) >>= fun _ =>
        again (.compLoop (.GeneratorExp elt gens scope pos) d it acc env)) := by
  unfold compTurn
  simp only [h1, h2, bne_self_eq_false, Bool.false_eq_true, if_false]
  congr 1; funext _; congr 1; funext r
  cases r with
  | none => rfl
  | some v => simp [bind_assoc]

section
variable {A : Around} {g₀ gA gk : Heap} {s₀ s₁ s : Shared} {cenv : Env} {σ : Str → Option Value} {R : GenEnd} {Y : Protocol}
theorem seg_startG {elt target iter : Expr} {gens : List Comprehension} {scope : Scope} {pos : Pos} {d n : Nat} {I : Addr} {fs : List Frame} {H : Value → Sem Unit} (h1 : gens[d]? = some ⟨target, iter, [], 0⟩)
    (hden : C.M.den (.compStart (.GeneratorExp elt gens scope pos) d (.ref I) .none cenv) = (compStart (.GeneratorExp elt gens scope pos) d (.ref I) .none cenv).onRaise H)
    (self : ∀ (Q : Value → Shared → Prop) (E : Value → Shared → Prop), Q (.ref I) s → wpAny C.M (A.over (.compStart (.GeneratorExp elt gens scope pos) d (.ref I) .none cenv) fs) (pyIter (.ref I)) Q E s)
    (hq : (Code.compLoop (.GeneratorExp elt gens scope pos) d (.ref I) .none cenv).quiet = true)
    (loop : Seg C.M A R Y n s₁ (.compLoop (.GeneratorExp elt gens scope pos) d (.ref I) .none cenv) (C.M.den (.compLoop (.GeneratorExp elt gens scope pos) d (.ref I) .none cenv)) fs s) :
    Seg C.M A R Y n s₁ (.compStart (.GeneratorExp elt gens scope pos) d (.ref I) .none cenv) (C.M.den (.compStart (.GeneratorExp elt gens scope pos) d (.ref I) .none cenv)) fs s := by
  rw [hden, Sem.onRaise_eq_wrap]
  unfold compStart
  have hc : clausesOf (.GeneratorExp elt gens scope pos) = gens := rfl
  simp only [hc, h1, Option.elim_some, bne_self_eq_false, Bool.false_eq_true, if_false]
  refine seg_bind_wrap (wpAny_askSetting ?_)
  split
  · exact seg_again hq loop
  · refine seg_bind_wrap (wpAny_rule ?_)
    refine seg_bind_wrap (wpAny_standAt ?_)
    refine seg_bind_wrap (self _ _ ?_)
    exact seg_again hq loop

/-- a clause's iterator, ready to go, for whoever asks -/
def ItG (C : Cfg) (g : Heap) (s : Shared) (g₂ : Heap) (s₂ : Shared) (I : Addr) (n : Nat) (P : Nat → Value → Prop) (Sl : List Addr) : Prop :=
  ∃ fp wr S, (∀ A' : Around, A'.handled = none → Wk C A' I fp wr n (fun i v _ => P i v) S) ∧ S 0 s₂.heap ∧ (∀ b ∈ wr, g₂.get? b = none ∧ s.heap.get? b = none) ∧ (∀ b ∈ fp, b ∈ wr ∨ ((∃ o, g₂.get? b = some o) ∧ b ∉ Sl)) ∧ Gr C g s g₂ s₂

/-- a clause within a clause -/
theorem seg_nest {e : Expr} {d : Nat} {x1 : Str} {p1 : Pos} {iter2 : Expr} {I : Addr} {v : Value} {fs : List Frame} {c : Code} {K' : Unit → Sem Fin} {H : Value → Sem Fin} {n : Nat} {Sl : List Addr}
    (hx : cenv.kindOf x1 = some .local) (hcells : cellsOk cenv = true) (hs2 : ∀ x, foldedSetIterable iter2 cenv x = pure x)
    (x0 : GI C K g₀ s₀ cenv Sl s₁ gk s σ)
    (hiter : ∀ s' E', GI C K g₀ s₀ cenv Sl s₁ gk s' (fun y => if y = x1 then some v else σ y) → wpAny C.M (A.over c fs) (eval iter2 cenv) (fun xv s₂ => wpAny C.M (A.over c fs) (pyIter xv) (fun it s₃ => ∃ J, it = .ref J ∧
      ∀ kk p, kk (.ok .next) = K' () → Seg C.M A R Y n s₁ (.compStart e (d + 1) (.ref J) .none cenv) (C.M.den (.compStart e (d + 1) (.ref J) .none cenv)) (.ret kk none false [] c p [] :: fs) s₃) E' s₂) E' s') :
    Seg C.M A R Y n s₁ c
      ((letOwnedTupleGo (.Name x1 p1) (.ref I) v >>= fun _ => assign (.Name x1 p1) cenv v >>= fun _ => (eval iter2 cenv >>= fun x => standAt iter2.pos >>= fun _ => foldedSetIterable iter2 cenv x >>= fun x => holding [x] (pyIter x) >>= fun it2 =>
          runOwn (.compStart e (d + 1) it2 .none cenv) cenv >>= fun _ => pure ())).wrap K' H id id) fs s := by
  refine seg_bind_wrap (wpAny_of_eq (show letOwnedTupleGo (.Name x1 p1) (.ref I) v = pure () from rfl) ?_)
  refine seg_bind_wrap ?_
  show wpAny _ _ (do standAt p1; bindName cenv x1 v) _ _ _
  refine wpAny_bind (wpAny_standAt (wpAny_bindName (storeLocal x0.fn hx hcells fun h1 f1 hs1 => ?_)))
  refine seg_bind_wrap (wpAny_mono (hiter _ _ ⟨f1, x0.sl, ⟨x0.ou.1, x0.ou.2, x0.ou.3⟩⟩) (fun xv s2 h2 => ?_) fun _ _ e => e)
  refine seg_bind_wrap (wpAny_standAt ?_)
  refine seg_bind_wrap (wpAny_of_eq (hs2 xv) ?_)
  refine seg_bind_wrap (wpAny_holding (wpAny_mono h2 (fun it s3 h3 => ?_) fun _ _ e => e))
  obtain ⟨J, rfl, h3⟩ := h3
  exact seg_call fun p => h3 _ p rfl
end
end Mine
end
section
open PySem PySem.W PySem.Calls PyProof.Rows PySem.Spec PySem.NumText Builtin Builtin.Str
set_option Elab.async false
set_option maxRecDepth 100000
set_option maxHeartbeats 0
set_option linter.unusedVariables false
set_option pp.deepTerms false
set_option pp.deepTerms.threshold 2
namespace Mine
variable {C : Cfg} {K : Frag}

section
variable {g₀ gk gA : Heap} {s₀ s₁ s s'' : Shared} {cenv env : Env} {σ : Str → Option Value} {Sl : List Addr} {gn : Nat}

theorem setGen_other {s : Shared} {g k : Nat} {x : GenState} (h : k ≠ g) : (s.setGen g x).gens[k]? = s.gens[k]? := (GenOnly.setGen s g x).2 k h
theorem setGen_bare {s : Shared} {g : Nat} {x : GenState} (hs : AllBare s.gens) (hx : x.bare = true) : AllBare (s.setGen g x).gens := by
  intro y hy
  obtain ⟨i, hi, rfl⟩ := Array.mem_iff_getElem.mp hy
  by_cases q : i = g
  · subst q
    simp only [Shared.setGen, Array.getElem_setIfInBounds_self]; exact hx
  · have e := setGen_other (s := s) (x := x) q
    rw [Array.getElem?_eq_getElem hi] at e
    obtain ⟨hi', e'⟩ := Array.getElem?_eq_some_iff.mp e.symm
    exact e' ▸ hs _ (Array.getElem_mem hi')
theorem Fn.setGen (f : Fn C K g₀ s₀ env gk s σ) (hg : s₀.gens[gn]? = none) {x : GenState} (hx : x.bare = true) : Fn C K g₀ s₀ env gk (s.setGen gn x) σ where
  st := ⟨f.st.sub, f.st.gt, f.st.ge, f.st.exs, f.st.tab, setGen_bare f.st.gens hx, f.st.kin, f.st.top⟩
  loc := f.loc
  up := f.up
  keep := f.keep
  fresh := f.fresh
  os := ⟨f.os.os, f.os.dr, fun k z e => by rw [setGen_other (fun q => by rw [q, hg] at e; cases e)]; exact f.os.gk k z e⟩
  exo := f.exo
  st₀ := f.st₀
  own := f.own
  ownC := f.ownC
  gC := f.gC
  apart := f.apart
  apartL := f.apartL
  fn := f.fn
  gl := f.gl
  bl := f.bl

theorem Per.refl (h : ∀ b ∈ Sl, ∃ o, s.heap.get? b = some o) : Per gn Sl s s := ⟨fun _ _ _ e => e, h, rfl, rfl, fun _ _ _ e => e, fun x => x⟩
theorem Per.run (h : ∀ b ∈ Sl, ∃ o, s.heap.get? b = some o) : Per gn Sl s (s.setGen gn .running) := ⟨fun _ _ _ e => e, h, rfl, rfl, fun k x hk e => by rw [setGen_other hk]; exact e, fun x => setGen_bare x rfl⟩
theorem Per.trans {s' : Shared} (p : Per gn Sl s s') (q : Per gn Sl s' s'') : Per gn Sl s s'' := ⟨fun b hb o e => q.keep b hb o (p.keep b hb o e), q.sl, q.os.trans p.os, q.dr.trans p.dr, fun k x hk e => q.gens k x hk (p.gens k x hk e), fun x => q.bare (p.bare x)⟩
theorem Per.of_set {x : GenState} (hx : x.bare = true) (q : Per gn Sl (s.setGen gn x) s'') : Per gn Sl s s'' := ⟨q.keep, q.sl, q.os, q.dr, fun k y hk e => q.gens k y hk (by rw [setGen_other hk]; exact e), fun y => q.bare (setGen_bare y hx)⟩
end

/-- a generator that waits, j of its T values handed out; its consumer fills the places Sl -/
structure GenAt (C : Cfg) (K : Frag) (g₀ : Heap) (s₀ : Shared) (cenv : Env) (Sl : List Addr) (gn T : Nat) (gZ : Heap) (F : Nat → Value → Prop) (Ag : Around) (a : Addr) (j : Nat) (s : Shared) : Prop where
  fn : ∃ gk σ, Fn C K g₀ s₀ cenv gk s σ ∧ Sub gZ gk ∧ ∀ b ∈ Sl, ∃ o, gk.get? b = some o
  gen : gZ.IsGen a gn
  zs : ∀ b ∈ Sl, gZ.get? b = none
  ok : SlOk C s₀ cenv Sl gn
  go : ∃ gs, s.gens[gn]? = some gs ∧ ∀ s'', Per gn Sl s s'' → gs.Goes C.M Ag (gR (gP C K g₀ s₀ cenv Sl gZ)) (gY C K g₀ s₀ cenv Sl gn T gZ F) (T - j) (.send .none) s''

section
variable {A : Around} {E : Value → Shared → Prop} {g₀ gZ : Heap} {s₀ s s'' : Shared} {cenv : Env} {Sl : List Addr} {gn T j : Nat} {F : Nat → Value → Prop} {a : Addr} {Ag : Around}

theorem GenAt.sl (x : GenAt C K g₀ s₀ cenv Sl gn T gZ F Ag a j s) : ∀ b ∈ Sl, ∃ o, s.heap.get? b = some o := fun b hb => let ⟨gk, σ, f, _, h⟩ := x.fn; let ⟨o, e⟩ := h b hb; ⟨o, f.st.sub b o e⟩
theorem GenAt.isGen (x : GenAt C K g₀ s₀ cenv Sl gn T gZ F Ag a j s) : s.heap.IsGen a gn := let ⟨gk, σ, f, up, _⟩ := x.fn; x.gen.keeps fun b o e => f.st.sub b o (up b o e)
theorem GenAt.per (x : GenAt C K g₀ s₀ cenv Sl gn T gZ F Ag a j s) (p : Per gn Sl s s'') (hg : s''.gens = s.gens) : GenAt C K g₀ s₀ cenv Sl gn T gZ F Ag a j s'' where
  fn := by
    obtain ⟨gk, σ, f, up, hs⟩ := x.fn
    have gi : GI C K g₀ s₀ cenv Sl s gk s σ := ⟨f, fun b hb => let ⟨o, e⟩ := hs b hb; ⟨o, f.st.sub b o e, e⟩, ⟨rfl, rfl, fun _ _ e => e⟩⟩
    have r := gi.resume x.ok p
    exact ⟨_, σ, r.fn, gi.resume_up p up x.zs, fun b hb => let ⟨o, _, e⟩ := r.sl b hb; ⟨o, e⟩⟩
  gen := x.gen
  zs := x.zs
  ok := x.ok
  go := let ⟨gs, h1, h2⟩ := x.go; ⟨gs, by rw [hg]; exact h1, fun s3 q => h2 s3 (p.trans q)⟩

theorem gen_next {Q : Option Value → Shared → Prop} (hh : A.handled = none) (hroom : A.depth < recursionLimit) (x : GenAt C K g₀ s₀ cenv Sl gn T gZ F A.in1 a j s) (hj : j < T)
    (hq : ∀ v s', F j v → GenAt C K g₀ s₀ cenv Sl gn T gZ F A.in1 a (j + 1) s' → (∀ b ∈ Sl, ∀ o, s.heap.get? b = some o → s'.heap.get? b = some o) → Q (some v) s') : wpAny C.M A (pyNext (.ref a)) Q E s := by
  obtain ⟨gs, hgs, hgo⟩ := x.go
  have hl : s.heap.NoLimit := let ⟨gk, σ, f, _⟩ := x.fn; f.st.top.nolimit.keeps f.st.sub
  obtain ⟨m, hm⟩ : ∃ m, T - j = m + 1 := ⟨T - j - 1, by omega⟩
  have go1 := hgo _ (Per.run x.sl)
  rw [hm] at go1
  refine wpAny_pyNext_genexpQ hh hl hroom x.isGen hgs go1 (fun v s₁ gs' hb hv => ?_) (fun s₁ hp h' hk => ?_)
  · obtain ⟨hF, ⟨gk, σ, gi, upz⟩, hkap⟩ := hv
    have e1 : T - 1 - (m + 1 - 1) = j := by omega
    rw [e1] at hF
    refine hq v _ hF ⟨⟨gk, σ, gi.fn.setGen x.ok.hg hb, upz, fun b hb' => let ⟨o, _, e⟩ := gi.sl b hb'; ⟨o, e⟩⟩, x.gen, x.zs, x.ok, gs', setGen_self (gs := .running) (gi.ou.gk gn _ (setGen_self hgs)), fun s3 p => ?_⟩ fun b hb' o e => ?_
    · have e2 : T - (j + 1) = m := by omega
      rw [e2]
      exact hkap s3 (p.of_set hb)
    · obtain ⟨o', e3, e4⟩ := gi.sl b hb'
      have e5 : s.heap.get? b = some o' := e3
      rw [e] at e5; cases e5
      exact gi.fn.st.sub b o e4
  · exact absurd hp.1 (Nat.succ_ne_zero m)

theorem gen_done {Q : Option Value → Shared → Prop} (hh : A.handled = none) (hroom : A.depth < recursionLimit) (x : GenAt C K g₀ s₀ cenv Sl gn T gZ F A.in1 a T s)
    (hq : ∀ s' gk σ, Fn C K g₀ s₀ cenv gk s' σ → Sub gZ gk → (∀ b ∈ Sl, ∃ o, gk.get? b = some o ∧ s.heap.get? b = some o) → Q none s') : wpAny C.M A (pyNext (.ref a)) Q E s := by
  obtain ⟨gs, hgs, hgo⟩ := x.go
  have hl : s.heap.NoLimit := let ⟨gk, σ, f, _⟩ := x.fn; f.st.top.nolimit.keeps f.st.sub
  have go1 := hgo _ (Per.run x.sl)
  rw [Nat.sub_self] at go1
  refine wpAny_pyNext_genexpQ hh hl hroom x.isGen hgs go1 (fun v s₁ gs' hb hv => ?_) (fun s₁ hp h' hk => ?_)
  · obtain ⟨hF, ⟨gk, σ, gi, upz⟩, hkap⟩ := hv
    exact (hkap s₁ (Per.refl fun b hb => let ⟨o, _, e⟩ := gi.sl b hb; ⟨o, gi.fn.st.sub b o e⟩)).elim
  · obtain ⟨_, gk, σ, gi, upz⟩ := hp
    have f1 := gi.fn.setGen x.ok.hg (x := .finished) rfl
    have f2 := f1.ext (S := s₁.setGen gn .finished) rfl (h' := h') hk s₁.toks
    exact hq _ gk σ f2 upz fun b hb => let ⟨o, e1, e2⟩ := gi.sl b hb; ⟨o, e2, e1⟩

/-- a generator just made -/
structure GenFresh (C : Cfg) (K : Frag) (g₀ : Heap) (s₀ : Shared) (cenv : Env) (gn T : Nat) (gZ : Heap) (F : Nat → Value → Prop) (n0 : Nat) (a : Addr) (s : Shared) : Prop where
  fn : ∃ gk σ, Fn C K g₀ s₀ cenv gk s σ ∧ Sub gZ gk
  gen : gZ.IsGen a gn
  hg : s₀.gens[gn]? = none
  go : ∀ Sl Ag, Room Ag (n0 + 2) → SlOk C s₀ cenv Sl gn → (∀ b ∈ Sl, s.heap.get? b = none) → ∃ gs, s.gens[gn]? = some gs ∧ ∀ s'', Per gn Sl s s'' → gs.Goes C.M Ag (gR (gP C K g₀ s₀ cenv Sl gZ)) (gY C K g₀ s₀ cenv Sl gn T gZ F) T (.send .none) s''

theorem GenFresh.toAt {n0 : Nat} {h' : Heap} {tk : Nat} (x : GenFresh C K g₀ s₀ cenv gn T gZ F n0 a s) (hR : Room Ag (n0 + 2)) (hS : ∀ b ∈ Sl, s.heap.get? b = none ∧ ∃ o, h'.get? b = some o) (hk : Sub s.heap h') :
    GenAt C K g₀ s₀ cenv Sl gn T gZ F Ag a 0 { s with heap := h', toks := tk } := by
  obtain ⟨gk, σ, f, up⟩ := x.fn
  have ok : SlOk C s₀ cenv Sl gn := {
    h0 := fun b hb => by
      cases q : s₀.heap.get? b with
      | none => rfl
      | some o =>
        exfalso
        have hsb := (hS b hb).1
        by_cases ht : b ∈ C.ts
        · obtain ⟨ps, hp, _⟩ := f.st.tab b ht; rw [hsb] at hp; cases hp
        · by_cases hx : b ∈ C.ex
          · obtain ⟨o', e'⟩ := f.st.exs b hx; rw [hsb] at e'; cases e'
          · have := f.keep b o ht hx q; rw [hsb] at this; cases this
    ht := fun b hb q => by obtain ⟨ps, hp, _⟩ := f.st.tab b q; rw [(hS b hb).1] at hp; cases hp
    hx := fun b hb q => by obtain ⟨o', e'⟩ := f.st.exs b q; rw [(hS b hb).1] at e'; cases e'
    hl := fun q => by
      obtain ⟨m, ⟨o, _, _, ho, _⟩, _⟩ := f.loc.ns
      rw [(hS _ q).1] at ho; cases ho
    hc := fun b hb n q => by
      obtain ⟨o, ho, _⟩ := f.loc.cell n b q
      rw [(hS b hb).1] at ho; cases ho
    hg := x.hg }
  have gkn : ∀ b ∈ Sl, gk.get? b = none := fun b hb => none_of_sub f.st.sub (hS b hb).1
  have f1 := f.ext (S := s) rfl hk tk
  have f2 := f1.add ok.h0 ok.ht ok.hx ok.hl ok.hc
  obtain ⟨gs, h1, h2⟩ := x.go Sl Ag hR ok fun b hb => (hS b hb).1
  refine ⟨⟨_, σ, f2, fun b o e => addL_up f1.st.sub b o (up b o e), fun b hb => ?_⟩, x.gen, fun b hb => none_of_sub up (gkn b hb), ok, gs, h1, fun s'' p => ?_⟩
  · obtain ⟨o, e⟩ := (hS b hb).2
    exact ⟨o, by rw [addL_in hb]; exact e⟩
  · rw [Nat.sub_zero]
    exact h2 s'' ⟨fun b hb o e => p.keep b hb o (hk b o e), p.sl, p.os, p.dr, p.gens, p.bare⟩

theorem GenAt.gk {S : Addr} (hh : A.handled = none) (hroom : A.depth < recursionLimit) (hne : S ≠ a) :
    Gk C.prog C.w A a S T F (GenAt C K g₀ s₀ cenv [S] gn T gZ F A.in1 a) (fun s' => ∃ gk σ, Fn C K g₀ s₀ cenv gk s' σ ∧ Sub gZ gk ∧ ∃ o, gk.get? S = some o) where
  ne := hne
  gen := fun i s x => x.isGen.typeIs
  frame := fun i s h' tk x hk hS => x.per (s'' := { s with heap := h', toks := tk }) ⟨fun b hb o e => hk b (fun q => hb (by simp [q])) o e, fun b hb => by rw [List.mem_singleton.mp hb]; exact hS, rfl, rfl, fun _ _ _ e => e, fun x => x⟩ rfl
  item := fun i s Q E hi x hq => gen_next hh hroom x hi fun v s' hF x' hs => hq v s' hF x' fun o e => hs S (by simp) o e
  done := fun s Q E x hq => gen_done hh hroom x fun s' gk σ f up hs => hq s' ⟨gk, σ, f, up, let ⟨o, e, _⟩ := hs S (by simp); ⟨o, e⟩⟩ fun o e => by
    obtain ⟨o', e1, e2⟩ := hs S (by simp)
    rw [e] at e2; cases e2
    exact f.st.sub _ _ e1
  self := fun i s Q E x hq => wpAny_pyIter_gen x.isGen hq
end
end Mine
end
section
open PySem PySem.W PySem.Calls PyProof.Rows PySem.Spec PySem.NumText Builtin Builtin.Str
set_option Elab.async false
set_option maxRecDepth 100000
set_option maxHeartbeats 0
set_option linter.unusedVariables false
set_option pp.deepTerms false
set_option pp.deepTerms.threshold 2
namespace Mine
variable {C : Cfg} {K : Frag}

section
variable {M : Model} {A : Around} {E : Value → Shared → Prop} {g g₂ : Heap} {s s₂ : Shared} {env : Env} {σ : Str → Option Value}

/-- the code record of a generator expression is found or made -/
theorem genCodeT {c P : Addr} {pos : Pos} {qn : Str} {scope : Scope} {Q : Value → Shared → Prop} (st : St C K g s) (hc : env.code = .ref c) (hK : codeHdIn K c P = true) (hP : P ∈ C.ts)
    (h : ∀ code h' tk, Gr C g s g { s with heap := h', toks := tk } → Q code { s with heap := h', toks := tk }) : wpAny M A (genexprCode env pos qn scope) Q E s := by
  obtain ⟨ps, hp, ht⟩ := st.tab P hP
  have CH := codeHd_of_K (st.kin.keeps st.sub) hK
  cases hf : codeAmong pos ps.toList with
  | some cv => exact wpAny_genexprCode_hit hc (CH.code hp ht) hf (h cv s.heap s.toks (Gr.refl st))
  | none =>
    refine wpAny_genexprCodeX hc (CH.code hp ht) (CH.tab hp) hf fun c' h' tk hx _ _ hic _ hta _ => ?_
    have tabP : TabAt h' P := ⟨_, hta.2, by
      obtain ⟨o, vs, file, tf, flags, tg, inF, text, tt, op, _, _, _, _, _, _, _, _, _, htr, _⟩ := hic
      exact htr⟩
    refine h _ h' tk ⟨fun _ _ e => e, fun b o e => hx b o (fun q => by rw [q, st.gt P hP] at e; cases e) (st.sub b o e), fun b o hb _ e => hx b o (fun q => hb (q ▸ hP)) e, fun b hb o e => ?_, fun _ _ e _ => e, fun P' hP' => ?_, st.gens, ⟨rfl, rfl, fun _ _ e => e⟩, fun _ _ e => e⟩
    · by_cases q : b = P
      · subst q; exact ⟨_, hta.2⟩
      · exact ⟨o, hx b o q e⟩
    · by_cases q : P' = P
      · subst q; exact tabP
      · obtain ⟨ps', a, b⟩ := st.tab P' hP'
        exact ⟨ps', hx P' _ q a, b⟩

theorem eval_GenN (elt target iter : Expr) (rest : List Comprehension) (scope : Scope) (pos : Pos) (env : Env) (hco : scope.isCoroutine = false) :
    eval (.GeneratorExp elt (⟨target, iter, [], 0⟩ :: rest) scope pos) env = (do
      let x ← eval iter env
      standAt iter.pos
      let x ← genFold iter env x
      let it ← holding [x] (pyIter x)
      enterFrame
      let cl ← closureFor scope env
      let code ← genexprCode env pos (env.qual ++ "<genexpr>") scope
      let bi ← builtinsFor env.globals env.builtins
      let cenv ← newFunctionEnv scope env.globals cl [(".0", it)] (env.qual ++ "<genexpr>.") none code none bi
      newGenerator (.compStart (.GeneratorExp elt (⟨target, iter, [], 0⟩ :: rest) scope pos) 0 it .none cenv) "<genexpr>" (env.qual ++ "<genexpr>")) := by
  rw [arm_eval_GeneratorExp]
  simp only [hco, Bool.false_eq_true, if_false]
  cases iter <;> rfl

/-- the generator's frame: what its names are at its start -/
def σg (cl : List (Str × Addr)) (I : Addr) (σ : Str → Option Value) : Str → Option Value := fun y => if y = ".0" then some (.ref I) else σc cl σ y

/-- a generator expression is evaluated: its frame stands ready -/
theorem genMake {elt target iter : Expr} {rest : List Comprehension} {scope : Scope} {cl : List (Str × Addr)} {pos : Pos} {c P : Addr} {Q : Value → Shared → Prop} (f : View C K env g s σ) (hh : A.handled = none) (hroom : A.depth < recursionLimit)
    (hc : env.code = .ref c) (hK : codeHdIn K c P = true) (hP : P ∈ C.ts)
    (h : wpAny M A (eval iter env) (fun xv s₁ => wpAny M A (pyIter xv) (fun it s₂ => ∃ I g₂ fp wr n, ∃ (PP : Nat → Value → Prop) (S : Nat → Heap → Prop), it = .ref I ∧ Gr C g s g₂ s₂ ∧ (∀ A' : Around, A'.handled = none → Wk C A' I fp wr n (fun i v _ => PP i v) S) ∧ S 0 s₂.heap ∧
      (∀ b ∈ wr, g₂.get? b = none ∧ s.heap.get? b = none) ∧ (∀ b ∈ fp, b ∈ wr ∨ ∃ o, g₂.get? b = some o) ∧
      ∀ L a gn code gZ s5, Fn C K g s (genEnv scope cl L code builtinsNs env) gZ s5 (σg cl I σ) → Sub g₂ gZ → gZ.IsGen a gn → s.gens[gn]? = none → S 0 s5.heap → (∀ b ∈ wr, gZ.get? b = none) → (∀ b ∈ wr, s.heap.get? b = none ∧ ∃ o, s5.heap.get? b = some o) → L ∉ fp → (∀ b ∈ wr, b < L) →
        s5.gens[gn]? = some (.fresh (.compStart (.GeneratorExp elt (⟨target, iter, [], 0⟩ :: rest) scope pos) 0 (.ref I) .none (genEnv scope cl L code builtinsNs env))) → Q (.ref a) s5) E s₁) E s)
    (hcl : clFrom env.cells scope.names [] = some cl := by rfl) (hcell : ∀ y ∈ scope.names, y.2 ≠ .cell := by decide) (hkind : scope.kind = .function := by rfl) (h0 : scope.names.lookup (".0" : Str) = some NameKind.local := by rfl) (hco : scope.isCoroutine = false := by rfl)
    (hlook : ∀ L code, cellsOk (genEnv scope cl L code builtinsNs env) = true := by intro _ _; rfl)
    (hs : ∀ x, genFold iter env x = pure x := by intro _; rfl) :
    wpAny M A (eval (.GeneratorExp elt (⟨target, iter, [], 0⟩ :: rest) scope pos) env) Q E s := by
  rw [eval_GenN _ _ _ _ _ _ _ hco, closureFor_eq hcl]
  refine wpAny_bind (wpAny_mono h (fun xv s₁ h₁ => ?_) fun _ _ e => e)
  refine wpAny_bind (wpAny_standAt ?_)
  refine wpAny_bind (wpAny_of_eq (hs xv) ?_)
  refine wpAny_bind (wpAny_holding (wpAny_mono h₁ (fun it s₂ h₂ => ?_) fun _ _ e => e))
  obtain ⟨I, g₂, fp, wr, n, PP, S, rfl, G, W, hS, hwr, hfp, hQ⟩ := h₂
  have st2 := G.st f.st
  refine wpAny_bind (wpAny_enterFrame (st2.top.nolimit.keeps st2.sub) hroom ?_)
  refine wpAny_bind (wpAny_pure ?_)
  refine wpAny_bind (genCodeT st2 hc hK hP fun code h3 tk3 G3 => ?_)
  generalize hs3 : ({ s₂ with heap := h3, toks := tk3 } : Shared) = s3 at G3 ⊢
  have st3 := G3.st st2
  obtain ⟨bm, ob, b1, b2, b3, b4, b5, b6⟩ := st3.top.bmain
  rw [f.gl]
  refine wpAny_bind (wpAny_builtinsFor (st3.top.g.keeps st3.sub) b1 b2 (st3.sub _ _ b3) b4 b5 b6 ?_)
  have hbinds : ∀ y ∈ ([((".0" : Str), Value.ref I)] : List (Str × Value)), scope.names.lookup y.1 = some NameKind.local := by
    intro y hy
    rcases List.mem_cons.mp hy with rfl | hy
    · exact h0
    · cases hy
  refine wpAny_bind (wpAny_newFunctionEnv hcell hbinds (fun h' hn' hs' => ?_) hkind)
  have e : (fun y : Str => ([((".0" : Str), Value.ref I)] : List (Str × Value)).reverse.lookup y) = fun y : Str => if y = (".0" : Str) then some (.ref I) else none := by
    funext y
    by_cases hy : y = ".0"
    · subst hy; simp
    · have : (y == (".0" : Str)) = false := by simpa using hy
      simp [List.lookup, this, hy]
  rw [e] at hn'
  simp only [newGenerator, newFields]
  refine wpAny_bind (wpAny_newGen (wpAny_bind (wpAny_mkText (wpAny_bind (wpAny_mkText (wpAny_newObj_type ?_ (by size_fits)))))))
  have GG : Gr C g s g₂ s3 := G.trans G3
  have hL : h'.objs.size = s3.heap.objs.size + 1 := by rw [hs'.1, Heap.size_push]
  have keep5 : ∀ o5, Sub s3.heap (h'.push o5) := fun o5 b o e => Heap.get?_push_of_some _ (hs'.extBut b o (Nat.ne_of_lt (Heap.lt_size e)) (Heap.get?_push_of_some _ e))
  have henv : genEnv scope cl s3.heap.objs.size code builtinsNs env = { scope, locals := s3.heap.objs.size, globals := mainGlobals, cells := cl, qual := env.qual ++ "<genexpr>.", func := none, code, frame := some s3.heap.objs.size, builtins := builtinsNs } := by
    unfold genEnv; rw [f.gl]
  have hgen5 : ∀ nm qn, (h'.push { cls := .type "generator", data := .fields #[.int s3.gens.size 0, nm, qn] }).IsGen h'.objs.size s3.gens.size := fun nm qn => ⟨_, nm, qn, Heap.get?_push_size _ rfl, rfl, rfl, rfl⟩
  generalize hO : (({ cls := .type "generator", data := .fields #[.int s3.gens.size 0, .str "<genexpr>" (s3.toks + 1), .str (env.qual ++ "<genexpr>") (s3.toks + 1 + 1)] }) : Obj) = o5
  have hfr3 : ∀ b, s3.heap.objs.size ≤ b → s3.heap.get? b = none := fun b hb => Heap.get?_none_of_le hb
  have freshS : ∀ a, s3.heap.objs.size ≤ a → s.heap.get? a = none := fun a ha => by
    cases q : s.heap.get? a with
    | none => rfl
    | some o =>
      exfalso
      by_cases hb : a ∈ C.ts
      · obtain ⟨ps, hp, _⟩ := GG.tab a hb
        rw [hfr3 a ha] at hp; cases hp
      · by_cases hx : a ∈ C.ex
        · obtain ⟨o', e'⟩ := GG.exk a hx o q
          rw [hfr3 a ha] at e'; cases e'
        · have := GG.keep a o hb hx q
          rw [hfr3 a ha] at this; cases this
  have freshG : ∀ a, s3.heap.objs.size ≤ a → g₂.get? a = none := fun a ha => none_of_sub GG.sub (hfr3 a ha)
  have hlk : ∀ {n c}, cl.lookup n = some c → env.cells.lookup n = some c := fun e => clFrom_lookup hcl e
  have hs3g : s3.gens = s₂.gens := by rw [← hs3]
  have hgn : s.gens[s3.gens.size]? = none := by
    cases q : s.gens[s3.gens.size]? with
    | none => rfl
    | some x =>
      have := GG.os.gk _ x q
      rw [Array.getElem?_eq_none (Nat.le_refl _)] at this; cases this
  have k5 := keep5 o5
  have hLkeep : ∀ o, h'.get? s3.heap.objs.size = some o → (h'.push o5).get? s3.heap.objs.size = some o := fun o e => Heap.get?_push_of_some _ e
  have fn5 : Fn C K g s (genEnv scope cl s3.heap.objs.size code builtinsNs env) g₂ { s3 with gens := s3.gens.push (.fresh (.compStart (.GeneratorExp elt (⟨target, iter, [], 0⟩ :: rest) scope pos) 0 (.ref I) .none (genEnv scope cl s3.heap.objs.size code builtinsNs env))), toks := s3.toks + 1 + 1 + 1, heap := h'.push o5 } (σg cl I σ) := {
    st := ⟨fun b o e => k5 b o (GG.sub b o e), st3.gt, st3.ge, fun b hb => let ⟨o, e⟩ := st3.exs b hb; ⟨o, k5 b o e⟩, fun P hP => (GG.tab P hP).keeps k5, st3.gens.push rfl, st3.kin, st3.top⟩
    loc := ⟨⟨_, hn'.push _, fun x hx => by
      have h1 : (cl.lookup x) = none := by
        cases q : cl.lookup x with
        | none => rfl
        | some c =>
          have := List.all_eq_true.mp (hlook s3.heap.objs.size code) _ (mem_of_lookup q)
          simp only [hx] at this; cases this
      show (if x = (".0" : Str) then some (Value.ref I) else none) = σg cl I σ x
      unfold σg σc; rw [h1]; rfl⟩, fun x c e => by
      have e' : cl.lookup x = some c := e
      have hx0 : x ≠ ".0" := fun q => by
        have := List.all_eq_true.mp (hlook s3.heap.objs.size code) _ (mem_of_lookup e')
        rw [q] at this
        have hk0 : (genEnv scope cl s3.heap.objs.size code builtinsNs env).kindOf ".0" = some .local := h0
        simp only [hk0] at this; cases this
      obtain ⟨o, ho, hd⟩ := f.loc.cell x c (hlk e')
      refine ⟨o, k5 _ _ (GG.keep c o (f.notTab (.inr ⟨x, hlk e'⟩)) (f.notEx (.inr ⟨x, hlk e'⟩)) ho), ?_⟩
      rw [hd]; unfold σg σc; rw [e', if_neg hx0]; rfl⟩
    up := GG.up
    keep := fun b o hb hx e => k5 b o (GG.keep b o hb hx e)
    fresh := GG.fresh
    os := ⟨GG.os.os, GG.os.dr, fun k x e => by
      have h1 := GG.os.gk k x e
      have hlt : k < s3.gens.size := by
        rcases Nat.lt_or_ge k s3.gens.size with h | h
        · exact h
        · rw [Array.getElem?_eq_none h] at h1; cases h1
      show (s3.gens.push _)[k]? = some x
      rw [Array.getElem?_push_lt hlt, ← Array.getElem?_eq_getElem hlt]; exact h1⟩
    exo := fun b hb => by
      obtain ⟨o, e⟩ := st3.exs b hb
      have hlt : b < s3.heap.objs.size := Heap.lt_size e
      exact ⟨fun q => absurd hlt (Nat.not_lt.mpr (Nat.le_of_eq (show s3.heap.objs.size = b from q.symm))), fun n q => (f.exo b hb).2 n (hlk q)⟩
    st₀ := f.st
    own := ⟨freshS _ (Nat.le_refl _), freshG _ (Nat.le_refl _)⟩
    ownC := fun h => absurd rfl h
    gC := fun h => absurd rfl h
    apart := fun h => absurd rfl h
    apartL := fun x c e => by
      have e' : cl.lookup x = some c := e
      obtain ⟨o, ho, _⟩ := f.loc.cell x c (hlk e')
      have := GG.keep c o (f.notTab (.inr ⟨x, hlk e'⟩)) (f.notEx (.inr ⟨x, hlk e'⟩)) ho
      exact Nat.ne_of_lt (Heap.lt_size this)
    fn := hkind
    gl := f.gl
    bl := rfl }
  have ha : ∀ b, h'.objs.size = b → s.heap.get? b = none ∧ g₂.get? b = none := fun b hb => by
    subst hb; rw [hL]; exact ⟨freshS _ (Nat.le_succ _), freshG _ (Nat.le_succ _)⟩
  have hnt : h'.objs.size ∉ C.ts := fun q => by obtain ⟨ps, hp, _⟩ := st3.tab _ q; rw [hfr3 _ (by rw [hL]; exact Nat.le_succ _)] at hp; cases hp
  have hnx : h'.objs.size ∉ C.ex := fun q => by obtain ⟨o, e⟩ := st3.exs _ q; rw [hfr3 _ (by rw [hL]; exact Nat.le_succ _)] at e; cases e
  have hnl : s3.heap.objs.size ≠ h'.objs.size := by rw [hL]; exact Nat.ne_of_lt (Nat.lt_succ_self _)
  have hnc : ∀ n, cl.lookup n ≠ some h'.objs.size := fun n q => by
    obtain ⟨o, ho, _⟩ := f.loc.cell n _ (hlk q)
    rw [freshS _ (by rw [hL]; exact Nat.le_succ _)] at ho; cases ho
  have fn6 := fn5.add (wr := [h'.objs.size]) (fun b hb => by rw [List.mem_singleton.mp hb]; exact (ha _ rfl).1) (fun b hb => by rw [List.mem_singleton.mp hb]; exact hnt) (fun b hb => by rw [List.mem_singleton.mp hb]; exact hnx)
    (by rw [List.mem_singleton]; exact hnl) (fun b hb n => by rw [List.mem_singleton.mp hb]; exact hnc n)
  have hthere := fun b hb => (W A hh).there 0 _ hS b hb
  have hfpt : ∀ b ∈ fp, b ∉ C.ts := fun b hb q => by
    obtain ⟨ps, hp, _⟩ := st2.tab b q
    obtain ⟨o, ho, hc', _⟩ := hthere b hb
    rw [ho] at hp; cases hp; exact hc' rfl
  have hfpx : ∀ b ∈ fp, b ∉ C.ex := fun b hb q => by
    rcases hfp b hb with h | ⟨o, ho⟩
    · obtain ⟨o, e⟩ := f.st.exs b q
      rw [(hwr b h).2] at e; cases e
    · rw [st2.ge b q] at ho; cases ho
  have hfp3 : ∀ b ∈ fp, ∀ o, s₂.heap.get? b = some o → (h'.push o5).get? b = some o := fun b hb o e => k5 b o (G3.keep b o (hfpt b hb) (hfpx b hb) e)
  have hwlt : ∀ b ∈ fp, b < s3.heap.objs.size := fun b hb => by
    obtain ⟨o, ho, _⟩ := hthere b hb
    exact Heap.lt_size (G3.keep b o (hfpt b hb) (hfpx b hb) ho)
  have hga : (addL g₂ (h'.push o5) [h'.objs.size]).IsGen h'.objs.size s3.gens.size := by
    obtain ⟨o, nm, qn, ho, r⟩ := hgen5 (.str "<genexpr>" (s3.toks + 1)) (.str (env.qual ++ "<genexpr>") (s3.toks + 1 + 1))
    rw [hO] at ho
    exact ⟨o, nm, qn, by rw [addL_in (List.mem_singleton.mpr rfl)]; exact ho, r⟩
  have hsub := (W A hh).sub
  have henv2 : ({ scope, locals := s3.heap.objs.size, globals := mainGlobals, cells := cl, qual := env.qual ++ "<genexpr>.", func := none, code, frame := some s3.heap.objs.size, builtins := builtinsNs } : Env) = genEnv scope cl s3.heap.objs.size code builtinsNs env := henv.symm
  suffices fin : Q (.ref h'.objs.size) { s3 with gens := s3.gens.push (.fresh (.compStart (.GeneratorExp elt (⟨target, iter, [], 0⟩ :: rest) scope pos) 0 (.ref I) .none (genEnv scope cl s3.heap.objs.size code builtinsNs env))), toks := s3.toks + 1 + 1 + 1, heap := h'.push o5 } by
    rw [← hO, henv] at fin; exact fin
  refine hQ s3.heap.objs.size h'.objs.size s3.gens.size code _ _ fn6 (addL_up fn5.st.sub) hga hgn ((W A hh).frame _ _ _ hS hfp3) (fun b hb => addL_none (hwr b hb).1 fun q => ?_) (fun b hb => ⟨(hwr b hb).2, ?_⟩) (fun q => ?_) (fun b hb => hwlt b (hsub b hb)) ?_
  · have h1 := hwlt b (hsub b hb)
    rw [List.mem_singleton.mp q, hL] at h1
    exact absurd h1 (Nat.not_lt.mpr (Nat.le_succ _))
  · obtain ⟨o, ho, _⟩ := hthere b (hsub b hb)
    exact ⟨o, hfp3 b (hsub b hb) o ho⟩
  · exact Nat.lt_irrefl _ (hwlt _ q)
  · exact Array.getElem?_push_size ..
end
end Mine
end
section
open PySem PySem.W PySem.Calls PyProof.Rows PySem.Spec PySem.NumText Builtin Builtin.Str
set_option Elab.async false
set_option maxRecDepth 100000
set_option maxHeartbeats 0
set_option linter.unusedVariables false
set_option pp.deepTerms false
set_option pp.deepTerms.threshold 2
namespace Mine
variable {C : Cfg} {K : Frag}

theorem Room.over_loop0 {A : Around} {n : Nat} (h : Room A (n + 1)) {it : Value} {env : Env} {elt : Expr} {gens : List Comprehension} {scope : Scope} {pos : Pos} : Room (A.over (.compLoop (.GeneratorExp elt gens scope pos) 0 it .none env) []) n := by
  obtain ⟨a, b, c⟩ := h
  refine ⟨?_, ?_, c⟩
  · show A.depth + 0 + 1 + _ ≤ _; omega
  · show A.units + 0 + 3 + _ ≤ _; omega
theorem Room.over_loop1 {A : Around} {n d : Nat} (h : Room A (n + 1)) {it it' : Value} {env : Env} {elt : Expr} {gens : List Comprehension} {scope : Scope} {pos p : Pos} {kk : Result → Sem Fin} : Room (A.over (.compLoop (.GeneratorExp elt gens scope pos) (d + 1) it .none env) [.ret kk none false [] (.compLoop (.GeneratorExp elt gens scope pos) 0 it' .none env) p []]) n := by
  obtain ⟨a, b, c⟩ := h
  refine ⟨?_, ?_, c⟩
  · show A.depth + 1 + 0 + _ ≤ _; omega
  · show A.units + 3 + 0 + _ ≤ _; omega

theorem Fn.per {g₀ gk : Heap} {s₀ s s'' : Shared} {cenv : Env} {σ : Str → Option Value} {Sl : List Addr} {gn : Nat} (f : Fn C K g₀ s₀ cenv gk s σ) (ok : SlOk C s₀ cenv Sl gn) (hS : ∀ b ∈ Sl, gk.get? b = none) (p : Per gn Sl s s'') : Fn C K g₀ s₀ cenv gk s'' σ := {
    st := ⟨fun b o e => p.keep b (fun q => by rw [hS b q] at e; cases e) o (f.st.sub b o e), f.st.gt, f.st.ge, fun b hb => by
      obtain ⟨o, e⟩ := f.st.exs b hb
      exact ⟨o, p.keep b (fun q => ok.hx b q hb) o e⟩, fun P hP => let ⟨ps, a, b⟩ := f.st.tab P hP; ⟨ps, p.keep P (fun q => ok.ht P q hP) _ a, b⟩, p.bare f.st.gens, f.st.kin, f.st.top⟩
    loc := f.loc.keeps fun b o hb e => p.keep b (fun q => by
      rcases hb with rfl | ⟨n, hn⟩
      · exact ok.hl q
      · exact ok.hc b q n hn) o e
    up := f.up
    keep := fun b o hb hbx e => p.keep b (fun q => by rw [ok.h0 b q] at e; cases e) o (f.keep b o hb hbx e)
    fresh := f.fresh
    os := ⟨p.os.trans f.os.os, p.dr.trans f.os.dr, fun k z e => p.gens k z (fun q => by rw [q, ok.hg] at e; cases e) (f.os.gk k z e)⟩
    exo := f.exo
    st₀ := f.st₀
    own := f.own
    ownC := f.ownC
    gC := f.gC
    apart := f.apart
    apartL := f.apartL
    fn := f.fn
    gl := f.gl
    bl := f.bl }
section
variable {A : Around} {g₀ gA gk g₃ : Heap} {s₀ s₁ s s' : Shared} {cenv : Env} {σ : Str → Option Value} {Sl : List Addr} {gn T : Nat} {gZ : Heap} {F : Nat → Value → Prop}

/-- a clause's loop, from its iterator on -/
theorem seg_run {elt target iter : Expr} {gens : List Comprehension} {scope : Scope} {pos : Pos} {d : Nat} {I : Addr} {ps : Pos} {fs : List Frame} {N : Nat} {P : Nat → Value → Prop} {HL HS : Value → Sem Unit} (body : Value → Sem Unit) (O : Nat → Nat → (Str → Option Value) → Prop)
    (h1 : gens[d]? = some ⟨target, iter, [], 0⟩) (ok : SlOk C s₀ cenv Sl gn)
    (hdenL : C.M.den (.compLoop (.GeneratorExp elt gens scope pos) d (.ref I) .none cenv) = (compTurn (.GeneratorExp elt gens scope pos) d (.ref I) .none cenv).onRaise HL)
    (hdenS : C.M.den (.compStart (.GeneratorExp elt gens scope pos) d (.ref I) .none cenv) = (compStart (.GeneratorExp elt gens scope pos) d (.ref I) .none cenv).onRaise HS)
    (hturn : compTurn (.GeneratorExp elt gens scope pos) d (.ref I) .none cenv = (standAt ps >>= fun _ => pyNext (.ref I) >>= fun r => match r with
      | none => pure (.done .next)
      | some v => body v >>= fun _ => again (.compLoop (.GeneratorExp elt gens scope pos) d (.ref I) .none cenv)))
    (hq : (Code.compLoop (.GeneratorExp elt gens scope pos) d (.ref I) .none cenv).quiet = true)
    (hhL : (A.over (.compLoop (.GeneratorExp elt gens scope pos) d (.ref I) .none cenv) fs).handled = none) (hhS : (A.over (.compStart (.GeneratorExp elt gens scope pos) d (.ref I) .none cenv) fs).handled = none)
    (it : ItG C gk s' g₃ s I N P Sl) (x : GI C K g₀ s₀ cenv Sl s₁ gk s' σ) (up : Sub gA gk) (hA : ∀ b ∈ Sl, gA.get? b = none) {j n : Nat} (hn : n + j = T) (hO : O 0 j σ)
    (hbody : ∀ i j v n s₁ gB gk s σ (K' : Unit → Sem Fin) (H' : Value → Sem Fin), i < N → P i v → O i j σ → n + j = T → Sub gA gB → (∀ b ∈ Sl, gB.get? b = none) → GI C K g₀ s₀ cenv Sl s₁ gk s σ → Sub gB gk →
      (∀ n' j' s₁' gk' s' σ', n' + j' = T → O (i + 1) j' σ' → GI C K g₀ s₀ cenv Sl s₁' gk' s' σ' → Sub gB gk' → Seg C.M A (gR (gP C K g₀ s₀ cenv Sl gZ)) (gY C K g₀ s₀ cenv Sl gn T gZ F) n' s₁' (.compLoop (.GeneratorExp elt gens scope pos) d (.ref I) .none cenv) (K' ()) fs s') →
      Seg C.M A (gR (gP C K g₀ s₀ cenv Sl gZ)) (gY C K g₀ s₀ cenv Sl gn T gZ F) n s₁ (.compLoop (.GeneratorExp elt gens scope pos) d (.ref I) .none cenv) ((body v).wrap K' H' id id) fs s)
    (hend : ∀ n j s₁ gk s σ, n + j = T → O N j σ → GI C K g₀ s₀ cenv Sl s₁ gk s σ → Sub gA gk → Seg C.M A (gR (gP C K g₀ s₀ cenv Sl gZ)) (gY C K g₀ s₀ cenv Sl gn T gZ F) n s₁ (.compLoop (.GeneratorExp elt gens scope pos) d (.ref I) .none cenv) (pure (.done .next)) fs s) :
    Seg C.M A (gR (gP C K g₀ s₀ cenv Sl gZ)) (gY C K g₀ s₀ cenv Sl gn T gZ F) n s₁ (.compStart (.GeneratorExp elt gens scope pos) d (.ref I) .none cenv) (C.M.den (.compStart (.GeneratorExp elt gens scope pos) d (.ref I) .none cenv)) fs s := by
  obtain ⟨fp, wr, S, W, hS, hwr, hfp, G⟩ := it
  have fk := x.fn.gr G
  have hthere := fun b hb => (W _ hhL).there 0 _ hS b hb
  have hw0 : ∀ b ∈ wr, s₀.heap.get? b = none := fun b hb => by
    cases q : s₀.heap.get? b with
    | none => rfl
    | some o =>
      exfalso
      have hsb := (hwr b hb).2
      by_cases ht : b ∈ C.ts
      · obtain ⟨ps, hp, _⟩ := x.fn.st.tab b ht; rw [hsb] at hp; cases hp
      · by_cases hx : b ∈ C.ex
        · obtain ⟨o', e'⟩ := x.fn.st.exs b hx; rw [hsb] at e'; cases e'
        · have := x.fn.keep b o ht hx q; rw [hsb] at this; cases this
  have hwS : ∀ b ∈ wr, b ∉ Sl := fun b hb q => by
    obtain ⟨o, _, e⟩ := x.sl b q
    have := x.fn.st.sub b o e
    rw [(hwr b hb).2] at this; cases this
  have upA : Sub gA (delL g₃ Sl) := fun b o e => delL_ne (G.up b o (up b o e)) fun q => by rw [hA b q] at e; cases e
  have hAS : ∀ b ∈ Sl, (delL g₃ Sl).get? b = none := fun b hb => delL_in hb
  refine seg_startG h1 hdenS (fun Q E hq => (W _ hhS).self 0 _ _ _ hS hq) hq ?_
  refine seg_loop (gA := delL g₃ Sl) (N := N) body O ok hdenL hturn hq hhL (W _ hhL) (fun b hb => (hfp b hb).imp id fun ⟨⟨o, ho⟩, hns⟩ => ⟨o, delL_ne ho hns⟩) (fun b hb => none_of_sub delL_sub (hwr b hb).1) hw0
    (fun b hb q => by obtain ⟨ps, hp, _⟩ := x.fn.st.tab b q; rw [(hwr b hb).2] at hp; cases hp) (fun b hb q => by obtain ⟨o', e'⟩ := x.fn.st.exs b q; rw [(hwr b hb).2] at e'; cases e')
    (fun q => by
      obtain ⟨m, ⟨o, _, _, ho, _⟩, _⟩ := x.fn.loc.ns
      rw [(hwr _ q).2] at ho; cases ho)
    (fun b hb n q => by
      obtain ⟨o, ho, _⟩ := x.fn.loc.cell n b q
      rw [(hwr b hb).2] at ho; cases ho) hwS hAS
    (fun i j v n s₁ gB gk s σ K' H' hi hP hO hn' hsub hB gi sub hk => hbody i j v n s₁ gB gk s σ K' H' hi hP hO hn' (fun b o e => hsub b o (upA b o e)) hB gi sub hk)
    (fun n j s₁ gk s σ hn' hO gi sub => hend n j s₁ gk s σ hn' hO gi fun b o e => sub b o (upA b o e))
    N 0 j n s₁ g₃ s σ (Nat.sub_zero _) (Nat.zero_le _) hS (fun b hb => (hwr b hb).1) hO hn ⟨fk, fun b hb => ?_, G.os.trans x.ou⟩ delL_sub
  obtain ⟨o, e1, e2⟩ := x.sl b hb
  exact ⟨o, e1, G.up b o e2⟩
end

section
variable {A : Around} {g : Heap} {s : Shared} {env : Env} {σ : Str → Option Value} {E : Value → Shared → Prop}

/-- a list's iterator -/
theorem list_itG {l : Addr} {vs : List Value} {Q : Value → Shared → Prop} {Sl : List Addr} (st : St C K g s) (hl : g.IsList l vs.toArray) (hS : l ∉ Sl)
    (h : ∀ I g₂ s₂, ItG C g s g₂ s₂ I vs.length (fun i v => vs[i]? = some v) Sl → Q (.ref I) s₂) : wpAny C.M A (pyIter (.ref l)) Q E s := by
  have hl' := IsList.up hl st.sub
  obtain ⟨o, ho, hc, k, hd⟩ := id hl
  have hI := get_size_none s.heap
  have W : ∀ A' : Around, A'.handled = none → Walks C.prog C.w A' s.heap.objs.size [s.heap.objs.size, l] [s.heap.objs.size] vs.length (fun i v => vs[i]? = some v) (fun i h => h.IsListIter s.heap.objs.size l i ∧ h.IsList l vs.toArray) := by
    intro A' hh
    have := Walks.list (prog := C.prog) (w := C.w) hh s.heap.objs.size l (fun q => by have := st.sub l o ho; rw [q, hI] at this; cases this) vs.toArray
    simpa using this
  refine wpAny_pyIter_list hl' (h _ g _ ⟨[s.heap.objs.size, l], [s.heap.objs.size], _, fun A' hA' => wk_of (W A' hA') ?_, ⟨⟨_, Heap.get?_push_size _ rfl, rfl, rfl⟩, hl'.push _⟩, ?_, ?_, ?_⟩)
  · rintro i hp ⟨⟨oi, hoi, hci, hdi⟩, ⟨ol, hol, hcl, kl, hdl⟩⟩ b hb
    rcases List.mem_cons.mp hb with rfl | hb
    · exact ⟨oi, hoi, by rw [hci]; simp, fun v q => by rw [hdi] at q; cases q⟩
    · rw [List.mem_singleton.mp hb]
      exact ⟨ol, hol, by rw [hcl]; simp, fun v q => by rw [hdl] at q; cases q⟩
  · intro b hb
    rw [List.mem_singleton.mp hb]
    exact ⟨none_of_sub st.sub hI, hI⟩
  · intro b hb
    rcases List.mem_cons.mp hb with rfl | hb
    · exact .inl (.head _)
    · rw [List.mem_singleton.mp hb]; exact .inr ⟨⟨o, ho⟩, hS⟩
  · exact ⟨fun _ _ e => e, fun b o e => Heap.get?_push_of_some _ (st.sub b o e), fun b o _ _ e => Heap.get?_push_of_some _ e, fun b _ o e => ⟨o, Heap.get?_push_of_some _ e⟩, fun _ _ e _ => e, fun P hP => (st.tab P hP).keeps fun _ _ e => Heap.get?_push_of_some _ e, st.gens, ⟨rfl, rfl, fun _ _ e => e⟩, fun _ _ e => e⟩
theorem ItG.same_l {g₂ : Heap} {s₂ S : Shared} {I : Addr} {n : Nat} {P : Nat → Value → Prop} {Sl : List Addr} (h : ItG C g S g₂ s₂ I n P Sl) (hS : Same S s) : ItG C g s g₂ s₂ I n P Sl :=
  let ⟨fp, wr, S', a, b, c, d, e⟩ := h; ⟨fp, wr, S', a, b, (fun x hx => by have := c x hx; rw [hS] at this; exact this), d, e.same_l hS⟩

variable {elt iter1 iter2 : Expr} {x1 x2 : Str} {p1 p2 pos : Pos} {scope : Scope} {cl : List (Str × Addr)} {c P : Addr}

/-- (elt for x1 in iter1 for x2 in iter2), each row of m items -/
theorem gen2 {Q : Value → Shared → Prop} (n0 : Nat) (f : View C K env g s σ) (hh : A.handled = none) (hroom : A.depth < recursionLimit) (hc : env.code = .ref c) (hK : codeHdIn K c P = true) (hP : P ∈ C.ts)
    (h : wpAny C.M A (eval iter1 env) (fun xv s₁ => wpAny C.M A (pyIter xv) (fun it s₂ => ∃ I g₂ N m, ∃ (P1 : Nat → Value → Prop) (P2 : Nat → Nat → Value → Prop) (F : Nat → Value → Prop), it = .ref I ∧ ItG C g s g₂ s₂ I N P1 [] ∧
      (∀ L code A' Sl i v gk s' τ E', Room A' n0 → i < N → P1 i v → Fn C K g s (genEnv scope cl L code builtinsNs env) gk s' τ → τ x1 = some v → (∀ y, y ∉ [x1, x2] → τ y = σg cl I σ y) → Sub g₂ gk → (∀ b ∈ Sl, g₂.get? b = none) →
        wpAny C.M A' (eval iter2 (genEnv scope cl L code builtinsNs env)) (fun xv s₁ => wpAny C.M A' (pyIter xv) (fun it s₂ => ∃ J g3, it = .ref J ∧ ItG C gk s' g3 s₂ J m (P2 i) Sl) E' s₁) E' s') ∧
      (∀ L code A' i j v u gk s' τ E', Room A' n0 → i < N → j < m → P1 i v → P2 i j u → Fn C K g s (genEnv scope cl L code builtinsNs env) gk s' τ → τ x2 = some u → (∀ y, y ∉ [x1, x2] → τ y = σg cl I σ y) → Sub g₂ gk →
        wpAny C.M A' (eval elt (genEnv scope cl L code builtinsNs env)) (fun y s2 => ∃ g3, Gr C gk s' g3 s2 ∧ F (i * m + j) y) E' s') ∧
      (∀ cenv gn gZ a s5, GenFresh C K g s cenv gn (N * m) gZ F n0 a s5 → Sub g₂ gZ → Q (.ref a) s5)) E s₁) E s)
    (hcl : clFrom env.cells scope.names [] = some cl := by rfl) (hcell : ∀ y ∈ scope.names, y.2 ≠ .cell := by decide) (hkind : scope.kind = .function := by rfl) (h0 : scope.names.lookup (".0" : Str) = some NameKind.local := by rfl) (hco : scope.isCoroutine = false := by rfl)
    (hlook : ∀ L code, cellsOk (genEnv scope cl L code builtinsNs env) = true := by intro _ _; rfl)
    (hx1 : scope.names.lookup x1 = some NameKind.local := by rfl) (hx2 : scope.names.lookup x2 = some NameKind.local := by rfl) (hne : x1 ≠ x2 := by decide)
    (hs : ∀ x, genFold iter1 env x = pure x := by intro _; rfl) (hs2 : ∀ L code x, foldedSetIterable iter2 (genEnv scope cl L code builtinsNs env) x = pure x := by intro _ _ _; rfl) :
    wpAny C.M A (eval (.GeneratorExp elt [⟨.Name x1 p1, iter1, [], 0⟩, ⟨.Name x2 p2, iter2, [], 0⟩] scope pos) env) Q E s := by
  refine genMake f hh hroom hc hK hP (wpAny_mono h (fun xv s₁ h₁ => wpAny_mono h₁ (fun it s₂ h₂ => ?_) fun _ _ e => e) fun _ _ e => e) hcl hcell hkind h0 hco hlook hs
  obtain ⟨I, g₂, N, m, P1, P2, F, rfl, ⟨fp, wr, S, W, hS, hwr, hfp, G⟩, hiter, helt, hQ⟩ := h₂
  refine ⟨I, g₂, fp, wr, N, P1, S, rfl, G, W, hS, hwr, fun b hb => (hfp b hb).imp id fun q => q.1, fun L a gn code gZ s5 fn5 upZ hgen hgn hS5 hwZ hw5 hLfp hwL hfresh => ?_⟩
  refine hQ _ gn gZ a s5 ⟨⟨gZ, _, fn5, fun _ _ e => e⟩, hgen, hgn, fun Sl Ag hR ok hSl => ⟨_, hfresh, fun s'' p => ⟨rfl, ?_⟩⟩⟩ upZ
  have hZS : ∀ b ∈ Sl, gZ.get? b = none := fun b hb => none_of_sub fn5.st.sub (hSl b hb)
  have x5 : ∃ gk, GI C K g s (genEnv scope cl L code builtinsNs env) Sl s'' gk s'' (σg cl I σ) ∧ Sub gZ gk ∧ ∀ b ∈ wr, gk.get? b = none := by
    have f1 := fn5.per ok hZS p
    have f2 := f1.add ok.h0 ok.ht ok.hx ok.hl ok.hc
    refine ⟨_, ⟨f2, fun b hb => ?_, ⟨rfl, rfl, fun _ _ e => e⟩⟩, addL_up f1.st.sub, fun b hb => addL_none (hwZ b hb) fun q => ?_⟩
    · obtain ⟨o, e⟩ := p.sl b hb
      exact ⟨o, e, by rw [addL_in hb]; exact e⟩
    · obtain ⟨o, e⟩ := (hw5 b hb).2
      rw [hSl b q] at e; cases e
  obtain ⟨gk, x, upk, hgw⟩ := x5
  have hkx1 : (genEnv scope cl L code builtinsNs env).kindOf x1 = some .local := hx1
  have hkx2 : (genEnv scope cl L code builtinsNs env).kindOf x2 = some .local := hx2
  have hwS : ∀ b ∈ wr, b ∉ Sl := fun b hb q => by
    obtain ⟨o, e⟩ := (hw5 b hb).2
    rw [hSl b q] at e; cases e
  have hwl : L ∉ wr := fun q => Nat.lt_irrefl _ (hwL _ q)
  have hth5 := fun b hb => (W A hh).there 0 _ hS5 b hb
  have hS2 : S 0 s''.heap := (W A hh).frame _ _ _ hS5 fun b hb o e => p.keep b (fun q => by rw [hSl b q] at e; cases e) o e
  refine seg_startG rfl rfl (fun Q E hq => (W (Ag.over _ []) (by exact hR.2.2)).self 0 _ _ _ hS2 hq) rfl ?_
  refine seg_loop (A := Ag) (fs := []) (d := 0) (gA := gZ) (N := N) (fp := fp) (wr := wr) (P := P1) (S := S) (ps := iter1.pos) _ (fun i j τ => j = i * m ∧ ∀ y, y ∉ [x1, x2] → τ y = σg cl I σ y) ok rfl (turnG_mid rfl rfl) rfl (by exact hR.2.2) (W _ (by exact hR.2.2))
    (fun b hb => (hfp b hb).imp id fun ⟨⟨o, ho⟩, _⟩ => ⟨o, upZ b o ho⟩) hwZ (fun b hb => (hw5 b hb).1) (fun b hb q => ?_) (fun b hb q => ?_) hwl (fun b hb n q => ?_) hwS hZS ?_ ?_ N 0 0 (N * m) s'' gk s'' _ (Nat.sub_zero _) (Nat.zero_le _) hS2 hgw ⟨by simp, fun _ _ => rfl⟩ rfl x upk
  · obtain ⟨ps, hp, _⟩ := f.st.tab b q
    rw [(hw5 b hb).1] at hp; cases hp
  · obtain ⟨o', e'⟩ := f.st.exs b q
    rw [(hw5 b hb).1] at e'; cases e'
  · obtain ⟨o, ho, _⟩ := f.loc.cell n b (clFrom_lookup hcl q)
    rw [(hw5 b hb).1] at ho; cases ho
  · rintro i j v n s₁ gB gk s σ' K' H' hi hPv ⟨rfl, hσ⟩ hn hsub hB gi subB hk
    refine seg_nest hkx1 (hlook L code) (hs2 L code) gi fun s' E' gi' => ?_
    refine wpAny_mono (hiter L code _ Sl i v gk s' _ E' (hR.less (n := n0 + 2) (m := n0 + 1) (by omega)).over_loop0 hi hPv gi'.fn (by simp) (fun y hy => ?_) (fun b o e => subB b o (hsub b o (upZ b o e))) fun b hb => none_of_sub (fun b o e => hsub b o (upZ b o e)) (hB b hb)) (fun xv s₂ h2 => wpAny_mono h2 (fun it s3 h3 => ?_) fun _ _ e => e) fun _ _ e => e
    · rw [if_neg (fun q => hy (by simp [q]))]; exact hσ y hy
    obtain ⟨J, g3, rfl, itg⟩ := h3
    refine ⟨J, rfl, fun kk p hkk => ?_⟩
    refine seg_run (gA := gB) (ps := iter2.pos) _ (fun j' jj τ => jj = i * m + j' ∧ ∀ y, y ∉ [x1, x2] → τ y = σg cl I σ y) (d := 1) rfl ok rfl rfl (turnG_last rfl rfl) rfl (by exact hR.2.2) (by exact hR.2.2) itg gi' subB hB hn ⟨by simp, fun y hy => ?_⟩ ?_ ?_
    · rw [if_neg (fun q => hy (by simp [q]))]; exact hσ y hy
    · rintro j' jj u n' s₁' gB' gk' sx σx K2 H2 hj' hPu ⟨rfl, hσx⟩ hn' hsub' hB' gix subx hk2
      have hlt : i * m + j' < N * m := by
        calc i * m + j' < i * m + m := by omega
          _ = (i + 1) * m := by rw [Nat.add_mul, Nat.one_mul]
          _ ≤ N * m := Nat.mul_le_mul_right m hi
      refine seg_emit (gA := gB') ok hkx2 (hlook L code) hco rfl rfl hn' hlt gix subx hB' (fun b o e => hsub' b o (hsub b o e)) (fun s4 E4 f4 => ?_) fun gk4 s4 gi4 sub4 => hk2 (n' - 1) (i * m + (j' + 1)) _ _ _ _ (by omega) ⟨rfl, fun y hy => ?_⟩ gi4 sub4
      · exact helt L code _ i j' v u gk' s4 _ E4 (hR.less (n := n0 + 2) (m := n0 + 1) (by omega)).over_loop1 hi hj' hPv hPu f4 (by simp) (fun y hy => by rw [if_neg (fun q => hy (by simp [q]))]; exact hσx y hy) fun b o e => subx b o (hsub' b o (hsub b o (upZ b o e)))
      · rw [if_neg (fun q => hy (by simp [q]))]; exact hσx y hy
    · rintro n' jj s₁' gk' sx σx hn' ⟨rfl, hσx⟩ gix subx
      refine seg_leaf (.ok .next) ?_
      rw [hkk]
      exact hk n' _ s₁' gk' sx σx hn' ⟨by rw [Nat.add_mul, Nat.one_mul], hσx⟩ gix subx
  · rintro n j s₁ gk s σ' hn ⟨rfl, hσ⟩ gi sub
    exact seg_end (.ok .next) ⟨rfl, by omega, gk, σ', gi, sub⟩
end
end Mine
end
section
open PySem PySem.W PySem.Calls PyProof.Rows PySem.Spec PySem.NumText Builtin Builtin.Str
set_option pp.deepTerms false
set_option pp.deepTerms.threshold 2
namespace Mine
theorem slot_join : Slot "bytes" "join" "bytes.join" :=
  .of (owner := "bytes") (n := "join") (by rw [typeLookup_type, builtinLookup_eq_fast]; kernel_rfl) (by decide +kernel) (by decide +kernel) (by decide +kernel)
    (by first | exact .inl (by decide +kernel) | exact .inr (by decide +kernel)) (by rw [isSubtype_type]; kernel_rfl)
theorem type_join : typeOf (.builtin "bytes.join") = pure (.type "method_descriptor") := by show builtinType _ = _; rw [builtinType_eq_fast]; kernel_rfl
theorem entry_join : entryFor table "bytes.join" = some Builtin.«bytes.join» := entryFor_of_fast (by kernel_rfl)
theorem args_join (a b : Value) : argsOk "bytes.join" ⟨[a, b], []⟩ := by unfold argsOk; kernel_rfl
theorem take_eq {id : String} {b : Array UInt8} {t : Tok} : Bytes.takeBufferQuiet? id (.bytes b t) 0 = pure (some (b, none)) := by
  unfold Bytes.takeBufferQuiet? Bytes.takeBuffer?
  rw [KBy.special_eq KBy.look_buffer, KBy.own_buffer]
  have : Bytes.buffer? id (.bytes b t) (full := (0 : Int) == Bytes.fullReadOnly) = pure (some b) := KBy.buffer_eq
  simp only [this]
  rfl
section
variable {prog : Program} {w : World} {M : Model} {A : Around} {E : Value → Shared → Prop} {s : Shared}
theorem join_method {b : Array UInt8} {t : Tok} {pl : Sem Bool} {Q : Value × List Value → Shared → Prop} (h : Q (.builtin "bytes.join", [.bytes b t]) s) : wpAny M A (getMethod (.bytes b t) "join" pl) Q E s := by
  with_reducible exact KBd.method_of (.bytes b t) (typeIs_bytes _ _ _) slot_join type_join KBd.noRef h

theorem join_items {a : Addr} {Q : Value → Shared → Prop} (hg : s.TypeIs (.ref a) "generator") (hself : ∀ Q' E', Q' (.ref a) s → wpAny M A (pyIter (.ref a)) Q' E' s)
    (hl : wpAny M A (call (.type "list") [.ref a]) Q E s) : wpAny M A (Bytes.joinItems (.ref a)) Q E s := by
  unfold Bytes.joinItems
  refine wpAny_bind (wpAny_typeOf hg ?_)
  rw [if_neg (by decide)]
  refine wpAny_bind (wpAny_tryCatch (hself _ _ ?_))
  exact hl
theorem join_tree {t : Tok} {a : Addr} {P : Fin → Shared → Prop} (hg : s.TypeIs (.ref a) "generator") (hself : ∀ Q' E', Q' (.ref a) s → wpAny (model prog w) A (pyIter (.ref a)) Q' E' s)
    (hl : wpAny (model prog w) A (call (.type "list") [.ref a]) (fun v s' => ∃ D n, ∃ vs : Array Value, v = .ref D ∧ s'.heap.get? D = some { cls := .type "list", dict := none, data := .seq vs n, slots := #[] } ∧
      ((∃ b u, vs = #[.bytes b u] ∧ P (.done (.ret (.bytes b u))) s') ∨ (∃ b u c v, vs = #[.bytes b u, .bytes c v] ∧ b.size + c.size ≤ 100000 ∧ ∀ t k, P (.done (.ret (.bytes (b ++ c) t))) { s' with toks := k }))) E s) :
    wpAny (model prog w) A (Builtin.«bytes.join» ⟨[.bytes #[] t, .ref a], []⟩) P E s := by
  unfold Builtin.«bytes.join» Bytes.joinM
  refine wpAny_bind (wpAny_of_eq (a := ((.bytes #[] t : Value), Value.ref a)) (by kernel_rfl) ?_)
  show wpAny _ _ (Bytes.joinItems (.ref a) >>= fun seq => _) _ _ s
  refine wpAny_bind (join_items hg hself (wpAny_mono hl (fun v s' h => ?_) fun _ _ e => e))
  obtain ⟨D, n, vs, rfl, hD, hcase⟩ := h
  refine wpAny_bind (wpAny_seqItems hD rfl ?_)
  rcases hcase with ⟨b, u, rfl, hp⟩ | ⟨b, u, c, v, rfl, hsz, hp⟩
  · show wpAny _ _ (typeOf (.bytes b u) >>= _) _ _ _
    refine wpAny_bind (wpAny_typeOf (typeIs_bytes _ _ _) ?_)
    rw [if_pos (by decide)]
    refine wpAny_bind (wpAny_rule ?_)
    exact wpAny_bind (wpAny_pure (wpAny_pure hp))
  · refine wpAny_bind ?_
    rw [Std.Legacy.Range.forIn_eq_forIn_range']
    have er : ∀ (xs : Array Value), xs.size = 2 → List.range' ([:xs.size] : Std.Legacy.Range).start ([:xs.size] : Std.Legacy.Range).size ([:xs.size] : Std.Legacy.Range).step = [0, 1] := fun xs h => by rw [h]; rfl
    rw [er _ rfl, List.forIn_cons]
    refine wpAny_bind (wpAny_bind (wpAny_seqItems hD rfl ?_))
    show wpAny _ _ (holding _ (Bytes.takeBufferQuiet? _ (.bytes b u) 0) >>= _) _ _ _
    refine wpAny_bind (wpAny_holding (wpAny_of_eq take_eq ?_))
    refine wpAny_bind (wpAny_seqItems hD rfl ?_)
    refine wpAny_ite_false (by rfl) ?_
    refine wpAny_pure ?_
    show wpAny _ _ (forIn ([1] : List Nat) _ _) _ _ _
    rw [List.forIn_cons]
    refine wpAny_bind (wpAny_bind (wpAny_seqItems hD rfl ?_))
    show wpAny _ _ (holding _ (Bytes.takeBufferQuiet? _ (.bytes c v) 0) >>= _) _ _ _
    refine wpAny_bind (wpAny_holding (wpAny_of_eq take_eq ?_))
    refine wpAny_bind (wpAny_seqItems hD rfl ?_)
    refine wpAny_ite_false (by rfl) ?_
    refine wpAny_pure ?_
    show wpAny _ _ (forIn ([] : List Nat) _ _) _ _ _
    rw [List.forIn_nil]
    refine wpAny_pure ?_
    show wpAny _ _ (Bytes.payload (.bytes #[] t) >>= _) _ _ _
    refine wpAny_bind (wpAny_of_eq (a := #[]) rfl ?_)
    refine wpAny_ite_false ?_ ?_
    · refine decide_eq_false fun q => ?_
      have e : Bytes.tooLong (0 * 1 + b.size + c.size) = true := q
      rw [KBy.tooLong_not (by omega)] at e; cases e
    have ej : Bytes.joined #[] [b, c] = b ++ c := by simp [Bytes.joined]
    refine wpAny_bind (wpAny_mkBytes (b := Bytes.joined #[] [b, c]) ?_ ?_)
    · rw [ej]
      refine wpAny_bind (wpAny_holding (wpAny_point ?_))
      refine wpAny_bind ?_
      show wpAny _ _ (letGo _ _ >>= fun _ => letGo _ _ >>= fun _ => pure ()) _ _ _
      refine wpAny_bind (wpAny_letGo (wpAny_bind (wpAny_letGo (wpAny_pure (wpAny_pure (hp _ _))))))
    · rw [ej, sizeLine_eq, Array.size_append]; omega

theorem bInts_append (b c : Array UInt8) : KBw.bInts (b ++ c) = KBw.bInts b ++ KBw.bInts c := by
  unfold KBw.bInts; simp
end
section
variable {C : Cfg} {K : Frag} {A : Around} {E : Value → Shared → Prop} {g gZ : Heap} {s s5 : Shared} {cenv : Env} {gn T n0 : Nat} {a : Addr}
/-- b''.join(generator), one or two items -/
theorem join_gen {t : Tok} {cs : Nat → List Int} {Q : Value → Shared → Prop} (x : GenFresh C K g s cenv gn T gZ (fun j v => ∃ b t, v = Value.bytes b t ∧ KBw.bInts b = cs j) n0 a s5) (hR : Room A (n0 + 6)) (hT : T = 1 ∨ T = 2)
    (hz : ∀ j, (cs j).length ≤ 50000)
    (hq : ∀ b t g' s', Gr C g s g' s' → KBw.bInts b = (List.range T).flatMap cs → Q (.bytes b t) s') : wpAny C.M A (call (.builtin "bytes.join") [.bytes #[] t, .ref a]) Q E s5 := by
  have hgen : s5.heap.IsGen a gn := let ⟨gk, σ, f, up⟩ := x.fn; x.gen.keeps fun b o e => f.st.sub b o (up b o e)
  have hR1 : Room A.in1 (n0 + 5) := hR.in1
  have hR2 : Room A.in1.in1 (n0 + 4) := hR1.in1
  have hR3 : Room A.in1.in1.in1 (n0 + 3) := hR2.in1
  have hR4 : Room A.in1.in1.in1.in1 (n0 + 2) := hR3.in1
  refine wpAny_call_entry slot_join (typeIs_bytes _ _ _) entry_join ?_ (args_join _ _)
  refine join_tree hgen.typeIs (fun Q' E' h => wpAny_pyIter_gen hgen h) ?_
  have hS : s5.heap.get? s5.heap.objs.size = none := get_size_none _
  have hne : s5.heap.objs.size ≠ a := fun q => by obtain ⟨o, _, _, ho, _⟩ := hgen; rw [← q, hS] at ho; cases ho
  refine gk_call_list (A := A.in1) (P := fun j v => ∃ b t, v = Value.bytes b t ∧ KBw.bInts b = cs j) (n := T) (by rw [sizeLine_eq]; omega) ⟨GenAt.gk (A := A.in1.in1.in1) hR3.2.2 hR3.depth hne, x.toAt (Sl := [s5.heap.objs.size]) hR4 (fun b hb => ?_) fun b o e => Heap.get?_push_of_some _ e⟩ ?_
  · rw [List.mem_singleton.mp hb]
    exact ⟨hS, _, Heap.get?_push_size _ rfl⟩
  · rintro s' acc c' ⟨gk, σ, f, up, o, ho⟩ hD hacc
    have gr := f.done
    refine ⟨_, c', acc, rfl, hD, ?_⟩
    rcases hT with rfl | rfl
    · left
      obtain ⟨h1, h2⟩ := hacc
      obtain ⟨b, u, e, hb⟩ := h2 0 acc[0] (Array.getElem?_eq_getElem (by omega))
      refine ⟨b, u, ?_, ⟨_, rfl, hq b u gk s' gr (by rw [hb]; simp)⟩⟩
      rw [← e]
      exact Array.ext (by simp [h1]) fun i h3 h4 => by
        have : i = 0 := by simp at h4; omega
        subst this; rfl
    · right
      obtain ⟨h1, h2⟩ := hacc
      obtain ⟨b, u, e, hb⟩ := h2 0 acc[0] (Array.getElem?_eq_getElem (by omega))
      obtain ⟨c, v, e2, hc⟩ := h2 1 acc[1] (Array.getElem?_eq_getElem (by omega))
      refine ⟨b, u, c, v, ?_, ?_, fun t k => ⟨_, rfl, hq (b ++ c) t gk _ (gr.tok_r k) (by rw [bInts_append, hb, hc]; simp [List.range_succ])⟩⟩
      · rw [← e, ← e2]
        exact Array.ext (by simp [h1]) fun i h3 h4 => by
          simp at h4
          have : i = 0 ∨ i = 1 := by omega
          rcases this with rfl | rfl <;> rfl
      · have l1 := hz 0
        have l2 := hz 1
        rw [← hb, KBw.ints_length] at l1
        rw [← hc, KBw.ints_length] at l2
        omega
end
end Mine
namespace Mine
variable {C : Cfg} {K : Frag}
theorem fresh_back {g g' : Heap} {s s' : Shared} (st : St C K g s) (G : Gr C g s g' s') {b : Addr} (h : s'.heap.get? b = none) : s.heap.get? b = none := by
  cases q : s.heap.get? b with
  | none => rfl
  | some o =>
    exfalso
    by_cases hb : b ∈ C.ts
    · obtain ⟨ps, hp, _⟩ := G.tab b hb
      rw [h] at hp; cases hp
    · by_cases hx : b ∈ C.ex
      · obtain ⟨o', e'⟩ := G.exk b hx o q
        rw [h] at e'; cases e'
      · have := G.keep b o hb hx q
        rw [h] at this; cases this
theorem ItG.trans {g g' g₂ : Heap} {s s' s₂ : Shared} {I : Addr} {n : Nat} {P : Nat → Value → Prop} {Sl : List Addr} (st : St C K g s) (G : Gr C g s g' s') (h : ItG C g' s' g₂ s₂ I n P Sl) : ItG C g s g₂ s₂ I n P Sl :=
  let ⟨fp, wr, S, a, b, c, d, e⟩ := h; ⟨fp, wr, S, a, b, fun x hx => ⟨(c x hx).1, fresh_back st G (c x hx).2⟩, d, G.trans e⟩
end Mine
end
section
open PySem PySem.W PySem.Calls PyProof.Rows PySem.Spec PySem.NumText Builtin Builtin.Str
set_option Elab.async false
set_option maxRecDepth 100000
set_option maxHeartbeats 0
set_option linter.unusedVariables false
set_option pp.deepTerms false
set_option pp.deepTerms.threshold 2
namespace Mine
variable {C : Cfg} {K : Frag}

/-- nothing exempt: what a call that will raise is held to -/
@[reducible] def Cfg.bare (C : Cfg) : Cfg := { C with ts := [], ex := [] }
/-- up to the slots of frames, and but for the places ex -/
def UpX (ex : List Addr) (h h' : Heap) : Prop := ∀ b o, b ∉ ex → h.get? b = some o → (∀ vs, o.data ≠ .fields vs) → ∃ sl, h'.get? b = some { o with slots := sl }
theorem UpX.of {h h' : Heap} (x : h.UpToSlots h') (ex : List Addr) : UpX ex h h' := fun b o _ e hn => x b o e hn
theorem UpX.trans {ex : List Addr} {h1 h2 h3 : Heap} (x : UpX ex h1 h2) (y : UpX ex h2 h3) : UpX ex h1 h3 := fun b o hb e hn => let ⟨_, e1⟩ := x b o hb e hn; let ⟨sl, e2⟩ := y b _ hb e1 hn; ⟨sl, e2⟩
abbrev VE : Value := .type "ValueError"
/-- a ValueError on its way, about to leave the frames fl -/
def Rz (base : Heap) (fl : List Env) (e : Addr) (ex : List Addr) (s s' : Shared) : Prop :=
  (∃ a0, Heap.FlyingW base fl e VE a0 s'.heap) ∧ UpX ex s.heap s'.heap ∧ Out s s' ∧ AllBare s'.gens
/-- the same, whoever is said to hold it -/
def Rx (base : Heap) (fl : List Env) (e : Addr) (ex : List Addr) (s s' : Shared) : Prop :=
  (∃ a0 w, base.StaysIn s'.heap ∧ base.get? e = none ∧ s'.heap.FunFrames base fl ∧ s'.heap.TracedAtW base e VE a0 w) ∧ UpX ex s.heap s'.heap ∧ Out s s' ∧ AllBare s'.gens
theorem Rz.x {base : Heap} {fl : List Env} {e : Addr} {ex : List Addr} {s s' : Shared} (r : Rz base fl e ex s s') : Rx base fl e ex s s' :=
  let ⟨⟨a0, h1, h2, h3, h4⟩, b, c, d⟩ := r; ⟨⟨a0, .none, h1, h2, h3, h4.at⟩, b, c, d⟩

theorem FunFrames.of_frames {h h' base : Heap} : ∀ {l : List Env}, h.FunFrames base l → (∀ b ∈ l.filterMap (·.frame), ∀ o, h.get? b = some o → ∃ o', h'.get? b = some o' ∧ o'.data = o.data) → h'.FunFrames base l
  | [], _, _ => trivial
  | env :: rest, ⟨hk, ⟨L, o, hf, hn, ho, hd⟩, hr⟩, k => by
    have hmem : L ∈ (env :: rest).filterMap (·.frame) := List.mem_filterMap.mpr ⟨env, .head _, hf⟩
    obtain ⟨o', ho', hd'⟩ := k L hmem o ho
    refine ⟨hk, ⟨L, o', hf, hn, ho', fun vs => hd' ▸ hd vs⟩, FunFrames.of_frames hr fun b hb o e => k b ?_ o e⟩
    obtain ⟨env', he, hf'⟩ := List.mem_filterMap.mp hb
    exact List.mem_filterMap.mpr ⟨env', .tail _ he, hf'⟩

section
variable {M : Model} {A : Around} {E : Value → Shared → Prop} {base g g1 : Heap} {fl : List Env} {s s1 s2 : Shared} {env : Env} {σ : Str → Option Value} {e : Addr} {ex : List Addr}

theorem below_push (KB : Below A base fl s.heap) (f : Fn C K g s env g1 s1 σ) (hts : C.ts = []) (hex : ∀ b ∈ C.ex, base.get? b = none ∧ b ∉ fl.filterMap (·.frame)) (hf : env.frame = some env.locals) : Below (A.deeper env) base (env :: fl) s1.heap where
  stack := Around.frames_deeper KB.stack
  stays := fun b o e => f.keep b o (by rw [hts]; exact fun q => nomatch q) (fun q => by rw [(hex b q).1] at e; cases e) (KB.stays b o e)
  frames := by
    obtain ⟨m, ⟨o, es, ep, ho, hd, _⟩, _⟩ := f.loc.ns
    refine ⟨by rw [f.fn]; decide, ⟨env.locals, o, hf, ?_, ho, fun vs q => by rw [hd] at q; cases q⟩, FunFrames.of_frames KB.frames fun b hb o e => ⟨o, f.keep b o (by rw [hts]; exact fun q => nomatch q) (fun q => (hex b q).2 hb) e, rfl⟩⟩
    cases q : base.get? env.locals with
    | none => rfl
    | some o' => have := KB.stays _ _ q; rw [f.own.1] at this; cases this
theorem upx_fn (f : Fn C K g s env g1 s1 σ) (hts : C.ts = []) : UpX C.ex s.heap s1.heap := fun b o hb e _ => ⟨o.slots, f.keep b o (by rw [hts]; exact fun q => nomatch q) hb e⟩

/-- a new exception leaves its frame -/
theorem exit_new {Q : Unit → Shared → Prop} (KB : Below A base fl s.heap) (f : Fn C K g s env g1 s1 σ) (hts : C.ts = []) (hex : ∀ b ∈ C.ex, base.get? b = none ∧ b ∉ fl.filterMap (·.frame)) (hf : env.frame = some env.locals)
    (hx : Heap.NewExc s1.heap s2.heap e "ValueError") (ho : Out s1 s2) (hb : s2.gens = s1.gens)
    (hq : ∀ s', Rz base fl e C.ex s s' → Q () s') : wpAny M (A.deeper env) (leaving env (.ref e)) Q E s2 := by
  have K2 := below_push KB f hts hex hf
  obtain ⟨ob, t, he, hc, hd⟩ := hx.there
  have hen : base.get? e = none := by
    cases q : base.get? e with
    | none => rfl
    | some o => have := K2.stays e o q; rw [hx.new] at this; cases this
  refine wpAny_leaving_firstW (base := base) K2.stack (K2.frames.of_keeps fun b o e _ => ⟨o, hx.keeps b o e, rfl⟩) hf he (fun b o e => hx.keeps b o (K2.stays b o e)) hen hd rfl rfl fun h' hL => ?_
  obtain ⟨k1, ⟨_, _, k2⟩, k3, k4⟩ := hL
  refine hq _ ⟨⟨t, k1, hen, k2, by rw [hc] at k3; exact k3⟩, ((upx_fn f hts).trans fun b o _ e _ => ⟨o.slots, hx.keeps b o e⟩).trans (UpX.of k4 _), ?_, by rw [hb]; exact f.st.gens⟩
  have := ho.trans f.os
  exact ⟨this.1, this.2, this.3⟩

theorem wpAny_leaving_anyW {outer : List Env} {L : Addr} {cls a0 fl' : Value} {Q : Unit → Shared → Prop} (hfr : A.frames = some (env :: outer)) (hl : s.heap.FunFrames base (env :: outer)) (hf : env.frame = some L) (ht : s.heap.TracedAtW base e cls a0 fl') (hkb : base.StaysIn s.heap) (hen : base.get? e = none)
    (h : ∀ h', Heap.FlyingW base outer e cls a0 h' → s.heap.UpToSlots h' → Q () { s with heap := h' }) : wpAny M A (leaving env (.ref e)) Q E s := by
  by_cases hfl : fl' = rawInt L
  · subst hfl
    unfold leaving
    refine wpAny_bind (wpAny_noteFrame_againW hf ht ?_)
    refine wpAny_landsW (l := env :: outer) ⟨hkb, hen, hl, ht⟩ fun h' hfl hu => ?_
    obtain ⟨k1, k2, ⟨_, _, k3⟩, k4⟩ := hfl
    exact h h' ⟨k1, k2, k3, k4⟩ hu
  · obtain ⟨oe, vs, T, oT, ts, he, ⟨hcls, h0⟩, hd, h1, hnT, hTe, hT, hdT, h3⟩ := ht
    subst hcls
    unfold leaving noteFrame
    simp only [hf]
    refine wpAny_bind (wpAny_bind (wpAny_field he hd h1 ?_))
    rw [if_pos (show (Value.ref T != Value.none) = true from by simp)]
    refine wpAny_bind (wpAny_field hT hdT h3 ?_)
    rw [if_neg (show ¬ ((fl' == rawInt L) = true) from by simpa using hfl)]
    refine wpAny_bind (wpAny_setField hT hdT (Array.getElem?_eq_some_iff.mp h3).1 ?_)
    have other : ∀ b, b ≠ T → (s.heap.update T (Obj.mapFields (·.setIfInBounds 3 Value.none))).get? b = s.heap.get? b := fun b hb => Heap.get?_update_other _ _ (Ne.symm hb)
    have noRecord : ∀ b o, s.heap.get? b = some o → (∀ vs, o.data ≠ .fields vs) → b ≠ T := fun b o hb hnf q => by
      rw [q, hT] at hb; injection hb with hb; subst hb; exact hnf ts hdT
    refine wpAny_newEntryW hfr (hl.of_keeps fun b o hb hnf => ⟨o, (other b (noRecord b o hb hnf)).trans hb, rfl⟩) hf ((other e (Ne.symm hTe)).trans he)
      (fun b o hbo => (other b fun q => by rw [q, hnT] at hbo; cases hbo).trans (hkb b o hbo)) hen hd (Array.getElem?_eq_some_iff.mp h1).1 h0
      fun h' ⟨x1, ⟨_, _, x2⟩, x3, x4⟩ => h h' ⟨x1, hen, x2, x3⟩ fun b o hb hnf => x4 b o ((other b (noRecord b o hb hnf)).trans hb) hnf

/-- it goes on through the next frame -/
theorem exit_on {Q : Unit → Shared → Prop} (KB : Below A base fl s.heap) (f : Fn C K g s env g1 s1 σ) (hts : C.ts = []) (hf : env.frame = some env.locals)
    (r : Rx base (env :: fl) e ex s1 s2) (hexs : ∀ b ∈ ex, b ∉ C.ex → s.heap.get? b = none)
    (hq : ∀ s', Rz base fl e C.ex s s' → Q () s') : wpAny M (A.deeper env) (leaving env (.ref e)) Q E s2 := by
  obtain ⟨⟨a0, w, h1, h2, h3, h4⟩, hu, ho, hb⟩ := r
  refine wpAny_leaving_anyW (Around.frames_deeper KB.stack) h3 hf h4 h1 h2 fun h' hfl hu' => ?_
  refine hq _ ⟨⟨a0, hfl⟩, ?_, ?_, hb⟩
  · intro b o hbx e hn
    obtain ⟨_, e1⟩ := upx_fn f hts b o hbx e hn
    have hbe : b ∉ ex := fun q => by rw [hexs b q hbx] at e; cases e
    obtain ⟨_, e2⟩ := hu b _ hbe e1 hn
    obtain ⟨sl, e3⟩ := hu' b _ e2 hn
    exact ⟨sl, e3⟩
  · have := ho.trans f.os
    exact ⟨this.1, this.2, this.3⟩
end
end Mine
end
section
open PySem PySem.W PySem.Calls PyProof.Rows PySem.Spec PySem.NumText Builtin Builtin.Str
set_option Elab.async false
set_option maxRecDepth 100000
set_option maxHeartbeats 0
set_option linter.unusedVariables false
set_option pp.deepTerms false
set_option pp.deepTerms.threshold 2
namespace Mine
variable {C : Cfg} {K : Frag}

section
variable {M : Model} {A : Around} {E : Value → Shared → Prop} {s : Shared}
theorem setFlight_any {base : Heap} {l : List Env} {e : Addr} {cls a0 w : Value} {fr : Option Addr} {Q : Unit → Shared → Prop}
    (hkb : base.StaysIn s.heap) (hl : s.heap.FunFrames base l) (ht : s.heap.TracedAtW base e cls a0 w)
    (h : ∀ h' w', base.StaysIn h' → h'.FunFrames base l → h'.TracedAtW base e cls a0 w' → (∀ b o, s.heap.get? b = some o → (∀ vs, o.data ≠ .fields vs) → h'.get? b = some o) → Q () { s with heap := h' }) :
    wpAny M A (setFlight (.ref e) fr) Q E s := by
  obtain ⟨oe, vs, T, oT, ts, he, hcls, hd, h1, hnT, hTe, hT, hdT, h3⟩ := ht
  have hsz3 : 3 < ts.size := (Array.getElem?_eq_some_iff.mp h3).1
  have other : ∀ b, b ≠ T → (s.heap.update T (Obj.mapFields (·.setIfInBounds 3 (fr.elim Value.none fun f => rawInt f)))).get? b = s.heap.get? b :=
    fun b hb => Heap.get?_update_other _ _ (Ne.symm hb)
  have noRecord : ∀ b o, s.heap.get? b = some o → (∀ vs, o.data ≠ .fields vs) → b ≠ T := fun b o hb hnf q => by
    rw [q, hT] at hb; injection hb with hb; subst hb; exact hnf ts hdT
  unfold setFlight
  refine wpAny_bind (wpAny_field he hd h1 ?_)
  rw [if_pos (show (Value.ref T != Value.none) = true from by simp)]
  refine wpAny_setField hT hdT hsz3 (h _ (fr.elim Value.none fun f => rawInt f) (fun b o hbo => (other b fun q => by rw [q, hnT] at hbo; cases hbo).trans (hkb b o hbo))
    (hl.of_keeps fun b o hb hnf => ⟨o, (other b (noRecord b o hb hnf)).trans hb, rfl⟩) ?_ fun b o hb hnf => (other b (noRecord b o hb hnf)).trans hb)
  exact ⟨oe, vs, T, _, _, (other e (Ne.symm hTe)).trans he, hcls, hd, h1, hnT, hTe, Heap.get?_update_self _ hT (Obj.isFreed_of_fields (Obj.data_mapFields hdT _)), Obj.data_mapFields hdT _, by simp [hsz3]⟩
theorem passOn_any {α : Type} {what : String} {base : Heap} {l : List Env} {e : Addr} {cls a0 w : Value} {env : Env} {Q : α → Shared → Prop}
    (hkb : base.StaysIn s.heap) (hl : s.heap.FunFrames base l) (ht : s.heap.TracedAtW base e cls a0 w)
    (h : ∀ h' w', base.StaysIn h' → h'.FunFrames base l → h'.TracedAtW base e cls a0 w' → (∀ b o, s.heap.get? b = some o → (∀ vs, o.data ≠ .fields vs) → h'.get? b = some o) → E (.ref e) { s with heap := h' }) :
    wpAny M A (PySem.passOn what (.ref e) env : Sem α) Q E s := by
  obtain ⟨oe, vs, T, oT, ts, he, hcls, hd, h1, r⟩ := id ht
  unfold PySem.passOn
  refine wpAny_bind (wpAny_field he hd h1 ?_)
  rw [if_neg (show ¬ ((Value.ref T == Value.none) = true) from by simp)]
  exact wpAny_bind (setFlight_any hkb hl ht fun h' w' a b c d => wpAny_throw (h h' w' a b c d))

/-- an element of a block raises: through the block -/
theorem comp_err {base : Heap} {fl : List Env} {env cenv : Env} {Cc L : Addr} {e : Addr} {use : Option (Value → Sem Unit)} {Q : Value → Shared → Prop} {acc : Value} {s1 s2 : Shared} {m : Str → Option Value}
    (hfr : A.frames = some (env :: fl)) (hf : env.frame = some L) (hcf : cenv.frame = env.frame) (hn : s1.heap.Ns Cc m) (hb : base.get? Cc = none) (hff : Cc ∉ (env :: fl).filterMap (·.frame))
    (r : Rz base (env :: fl) e [] s1 s2) (hE : ∀ s', Rx base (env :: fl) e [Cc] s1 s' → E (.ref e) s') :
    notedBy M A cenv (fun v s' => compPost M A E use Q acc Cc (.error v) s') (.ref e) s2 := by
  obtain ⟨⟨a0, hfl⟩, hu, ho, hg⟩ := r
  have e1 : noteFrame (.ref e) cenv = noteFrame (.ref e) env := by
    unfold noteFrame PySem.frameOf; rw [hcf]
  show wpAny M A (noteFrame (.ref e) cenv) _ _ s2
  rw [e1]
  refine wpAny_looks_onW hfr hf hfl fun h3 hh hu3 => ?_
  have hu' : s1.heap.UpToSlots s2.heap := fun b o e hn => hu b o (fun q => nomatch q) e hn
  have hn3 : h3.Ns Cc m := hu3.ns (hu'.ns hn)
  obtain ⟨k1, k2, k3, k4⟩ := hh
  have main : ∀ (h4 : Heap), Heap.SameBut Cc h3 h4 → ∀ cenv' : Env, cenv'.locals = Cc → wpAny M A (PySem.passOn "comprehension.variables-let-go" (.ref e) cenv' : Sem Value) (fun _ _ => False) E { { s2 with heap := h3 } with heap := h4 } := by
    intro h4 hs cenv' _
    obtain ⟨oe, vs, T, oT, ts, he, hcls, hd, h1, hnT, hTe, hT, hdT, hw⟩ := k4
    obtain ⟨oc, es, ep, hoc, hdc, _⟩ := hn3
    have neC : ∀ b o, h3.get? b = some o → (∃ vs, o.data = .fields vs) → b ≠ Cc := fun b o hb ⟨vs, hv⟩ q => by
      rw [q, hoc] at hb; cases hb; rw [hdc] at hv; cases hv
    refine passOn_any (base := base) (l := env :: fl) (cls := VE) (a0 := a0) (w := rawInt L) (fun b o hbo => hs.extBut b o (fun q => by rw [q, hb] at hbo; cases hbo) (k1 b o hbo)) (FunFrames.of_frames k3 fun b hbm o hbo => ⟨o, hs.extBut b o (fun q => hff (q ▸ hbm)) hbo, rfl⟩)
      ⟨oe, vs, T, oT, ts, hs.extBut e oe (neC e oe he ⟨vs, hd⟩) he, hcls, hd, h1, hnT, hTe, hs.extBut T oT (neC T oT hT ⟨ts, hdT⟩) hT, hdT, hw⟩ fun h5 w' a b c d => hE _ ⟨⟨a0, w', a, k2, b, c⟩, ?_, ⟨ho.1, ho.2, ho.3⟩, hg⟩
    intro b o hbx e5 hn5
    obtain ⟨sl1, e6⟩ := hu' b o e5 hn5
    obtain ⟨sl2, e7⟩ := hu3 b _ e6 hn5
    have e8 := hs.extBut b _ (fun q => hbx (by simp [q])) e7
    exact ⟨sl2, d b _ e8 hn5⟩
  cases use with
  | none => exact ⟨m, hn3, main⟩
  | some u => exact ⟨m, hn3, main⟩
end

section
variable {A : Around} {E : Value → Shared → Prop} {g₀ g : Heap} {s₀ s : Shared} {env : Env} {σ : Str → Option Value}
variable {elt iter : Expr} {x : Str} {px pos : Pos} {scope : Scope} {cl : List (Str × Addr)}

/-- y = [elt for x in iter], whose elements may raise -/
theorem comp1_nameR {base : Heap} {fl : List Env} {L : Addr} {y : Str} {py spos : Pos} {Q : Flow → Shared → Prop} (f : Fn C K g₀ s₀ env g s σ) (hts : C.ts = []) (hex : C.ex = []) (KB : Below A base (env :: fl) s.heap) (hf : env.frame = some L)
    (h : wpAny C.M A (eval iter env) (fun xv s₁ => wpAny C.M A (pyIter xv) (fun it s₂ => ∃ I g₂ n P, ∃ O : Nat → List Value → Heap → Prop, it = .ref I ∧ ItOk C A g s g₂ s₂ I n P ∧ n ≤ sizeLine ∧ O 0 [] g₂ ∧ (∀ i ys g g', Sub g g' → O i ys g → O i ys g') ∧
      (∀ Cc i v gk sk s1 ys, i < n → P i v sk → Fn C K g s (compEnvC scope cl Cc env) gk s1 (fun y => if y = x then some v else σc cl σ y) → Sub g₂ gk → ys.length = i → O i ys gk → Below A base (env :: fl) s1.heap →
        wpAny C.M A (eval elt (compEnvC scope cl Cc env)) (fun y s2 => ∃ g3, Gr C gk s1 g3 s2 ∧ O (i + 1) (ys ++ [y]) g3) (fun v s2 => ∃ e, v = .ref e ∧ Rz base (env :: fl) e [] s1 s2) s1) ∧
      (∀ D ys g' s', Fn C K g₀ s₀ env g' s' (fun z => if z = y then some (.ref D) else σ z) → Sub g g' → g'.PlainList D ys.toArray → ys.length = n → O n ys g' → Q .next s')) E s₁) E s)
    (hE : ∀ e s', Rx base (env :: fl) e [] s s' → E (.ref e) s')
    (hsw : swapsWith (.ListComp elt [⟨.Name x px, iter, [], 0⟩] scope pos) (some (.Name y py)) spos.line env = pure true := by with_unfolding_all rfl)
    (hcl : clFrom env.cells scope.names [] = some cl := by rfl) (hcell : ∀ y ∈ scope.names, y.2 ≠ .cell := by decide) (hkind : scope.kind = .function := by rfl)
    (hnames : ∀ y ∈ scope.names, y.2 = .local → scope.names.lookup y.1 = some .local := by decide) (hlook : ∀ Cc, cellsOk (compEnvC scope cl Cc env) = true := by intro _; rfl)
    (hx : ∀ Cc, (compEnvC scope cl Cc env).kindOf x = some .local := by intro _; rfl) (hy : storeOk env y = true := by rfl) (hyc : cellsOk env = true := by rfl)
    (hs : ∀ x, foldedSetIterable iter env x = pure x := by intro _; rfl) :
    wpAny C.M A (exec (.Assign [.Name y py] (.ListComp elt [⟨.Name x px, iter, [], 0⟩] scope pos) spos) env) Q E s := by
  rw [exec_Assign_Name_used _ _ _ _ hsw]
  refine wpAny_bind (wpAny_standAt (wpAny_bind ?_))
  show wpAny _ A (do let _ ← comprehension (.ListComp elt [⟨.Name x px, iter, [], 0⟩] scope pos) scope env _ (newList []) false (eval iter env) (some (assign (.Name y py) env))) _ _ s
  refine wpAny_bind (wpAny_mono (wpAny_comprehension_free (use := some (assign (.Name y py) env)) (Q := fun _ s' => Q .next s') rfl hs (closureFor_eq hcl) hkind hnames
    (wpAny_mono h (fun xv s₁ h₁ => wpAny_mono h₁ (fun it s₂ h₂ => ?_) fun _ _ e => e) fun _ _ e => e)) (fun _ s' hq => wpAny_pure (wpAny_pure hq)) fun _ _ e => e)
  obtain ⟨I, g₂, n, P, O, rfl, ⟨fp, wr, S, W, hS, hwr, hfp, G⟩, hn, hO, hmono, helt, hQ⟩ := h₂
  refine comp_block (RR := fun acc Cc => compPost C.M A E (some (assign (.Name y py) env)) (fun _ s' => Q .next s') acc Cc) (N := [x]) rfl f.view G hcl hcell hkind hlook W hS fun D Cc s4 hD hC x0 hS4 _ _ hCn => ?_
  refine comp_clause _ (turn1 _ _ _ _ _ _ _ _) W (fun i ys g => ys.length = i ∧ O i ys g) hD hC (notExFp f.st hwr hfp G) (fun b hb => (hwr b hb).1) (fun b hb => (hwr b hb).2) x0 hS4 ⟨rfl, hO⟩ ?_ fun ge se σe ys c h _ => ?_
  · intro i v gk sk σk ys hi hP c hsub ho hS'
    refine wpAny_mono (emit_name (O' := fun ys g => ys.length = i + 1 ∧ O (i + 1) ys g) (px := px) (I := I) (E := fun u s2 => ∃ e s1, u = .ref e ∧ Fn C K g s (compEnvC scope cl Cc env) gk s1 (fun y => if y = x then some v else σc cl σ y) ∧ Rz base (env :: fl) e [] s1 s2) (hx Cc) (hlook Cc) (by have := ho.1; omega) c fun s1 f1 => ?_) (fun _ s2 h => h) fun u s2 hu => ?_
    · have keep1 : ∀ b o, s.heap.get? b = some o → s1.heap.get? b = some o := fun b o e => f1.keep b o (by rw [hts]; exact fun q => nomatch q) (by rw [hex]; exact fun q => nomatch q) e
      refine wpAny_mono (helt Cc i v gk sk.heap s1 ys hi hP f1 hsub ho.1 ho.2 ⟨KB.stack, fun b o e => keep1 b o (KB.stays b o e), FunFrames.of_frames KB.frames fun b _ o e => ⟨o, keep1 b o e, rfl⟩⟩) (fun y s2 h => ?_) fun u s2 h => ?_
      · obtain ⟨g3, a, b⟩ := h
        exact ⟨g3, a, by rw [List.length_append, ho.1]; rfl, b⟩
      · obtain ⟨e, rfl, r⟩ := h
        exact ⟨e, s1, rfl, f1, r⟩
    · obtain ⟨e, s1, rfl, f1, r⟩ := hu
      have keep1 : ∀ b o, s.heap.get? b = some o → s1.heap.get? b = some o := fun b o e => f1.keep b o (by rw [hts]; exact fun q => nomatch q) (by rw [hex]; exact fun q => nomatch q) e
      obtain ⟨m, hm, _⟩ := f1.loc.ns
      have hbase : base.get? Cc = none := by
        cases q : base.get? Cc with
        | none => rfl
        | some o => have := KB.stays _ _ q; rw [show s.heap.get? Cc = none from f1.own.1] at this; cases this
      have hff : Cc ∉ (env :: fl).filterMap (·.frame) := fun q => by
        obtain ⟨_, o, ho', _⟩ := KB.frames.mem q
        rw [show s.heap.get? Cc = none from f1.own.1] at ho'; cases ho'
      refine comp_err KB.stack hf rfl hm hbase hff r fun s' rx => hE e s' ?_
      obtain ⟨a, b, c, d⟩ := rx
      refine ⟨a, fun b' o _ e1 hn => ?_, c.trans f1.os, d⟩
      exact b b' o (fun q => by rw [List.mem_singleton.mp q, show s.heap.get? Cc = none from f1.own.1] at e1; cases e1) (keep1 b' o e1) hn
  · exact comp_ends_name f c hy hyc fun g' s' f' hs1 hs2 hpl => hQ D ys g' s' f' hs1 hpl h.1 (hmono _ _ _ _ hs2 h.2)
end
end Mine
end
section
open PySem PySem.W PySem.Calls PyProof.Rows PySem.Spec PySem.NumText Builtin Builtin.Str
set_option Elab.async false
set_option maxRecDepth 100000
set_option maxHeartbeats 0
set_option linter.unusedVariables false
set_option pp.deepTerms false
set_option pp.deepTerms.threshold 2
namespace Mine
variable {C : Cfg} {K : Frag}

section
variable {A : Around} {E : Value → Shared → Prop} {g : Heap} {s : Shared}
/-- a class is called: what its __init__ tells, and what stood before -/
theorem mkInstR {Cc fI : Addr} {rest : List Value} {kw : List (Str × Value)} {Q : Value → Shared → Prop} (st : St C K g s) (hm : makesIn K Cc = true)
    (hi : findIn K (.ref Cc) "__init__" = some (some (.ref fI))) (hf : typeIn K (.ref fI) = some (.type "function"))
    (h : ∀ x dx g₁ s₁, St (C.x dx) K g₁ s₁ → Sub g g₁ → Und C g₁ s₁.heap x Cc dx [] → Sub s.heap s₁.heap → s.heap.get? dx = none → Out s s₁ →
      codeAny C.M (A.under (.builtin "type.__call__" ⟨.ref Cc :: rest, kw⟩)) (.call (.ref fI) ⟨.ref x :: rest, kw⟩) (InitPost C E g s x Cc dx Q g₁ s₁) s₁) : wpAny C.M A (call (.ref Cc) rest kw) Q E s := by
  obtain ⟨hh, gs, dr, tk, os⟩ := s
  have X : K.In hh := st.kin'
  refine wpAny_call (make_core (makes_of X hm) (looks_findIn X hi) (fun self => bind_fn X self hf) (.inl rfl) ?_)
  have eqd : (hh.push emptyDict).get? hh.objs.size = some emptyDict := Heap.get?_push_size _ rfl
  have hsz : (hh.push emptyDict).objs.size = hh.objs.size + 1 := Heap.size_push ..
  generalize hH2 : (hh.push emptyDict).push (instObj Cc hh.objs.size) = H2
  have old : Sub hh H2 := fun b o e => hH2 ▸ Heap.get?_push_of_some _ (Heap.get?_push_of_some _ e)
  have fr : ∀ b, hh.objs.size ≤ b → hh.get? b = none := fun b hb => Heap.get?_none_of_le hb
  have hD : H2.get? hh.objs.size = some (dictOf [] 0) := hH2 ▸ Heap.get?_push_of_some _ eqd
  have hX : H2.get? (hh.objs.size + 1) = some (instObj Cc hh.objs.size) := by rw [← hH2, ← hsz]; exact Heap.get?_push_size _ rfl
  have gn : ∀ b, hh.objs.size ≤ b → g.get? b = none := fun b hb => none_of_sub st.sub (fr b hb)
  have nx : hh.objs.size ∉ C.ex := fun q => by
    obtain ⟨o, e⟩ := st.exs _ q
    rw [show (⟨hh, gs, dr, tk, os⟩ : Shared).heap = hh from rfl, fr _ (Nat.le_refl _)] at e; cases e
  have nX : hh.objs.size + 1 ∉ C.ex := fun q => by
    obtain ⟨o, e⟩ := st.exs _ q
    rw [show (⟨hh, gs, dr, tk, os⟩ : Shared).heap = hh from rfl, fr _ (Nat.le_succ _)] at e; cases e
  have nt : ∀ b, hh.objs.size ≤ b → b ∉ C.ts := fun b hb q => by
    obtain ⟨ps, e, _⟩ := st.tab _ q
    rw [show (⟨hh, gs, dr, tk, os⟩ : Shared).heap = hh from rfl, fr _ hb] at e; cases e
  have sg : Sub g H2 := fun b o e => old b o (st.sub b o e)
  have up1 : Sub g (addG g H2 (hh.objs.size + 1)) := addG_up sg
  have st1 : St (C.x hh.objs.size) K (addG g H2 (hh.objs.size + 1)) ⟨H2, gs, dr, tk, os⟩ := {
    sub := addG_sub
    gt := fun P hP => addG_none (st.gt P hP) fun q => by rw [q] at hP; exact nt _ (Nat.le_succ _) hP
    ge := fun P hP => by
      rcases List.mem_cons.mp hP with rfl | hP
      · exact addG_none (gn _ (Nat.le_refl _)) (Nat.ne_of_lt (Nat.lt_succ_self _))
      · exact addG_none (st.ge P hP) fun q => nX (q ▸ hP)
    exs := fun b hb => by
      rcases List.mem_cons.mp hb with rfl | hb
      · exact ⟨_, hD⟩
      · obtain ⟨o, e⟩ := st.exs b hb; exact ⟨o, old b o e⟩
    tab := fun P hP => (st.tab P hP).keeps old
    gens := st.gens
    kin := st.kin.keeps up1
    top := st.top.keeps up1 }
  have u1 : Und C (addG g H2 (hh.objs.size + 1)) H2 (hh.objs.size + 1) Cc hh.objs.size [] := ⟨nx, by rw [addG_D]; exact hX, [], 0, hD, .nil⟩
  refine codeAny_mono (h (hh.objs.size + 1) hh.objs.size _ ⟨H2, gs, dr, tk, os⟩ st1 up1 u1 old (fr _ (Nat.le_refl _)) ⟨rfl, rfl, fun _ _ e => e⟩) fun r s' z => ?_
  rcases r with e | (v | _ | _ | _) <;> first | exact z | exact z.elim | skip
  obtain ⟨rfl, g', fs, y, u, hq⟩ := z
  refine ⟨rfl, ?_⟩
  obtain ⟨es, n, hd, en⟩ := u.dict
  have sg' : Sub g' (addG g' s'.heap hh.objs.size) := addG_up y.sub
  refine hq (addG g' s'.heap hh.objs.size) sg' ⟨fun b o e => sg' b o (y.up b o (up1 b o e)), addG_sub, fun b o hb hx e => ?_, fun b hb o e => y.exk b (.tail _ hb) o (old b o e), fun b o e1 e2 => ?_, y.tab, y.gens, ⟨y.os.1, y.os.2, y.os.3⟩, fun P hP e => ?_⟩ ⟨hh.objs.size, es, n, sg' _ _ u.at_, by rw [addG_D]; exact hd, en⟩
  · refine y.keep b o hb (fun q => ?_) (old b o e)
    rcases List.mem_cons.mp q with rfl | q
    · have := fr _ (Nat.le_refl hh.objs.size); rw [show (⟨hh, gs, dr, tk, os⟩ : Shared).heap = hh from rfl, this] at e; cases e
    · exact hx q
  · have hlt : b < hh.objs.size := Heap.lt_size (show hh.get? b = some o from e2)
    refine addG_none (y.fresh b o (addG_none e1 (Nat.ne_of_lt (Nat.lt_succ_of_lt hlt))) (old b o e2)) (Nat.ne_of_lt hlt)
  · refine addG_none (y.geR P (.tail _ hP) (addG_none e fun q => nX (q ▸ hP))) fun q => nx (q ▸ hP)
theorem Rz.base_of {base : Heap} {fl : List Env} {e : Addr} {ex : List Addr} {s s₁ s' : Shared} (k : Sub s.heap s₁.heap) (o : Out s s₁) (hn : ∀ b ∈ ex, s.heap.get? b = none) (r : Rz base fl e ex s₁ s') : Rz base fl e [] s s' :=
  let ⟨a, b, c, d⟩ := r; ⟨a, fun x obj _ e1 hn1 => b x obj (fun q => by rw [hn x q] at e1; cases e1) (k x obj e1) hn1, c.trans o, d⟩
theorem Below.keeps {base : Heap} {fl : List Env} {h h' : Heap} (KB : Below A base fl h) (k : Sub h h') : Below A base fl h' := ⟨KB.stack, fun b o e => k b o (KB.stays b o e), FunFrames.of_frames KB.frames fun b _ o e => ⟨o, k b o e, rfl⟩⟩
theorem Below.at {base : Heap} {fl : List Env} {h : Heap} {A' : Around} (KB : Below A base fl h) (e : A'.frames = A.frames) : Below A' base fl h := ⟨e.trans KB.stack, KB.stays, KB.frames⟩
end
end Mine
end
section
open PySem PySem.W PySem.Calls PyProof.Rows PySem.Spec PySem.NumText Builtin Builtin.Str
set_option Elab.async false
set_option maxRecDepth 100000
set_option maxHeartbeats 0
set_option linter.unusedVariables false
set_option pp.deepTerms false
set_option pp.deepTerms.threshold 2
namespace Mine
variable {C : Cfg} {K : Frag}

/-- a lambda without parameters stands at fa -/
def LamAt (g : Heap) (fa : Addr) (name qual : Str) (params : Arguments) (body : Expr) (scope : Scope) (clos : List (Str × Addr)) : Prop :=
  ∃ pm c' ctv, g.get? fa = some (kla_obj name qual params body scope clos pm c' ctv) ∧ g.CodeRec (.ref c') qual
section
variable {M : Model} {A : Around} {E : Value → Shared → Prop} {g₀ g : Heap} {s₀ s : Shared} {env : Env} {σ : Str → Option Value}

/-- a name of the builtins, asked beside any frame -/
theorem nmB_st {x : Str} {pos : Pos} {v : Value} {Q : Value → Shared → Prop} (st : St C K g s) (hfn : env.scope.kind = .function) (hgl : env.globals = mainGlobals) (hbl : env.builtins = builtinsNs) (e : nsIn K mainGlobals x = some none) (hv : bootBuiltins x = some v) (h : Q v s) (hn : x ≠ "__name__" := by decide) (hk : globOk env x = true := by rfl) :
    wpAny M A (eval (.Name x pos) env) Q E s := by
  unfold globOk at hk
  rw [Bool.and_eq_true, beq_iff_eq] at hk
  exact Name_function_global hfn hk.1 (loadGlobal_builtin (env := env) (hgl ▸ st.top.g.keeps st.sub) (mg_none_of st.kin st.top.g e) (hbl ▸ st.top.b.keeps st.sub) ((st.top.builtins x hn).trans hv) h) (by simpa using hk.2)

/-- a lambda is made; the frame's own table takes its code record -/
theorem lamMake {c P : Addr} {ps : Array Value} {name qual : Str} {params : Arguments} {body : Expr} {scope : Scope} {pos : Pos} {firstLine : Nat} {clos : List (Str × Addr)} {Q : Value → Shared → Prop}
    (f : Fn C K g₀ s₀ env g s σ) (hc : env.code = .ref c) (hK : codeHdIn K c P = true) (hPt : P ∉ C.ts) (hPx : P ∉ C.ex) (hP0 : s₀.heap.get? P = none) (hP : g.get? P = some (tabObj ps)) (hKP : K.lookup P = none)
    (ht : TriplesOk ps.toList) (hnf : codeAmong pos ps.toList = none) (hcl : closureFor scope env = pure clos)
    (hkeep : ∀ b o, g₀.get? b = some o → b ≠ P)
    (h : ∀ fa c' g' s', Fn C K g₀ s₀ env g' s' σ → (∀ b o, b ≠ P → g.get? b = some o → g'.get? b = some o) → LamAt g' fa name qual params body scope clos → g'.get? P = some (tabObj (ps ++ #[rawInt pos.line, rawInt pos.col, .ref c'])) →
      (s.heap.get? fa = none) → Q (.ref fa) s') :
    wpAny M A (makeFunction name qual params (.expr body) scope env [] [] [] pos firstLine) Q E s := by
  have hPs := f.st.sub _ _ hP
  obtain ⟨bm, ob, b1, b2, b3, b4, b5, b6⟩ := f.st.top.bmain
  have hgP : mainGlobals ≠ P := fun q => by
    obtain ⟨o, es, ep, e, hd, _⟩ := f.st.top.g
    rw [q, hP] at e; cases e; cases hd
  have hbP : bm ≠ P := fun q => by
    rw [q, hP] at b3; cases b3; cases b4
  have hbG : bm ≠ mainGlobals := fun q => by
    obtain ⟨o, es, ep, e, hd, _⟩ := f.st.top.g
    rw [q, e] at b3; cases b3; rw [hd] at b6; cases b6
  refine kla_makeFunction hcl f.gl (f.st.top.g.keeps f.st.sub) hc (codeHd_of_K (f.st.kin.keeps f.st.sub) hK) hPs ht hnf hgP ⟨bm, ob, b1, b2, hbG, hbP, f.st.sub _ _ b3, b4, b5, b6⟩ fun c' ctv h' tk hx hge hlt hrec htb => ?_
  generalize hob : kla_obj name qual params body scope clos _ c' ctv = ob'
  have hobt : ob'.isFreed = false := by rw [← hob]; rfl
  -- the frame without its table
  have gd : ∀ b o, g₀.get? b = some o → (delL g [P]).get? b = some o := fun b o e => delL_ne (f.up b o e) (by simpa using hkeep b o e)
  have f1 := f.weaken (gb := delL g [P]) delL_sub gd
  have kx : ∀ b o, b ∉ [P] → s.heap.get? b = some o → (h'.push ob').get? b = some o := fun b o hb e => Heap.get?_push_of_some _ (hx b o (by simpa using hb) e)
  have hPL : ∀ b ∈ [P], b ≠ env.locals := fun b hb q => by
    obtain ⟨m, ⟨o, es, ep, e, hd, _⟩, _⟩ := f.loc.ns
    rw [List.mem_singleton.mp hb] at q
    rw [← q, hPs] at e; cases e; cases hd
  have hPc : ∀ b ∈ [P], ∀ n, env.cells.lookup n ≠ some b := fun b hb n q => by
    obtain ⟨o, e, hd⟩ := f.loc.cell n b q
    rw [List.mem_singleton.mp hb, hPs] at e; cases e; cases hd
  have f2 := f1.wr (wr := [P]) (h' := h'.push ob') (t := tk) kx (fun b hb q => absurd q (by rw [List.mem_singleton.mp hb]; exact hPx)) (fun b hb => delL_in hb) (fun b hb => .inr (by rw [List.mem_singleton.mp hb]; exact hP0)) (fun b hb => by rw [List.mem_singleton.mp hb]; exact hPt) hPL hPc
  -- and with all that is new, and the table
  obtain ⟨c2, oc, vs, t, e2, hoc, hd, hv⟩ := hrec
  cases e2
  have hcn : s.heap.get? c' = none := Heap.get?_none_of_le hge
  have hfn : s.heap.get? h'.objs.size = none := Heap.get?_none_of_le (Nat.le_of_lt (Nat.lt_of_le_of_lt hge hlt))
  have frn : ∀ b, s.heap.get? b = none → s₀.heap.get? b = none ∧ b ∉ C.ts ∧ b ∉ C.ex ∧ b ≠ env.locals ∧ ∀ n, env.cells.lookup n ≠ some b := fun b hb => by
    have ht' : b ∉ C.ts := fun q => by obtain ⟨ps, hp, _⟩ := f.st.tab b q; rw [hb] at hp; cases hp
    have hx' : b ∉ C.ex := fun q => by obtain ⟨o, e⟩ := f.st.exs b q; rw [hb] at e; cases e
    refine ⟨?_, ht', hx', fun q => ?_, fun n q => ?_⟩
    · cases q : s₀.heap.get? b with
      | none => rfl
      | some o => have := f.keep b o ht' hx' q; rw [hb] at this; cases this
    · obtain ⟨m, ⟨o, _, _, e, _⟩, _⟩ := f.loc.ns
      rw [← q, hb] at e; cases e
    · obtain ⟨o, e, _⟩ := f.loc.cell n b q
      rw [hb] at e; cases e
  have hm : ∀ b ∈ [P, c', h'.objs.size], s₀.heap.get? b = none ∧ b ∉ C.ts ∧ b ∉ C.ex ∧ b ≠ env.locals ∧ ∀ n, env.cells.lookup n ≠ some b := fun b hb => by
    rcases List.mem_cons.mp hb with rfl | hb
    · exact ⟨hP0, hPt, hPx, hPL _ (.head _), hPc _ (.head _)⟩
    · rcases List.mem_cons.mp hb with rfl | hb
      · exact frn _ hcn
      · rw [List.mem_singleton.mp hb]; exact frn _ hfn
  have f3 := f2.add (wr := [P, c', h'.objs.size]) (fun b hb => (hm b hb).1) (fun b hb => (hm b hb).2.1) (fun b hb => (hm b hb).2.2.1) (fun q => (hm _ q).2.2.2.1 rfl) (fun b hb => (hm b hb).2.2.2.2)
  have hfa : (h'.push ob').get? h'.objs.size = some ob' := Heap.get?_push_size _ hobt
  refine h h'.objs.size c' _ _ f3 (fun b o hb e => addL_up f2.st.sub b o (delL_ne e (by simpa using hb))) ⟨_, c', ctv, by rw [addL_in (by simp), hfa, ← hob], c', oc, vs, t, rfl, ?_, hd, hv⟩ ?_ hfn
  · rw [addL_in (by simp)]; exact Heap.get?_push_of_some _ hoc
  · rw [addL_in (by simp)]; exact Heap.get?_push_of_some _ htb
end

section
variable {A : Around} {E : Value → Shared → Prop} {g : Heap} {s : Shared}
/-- a lambda without parameters is called -/
theorem callLam {fa : Addr} {name qual : Str} {params : Arguments} {body : Expr} {scope : Scope} {clos : List (Str × Addr)} {τ : Str → Option Value} {Q : Value → Shared → Prop}
    (st : St C K g s) (hl : LamAt g fa name qual params body scope clos) (hcells : ∀ x c, clos.lookup x = some c → g.IsCell c (τ x)) (hroom : A.depth < recursionLimit)
    (hnl : ∀ x, scope.names.lookup x ≠ some .local) (hcell : ∀ y ∈ scope.names, y.2 ≠ .cell) (hap : clos.Pairwise fun x y => x.2 ≠ y.2)
    (h : ∀ L c' s', Sub s.heap s'.heap → Fn C K g s (envX qual scope L fa (.ref c') clos) g s' τ →
      wpAny C.M (A.deeper (envX qual scope L fa (.ref c') clos)) (eval body (envX qual scope L fa (.ref c') clos)) (fun v s'' => Q v s'')
        (fun e s'' => wpAny C.M (A.deeper (envX qual scope L fa (.ref c') clos)) (leaving (envX qual scope L fa (.ref c') clos) e) (fun _ s3 => E e s3) (fun e' s3 => E e' s3) s'') s')
    (hbind : ∀ pm cv ct, bindArgs (kla_fn name qual params body scope clos pm cv ct) ⟨[], []⟩ = pure [] := by intro _ _ _; rfl)
    (hco : scope.isCoroutine = false := by rfl) (hgen : scope.isGenerator = false := by rfl) (hk : scope.kind = .function := by rfl) :
    wpAny C.M A (call (.ref fa) [] []) Q E s := by
  obtain ⟨pm, c', ctv, ho, hrec⟩ := hl
  refine wpAny_call (kla_callFunE hroom (st.sub _ _ ho) rfl hco hgen rfl (hrec.keeps st.sub) ?_)
  rw [hbind]
  refine wpAny_pure (wpAny_newFunctionEnv hcell (fun y hy => by cases hy) (fun h₁ hns hsb => ?_) hk)
  have lim := st.top.nolimit.keeps st.sub
  refine ⟨lim.fresh _ hsb, ?_⟩
  have old : Sub s.heap h₁ := fun b o e => hsb.extBut b o (Nat.ne_of_lt (Heap.lt_size e)) (Heap.get?_push_of_some _ e)
  have hfr : s.heap.get? s.heap.objs.size = none := get_size_none _
  show codeAny _ _ (.expr body (envX qual scope s.heap.objs.size fa (.ref c') clos)) _ _
  refine kla_codeExpr (h s.heap.objs.size c' _ old ?_)
  have nc : ∀ n, (envX qual scope s.heap.objs.size fa (.ref c') clos).kindOf n ≠ some .cell := fun n q => hcell _ (mem_of_lookup (show scope.names.lookup n = some .cell from q)) rfl
  exact {
    st := ⟨fun b o e => old b o (st.sub b o e), st.gt, st.ge, fun b hb => let ⟨o, e⟩ := st.exs b hb; ⟨o, old b o e⟩, fun P hP => (st.tab P hP).keeps old, st.gens, st.kin, st.top⟩
    loc := ⟨⟨_, hns, fun x hx => absurd hx (hnl x)⟩, fun x c e => by
      obtain ⟨o, e1, e2⟩ := hcells x c e
      exact ⟨o, old _ _ (st.sub _ _ e1), e2⟩⟩
    up := fun _ _ e => e
    keep := fun b o _ _ e => old b o e
    fresh := fun _ _ e _ => e
    os := ⟨rfl, rfl, fun _ _ e => e⟩
    exo := fun b hb => by
      obtain ⟨o, e⟩ := st.exs b hb
      refine ⟨fun q => ?_, fun n q => ?_⟩
      · rw [show b = s.heap.objs.size from q, hfr] at e; cases e
      · obtain ⟨o', e1, _⟩ := hcells n b q
        rw [st.ge b hb] at e1; cases e1
    st₀ := st
    own := ⟨hfr, none_of_sub st.sub hfr⟩
    ownC := fun _ n c _ q => absurd q (nc n)
    gC := fun _ n c _ q => absurd q (nc n)
    apart := fun _ => hap
    apartL := fun n c e q => by
      obtain ⟨o, e1, _⟩ := hcells n c e
      have := st.sub _ _ e1
      rw [show c = s.heap.objs.size from q, hfr] at this; cases this
    fn := hk
    gl := rfl
    bl := rfl }

/-- try: body, which raises ValueError; except ValueError: suite -/
theorem tryValue {base : Heap} {fl : List Env} {env : Env} {L : Addr} {body orelse suite : List Stmt} {b₀ : Stmt} {np hp pos : Pos} {Q : Flow → Shared → Prop}
    (st : St C K g s) (hts : C.ts = []) (hex : C.ex = []) (hgb : Sub g base) (hfr : A.frames = some (env :: fl)) (hf : env.frame = some L)
    (hfn : env.scope.kind = .function) (hgl : env.globals = mainGlobals) (hbl : env.builtins = builtinsNs) (hns : nsIn K mainGlobals "ValueError" = some none) (hk : globOk env "ValueError" = true)
    (hbody : wpAny C.M A (execs body env) (fun _ _ => False) (fun v s1 => ∃ e, v = .ref e ∧ Rz base (env :: fl) e [] s s1) s)
    (h : ∀ e s' E', base.StaysIn s'.heap → s.heap.UpToSlots s'.heap → Out s s' → AllBare s'.gens → wpAny C.M (A.mark (some (.ref e))) (execs (b₀ :: suite) env) Q E' s') :
    wpAny C.M A (exec (.Try body [.ExceptHandler (some (.Name "ValueError" np)) none (b₀ :: suite) hp] orelse [] pos) env) Q E s := by
  refine wpAny_Try_except (wpAny_mono hbody (fun _ _ q => q.elim) fun v s1 hv => ?_)
  obtain ⟨e, rfl, ⟨a0, hfl⟩, hu, ho, hg⟩ := hv
  have hu1 : s.heap.UpToSlots s1.heap := fun b o e hn => hu b o (fun q => nomatch q) e hn
  refine wpAny_looks_onW hfr hf hfl fun h2 hh2 hu2 => ?_
  refine wpAny_landsW hh2 fun h3 hfl3 hu3 => ?_
  obtain ⟨ob, hob, hobc⟩ := hfl3.there
  have sub3 : Sub g h3 := fun b o e => hfl3.1 b o (hgb b o e)
  have st3 : St C K g { s1 with heap := h3 } := ⟨sub3, fun P hP => (by rw [hts] at hP; cases hP), fun P hP => (by rw [hex] at hP; cases hP), fun P hP => (by rw [hex] at hP; cases hP), fun P hP => (by rw [hts] at hP; cases hP), hg, st.kin, st.top⟩
  refine wpAny_handleBy_builtin (X := "ValueError") (T := "ValueError") (b := true) PySem.F.isExc_ValueError PySem.F.notTuple_ValueError (by rw [isSubtype_type]; kernel_rfl) ?_
  refine nmB_st (C := C) (K := K) (g := g) st3 hfn hgl hbl hns (by boot_by_name) ⟨rfl, ⟨ob, hob, hobc⟩, ?_⟩ (by decide) hk
  refine lands_againW hfl3 fun h4 hfl4 hu4 => ?_
  exact h e _ _ hfl4.1 (((hu1.trans hu2).trans hu3).trans hu4) ⟨ho.1, ho.2, ho.3⟩ hg
end
end Mine
end
section
open PySem PySem.W PySem.Calls PyProof.Rows PySem.Spec PySem.NumText Builtin Builtin.Str PySem.SeqAt
set_option Elab.async false
set_option maxRecDepth 100000
set_option maxHeartbeats 0
set_option linter.unusedVariables false
set_option pp.deepTerms false
set_option pp.deepTerms.threshold 2
namespace Mine
variable {C : Cfg} {K : Frag}

theorem Fn.rebase {g₀ g : Heap} {s₀ s : Shared} {env : Env} {σ : Str → Option Value} {P : Addr} (f : Fn C K g₀ s₀ env g s σ) (hg : g₀.get? P = none) (ht : P ∉ C.ts) (hx : P ∉ C.ex) : Fn C K g₀ { s₀ with heap := delL s₀.heap [P] } env g s σ where
  st := f.st
  loc := f.loc
  up := f.up
  keep := fun b o hb hbx e => f.keep b o hb hbx (delL_sub b o e)
  fresh := fun b o e1 e2 => f.fresh b o e1 (delL_sub b o e2)
  os := ⟨f.os.1, f.os.2, f.os.3⟩
  exo := f.exo
  st₀ := ⟨fun b o e => delL_ne (f.st₀.sub b o e) (fun q => (by rw [List.mem_singleton.mp q, hg] at e; cases e)), f.st₀.gt, f.st₀.ge, fun b hb => (f.st₀.exs b hb).elim fun o e => ⟨o, delL_ne e fun q => hx (by rw [← List.mem_singleton.mp q]; exact hb)⟩, fun P' hP' => (f.st₀.tab P' hP').elim fun ps h => ⟨ps, delL_ne h.1 fun q => ht (by rw [← List.mem_singleton.mp q]; exact hP'), h.2⟩, f.st₀.gens, f.st₀.kin, f.st₀.top⟩
  own := ⟨none_of_sub delL_sub f.own.1, f.own.2⟩
  ownC := fun h n c e k => none_of_sub delL_sub (f.ownC h n c e k)
  gC := f.gC
  apart := f.apart
  apartL := f.apartL
  fn := f.fn
  gl := f.gl
  bl := f.bl

section
variable {prog : Program} {w : World} {A : Around} {E : Value → Shared → Prop} {g₀ g : Heap} {s₀ s : Shared} {env : Env} {σ : Str → Option Value} {h : Heap} {gs : Array GenState} {d : Drawn} {tk : Nat} {os : OsState}
theorem truthyF {l : Addr} {vs : List Value} {Q : Bool → Shared → Prop} (f : Fn C K g₀ s₀ env g s σ) (hS : Same ⟨h, gs, d, tk, os⟩ s) (hl : g.IsList l vs.toArray) (hz : vs.length < 2 ^ 62) (hq : Q (!vs.isEmpty) ⟨h, gs, d, tk + 1 + 1, os⟩) : wpAny (model prog w) A (truthy (.ref l)) Q E ⟨h, gs, d, tk, os⟩ := by
  have f' := f.at hS
  exact wpAny_truthy_list (IsList.up hl f'.st.sub) (by simp; omega) (by simpa using hq)
theorem joinF {M : Model} {m : Sem Value} {Q : Value → Shared → Prop} (P : Value → Heap → Prop) (h1 : wpAny M A m (fun v s' => ∃ g', Gr C g s g' s' ∧ P v g') E s) (h2 : ∀ v g' s', Gr C g s g' s' → P v g' → Q v s') : wpAny M A m Q E s :=
  wpAny_mono h1 (fun v s' h => h.elim fun g' k => h2 v g' s' k.1 k.2) fun _ _ e => e
theorem joinS {M : Model} {S : Shared} {m : Sem Value} {Q : Value → Shared → Prop} (P : Value → Heap → Prop) (f : Fn C K g₀ s₀ env g s σ) (hS : Same S s) (h1 : ∀ E', wpAny M A m (fun v s' => ∃ g', Gr C g S g' s' ∧ P v g') E' S) (h2 : ∀ v g' s', Fn C K g₀ s₀ env g' s' σ → Sub g g' → P v g' → Q v s') : wpAny M A m Q E S :=
  wpAny_mono (h1 _) (fun v s' h => h.elim fun g' k => h2 v g' s' ((f.at hS).gr k.1) k.1.up k.2) fun _ _ e => e
/-- two lists, one behind the other -/
theorem addListsF {S : Shared} {l b : Addr} {vs ws : List Value} {Q : Value → Shared → Prop} (f : Fn C K g₀ s₀ env g s σ) (hS : Same S s) (hl : g.IsList l vs.toArray) (hb : g.IsList b ws.toArray) (hz : vs.length + ws.length ≤ sizeLine)
    (hq : ∀ D g' s', Fn C K g₀ s₀ env g' s' σ → Gr C g S g' s' → g'.PlainList D (vs ++ ws).toArray → Q (.ref D) s') : wpAny (model prog w) A (binaryOp .Add (.ref l) (.ref b)) Q E S := by
  have f' := f.at hS
  obtain ⟨⟨cls, dd, data, sl⟩, ho, hc, n, hd⟩ := IsList.up hl f'.st.sub
  obtain ⟨⟨cls2, dd2, data2, sl2⟩, ho2, hc2, n2, hd2⟩ := IsList.up hb f'.st.sub
  simp only at hc hd hc2 hd2
  subst hc hd hc2 hd2
  have e : vs.toArray ++ ws.toArray = (vs ++ ws).toArray := by simp
  refine concat_meets ⟨_, ho, rfl⟩ ⟨_, ho2, rfl⟩ noFill_list_add seq_list_add PySem.F.slot_list_add PySem.F.entry_list_add (PySem.F.args_list_add_2 _ _) (list_addW l b vs.toArray ws.toArray n n2 dd dd2 sl sl2 (by simpa using hz)) ⟨ho, ho2, ?_⟩
  rw [e]
  have k : Sub S.heap (S.heap.push { cls := .type "list", dict := none, data := .seq (vs ++ ws).toArray }) := fun _ _ e => Heap.get?_push_of_some _ e
  have gr : Gr C g S (nextG g S.heap (S.heap.push { cls := .type "list", dict := none, data := .seq (vs ++ ws).toArray })) { S with heap := S.heap.push { cls := .type "list", dict := none, data := .seq (vs ++ ws).toArray }, toks := S.toks } := Gr.keeps f'.st k
  exact hq _ _ _ (f'.gr gr) gr ⟨_, nextG_push _⟩
/-- an int in a tuple of ints -/
theorem inTupF {l : Addr} {vs : List Value} {ns : List Int} {a : Int} {t : Tok} {Q : Value → Shared → Prop} (f : Fn C K g₀ s₀ env g s σ) (hS : Same ⟨h, gs, d, tk, os⟩ s) (hl : IsTup g l vs.toArray) (hi : IntsAre vs ns) (hq : Q (.bool (ns.any (· == a))) ⟨h, gs, d, tk, os⟩) :
    wpAny (model prog w) A (compareOp .In (.int a t) (.ref l)) Q E ⟨h, gs, d, tk, os⟩ := by
  have f' := f.at hS
  have key : ∀ {vs : List Value} {ns : List Int}, IntsAre vs ns → (∀ y ∈ vs, ∃ n t, y = .int n t) ∧ vs.any (fun y => match y with | .int n _ => n == a | _ => false) = ns.any (· == a) := by
    intro vs ns hi
    induction hi with
    | nil => exact ⟨fun y hy => (nomatch hy), rfl⟩
    | cons n t _ ih =>
      refine ⟨fun y hy => ?_, ?_⟩
      · rcases List.mem_cons.mp hy with rfl | hy
        · exact ⟨n, t, rfl⟩
        · exact ih.1 y hy
      · simp only [List.any_cons, ih.2]
  obtain ⟨k1, k2⟩ := key hi
  refine in_tupleAt (fun y => match y with | .int n _ => n == a | _ => false) (IsTup.up hl f'.st.sub) (fun y hy => ?_) ?_
  · obtain ⟨n, u, rfl⟩ := k1 y (by simpa using hy)
    exact EqAt.int_int n u a t
  · have e : vs.toArray.any (fun y => match y with | .int n _ => n == a | _ => false) = ns.any (· == a) := by rw [← k2]; simp
    rw [e]; exact hq
/-- two pairs of ints are told apart -/
theorem nePairF {l b : Addr} {a1 a2 b1 b2 : Int} {t1 t2 u1 u2 : Tok} {Q : Value → Shared → Prop} (f : Fn C K g₀ s₀ env g s σ) (hS : Same ⟨h, gs, d, tk, os⟩ s) (hl : IsTup g l #[.int a1 t1, .int a2 t2]) (hb : IsTup g b #[.int b1 u1, .int b2 u2]) (hu : A.units + 64 < cLine)
    (hq : Q (.bool (!decide (a1 = b1 ∧ a2 = b2))) ⟨h, gs, d, tk, os⟩) : wpAny (model prog w) A (compareOp .NotEq (.ref l) (.ref b)) Q E ⟨h, gs, d, tk, os⟩ := by
  have f' := f.at hS
  obtain ⟨o1, e1, c1, n1, d1⟩ := IsTup.up hl f'.st.sub
  obtain ⟨o2, e2, c2, n2, d2⟩ := IsTup.up hb f'.st.sub
  have r1 : Reads h (.ref l) (.tuple [.int a1, .int a2]) [] := .tuple e1 c1 d1 (.cons (.int _ _) (.cons (.int _ _) .nil))
  have r2 : Reads h (.ref b) (.tuple [.int b1, .int b2]) [] := .tuple e2 c2 d2 (.cons (.int _ _) (.cons (.int _ _) .nil))
  refine ne_dataH_same (s := ⟨h, gs, d, tk, os⟩) r1 r2 ?_ ?_ hu ?_ ?_
  · simp [shaped, PyData.canLay0, PyData.canLayAll0, PyData.depth, PyData.depthAll]
  · simp [shaped, PyData.canLay0, PyData.canLayAll0, PyData.depth, PyData.depthAll]
  · simp [noMix, noMixAll]
  · have e : PySem.Spec.same (.tuple [.int a1, .int a2]) (.tuple [.int b1, .int b2]) = decide (a1 = b1 ∧ a2 = b2) := by
      simp [PySem.Spec.same, PySem.Spec.sameAll, Bool.beq_eq_decide_eq]
    rw [e]; exact hq
theorem neIntsF {a b : Addr} {vs us : List Value} {ns ms : List Int} {Q : Value → Shared → Prop} (f : Fn C K g₀ s₀ env g s σ) (hS : Same ⟨h, gs, d, tk, os⟩ s) (hl : g.IsList a vs.toArray) (hi : IntsAre vs ns) (hl' : g.IsList b us.toArray) (hi' : IntsAre us ms) (hu : A.units + 64 < cLine)
    (hq : Q (.bool (!decide (ns = ms))) ⟨h, gs, d, tk, os⟩) : wpAny (model prog w) A (compareOp .NotEq (.ref a) (.ref b)) Q E ⟨h, gs, d, tk, os⟩ :=
  ne_intsK (s := ⟨h, gs, d, tk, os⟩) (IsList.up hl (f.at hS).st.sub) hi (IsList.up hl' (f.at hS).st.sub) hi' hu hq
/-- bytes(a list of octets) -/
theorem bytesF {S : Shared} {l : Addr} {vs : List Value} {ns : List Int} {Q : Value → Shared → Prop} (f : Fn C K g₀ s₀ env g s σ) (hS : Same S s) (hh : A.handled = none) (hl : g.IsList l vs.toArray) (hi : IntsAre vs ns) (hr : ∀ n ∈ ns, 0 ≤ n ∧ n < 256) (hz : vs.length ≤ sizeLine)
    (hq : ∀ t s', Fn C K g₀ s₀ env g s' σ → Gr C g S g s' → Q (.bytes (byteArr ns) t) s') : wpAny (model prog w) A (call (.type "bytes") [.ref l]) Q E S := by
  have f' := f.at hS
  refine call_bytes_ints (IsList.up hl f'.st.sub) hi hr hz hh fun h' t k hk => ?_
  exact hq t _ (f'.ext rfl hk k) (Gr.ext f'.st hk k)
theorem intsAre_get {vs : List Value} {ns : List Int} (h : IntsAre vs ns) {i : Nat} (hi : i < ns.length) : ∃ t, vs[i]? = some (.int (ns.getD i 0) t) := by
  induction h generalizing i with
  | nil => cases hi
  | cons n t _ ih =>
    cases i with
    | zero => exact ⟨t, rfl⟩
    | succ i => simpa using ih (by simpa using hi)
/-- an item of a tuple of ints, at a place that is known to lie in it -/
theorem itemTupI {value slice : Expr} {l : Addr} {vs : List Value} {ns : List Int} {k : Nat} {u : Tok} {Q : Value → Shared → Prop} (f : Fn C K g₀ s₀ env g s σ) (hS : Same ⟨h, gs, d, tk, os⟩ s) (hl : IsTup g l vs.toArray) (hi : IntsAre vs ns) (hk : k < ns.length) (hz : ns.length < 2 ^ 50)
    (hq : ∀ t, Q (.int (ns.getD k 0) t) ⟨h, gs, d, tk, os⟩)
    (hs : subscripted slice false (.ref l) (.int k u) = operate [.ref l, .int k u] (getItem (.ref l) (.int k u)) := by with_unfolding_all rfl) :
    wpAny (model prog w) A (subscriptTail value slice (.ref l) (.int k u)) Q E ⟨h, gs, d, tk, os⟩ := by
  obtain ⟨t, ht⟩ := intsAre_get hi hk
  have hlen : vs.length = ns.length := hi.length
  exact itemTupF f hS hl (by omega) (by constructor <;> (simp; omega)) (by simpa using ht) (hq t) hs
/-- an item of a list of ints, at a place that is known to lie in it -/
theorem itemI {value slice : Expr} {l : Addr} {vs : List Value} {ns : List Int} {k : Nat} {u : Tok} {Q : Value → Shared → Prop} (f : Fn C K g₀ s₀ env g s σ) (hS : Same ⟨h, gs, d, tk, os⟩ s) (hl : g.IsList l vs.toArray) (hi : IntsAre vs ns) (hk : k < ns.length) (hz : ns.length < 2 ^ 50)
    (hq : ∀ t, Q (.int (ns.getD k 0) t) ⟨h, gs, d, tk, os⟩)
    (hs : subscripted slice false (.ref l) (.int k u) = operate [.ref l, .int k u] (getItem (.ref l) (.int k u)) := by with_unfolding_all rfl) (hg : ∀ r, letTemporaryGo value (.ref l) r = pure () := by intro _; with_unfolding_all rfl) :
    wpAny (model prog w) A (subscriptTail value slice (.ref l) (.int k u)) Q E ⟨h, gs, d, tk, os⟩ := by
  obtain ⟨t, ht⟩ := intsAre_get hi hk
  exact itemF f hS hl (by omega) (by omega) (by simpa using ht) (hq t) hs hg
theorem ItOk.trans {g' g₂ : Heap} {s' s₂ : Shared} {I : Addr} {n : Nat} {P : Nat → Value → Heap → Prop} (st : St C K g s) (G : Gr C g s g' s') (h : ItOk C A g' s' g₂ s₂ I n P) : ItOk C A g s g₂ s₂ I n P :=
  let ⟨fp, wr, S, a, b, c, d, e⟩ := h; ⟨fp, wr, S, a, b, fun x hx => ⟨(c x hx).1, fresh_back st G (c x hx).2⟩, d, G.trans e⟩
theorem Gr.at_l {g' : Heap} {s' S : Shared} (h : Gr C g s g' s') (hS : Same S s) : Gr C g S g' s' := by
  rw [hS]; exact ⟨h.up, h.sub, h.keep, h.exk, h.fresh, h.tab, h.gens, ⟨h.os.1, h.os.2, h.os.3⟩, h.geR⟩
/-- a field that is called -/
theorem fldMethT {S : Shared} {x Cc : Addr} {fs : List (Str × Value)} {name : Str} {pl : Sem Bool} {v : Value} {Q : Value × List Value → Shared → Prop} (f : Fn C K g₀ s₀ env g s σ) (hS : Same S s) (I : Fld g x Cc fs) (hl : fs.lookup name = some v)
    (hg : plainGet K Cc name = true) (hh : hasDictIn K Cc = true) (ha : findIn K (.ref Cc) name = some none) (hv : handedIn v = true) (hq : Q (v, []) { S with toks := S.toks + 1 }) : wpAny (model prog w) A (getMethod (.ref x) name pl) Q E S := by
  have f' := f.at hS
  obtain ⟨dx, es, n, en, ia⟩ := inst_of I f'.st.sub
  refine method_usual (r := none) (kinOf f') ia (plainGet_of hg).1 (plainGet_of hg).2 ha rfl ?_
  exact attrT f hS I hl hg hh ha rfl hv hq
theorem fmod_nat (a b : Nat) : (a : Int).fmod (b : Int) = ((a % b : Nat) : Int) := by
  rw [Int.fmod_eq_emod_of_nonneg _ (by omega)]; rfl
theorem fdiv_nat (a b : Nat) : (a : Int).fdiv (b : Int) = ((a / b : Nat) : Int) := by
  rw [Int.fdiv_eq_ediv_of_nonneg _ (by omega)]; rfl
theorem log2_small {b : Int} (h0 : 0 < b) (h : b < 2 ^ 8000) : b.natAbs.log2 < 9000 := by
  have h1 : b.natAbs ≠ 0 := by omega
  have h2 : b.natAbs < 2 ^ 9000 := by
    have h3 : ((b.natAbs : Nat) : Int) = b := Int.natAbs_of_nonneg (by omega)
    have h4 : ((b.natAbs : Nat) : Int) < ((2 ^ 9000 : Nat) : Int) := by
      rw [h3]
      refine Int.lt_trans h ?_
      exact_mod_cast Nat.pow_lt_pow_right (show 1 < 2 by decide) (show 8000 < 9000 by decide)
    exact_mod_cast h4
  exact (Nat.log2_lt h1).mpr h2
theorem drop_clip {α : Type} {l : List α} {x y : Nat} (h : x ≤ y) : (l.drop (min x l.length)).take (min y l.length - min x l.length) = (l.drop x).take (y - x) := by
  by_cases hx : x ≤ l.length
  · rw [Nat.min_eq_left hx]
    by_cases hy : y ≤ l.length
    · rw [Nat.min_eq_left hy]
    · rw [Nat.min_eq_right (by omega), List.take_of_length_le (by simp), List.take_of_length_le (by simp; omega)]
  · rw [Nat.min_eq_right (a := x) (by omega), List.drop_eq_nil_of_le (Nat.le_refl _), List.drop_eq_nil_of_le (by omega)]; simp
/-- a cut of a list of ints -/
theorem tailI {value slice : Expr} {a : Addr} {vs : List Value} {ns : List Int} {l u : Value} {x y : Nat} {Q : Value → Shared → Prop} (f : Fn C K g₀ s₀ env g s σ) (hS : Same ⟨h, gs, d, tk, os⟩ s) (hl : IsPart l (some (x : Int))) (hu : IsPart u (some (y : Int))) (ha : g.IsList a vs.toArray) (hi : IntsAre vs ns) (hxy : x ≤ y) (hsz : vs.length ≤ sizeLine)
    (hq : ∀ D g' s' us, Fn C K g₀ s₀ env g' s' σ → Gr C g ⟨h, gs, d, tk, os⟩ g' s' → g'.IsList D us.toArray → IntsAre us ((ns.drop x).take (y - x)) → Q (.ref D) s')
    (hs : subscripted slice false (.ref a) (.ref h.objs.size) = operate [.ref h.objs.size, .ref a] (getItem (.ref a) (.ref h.objs.size)) := by with_unfolding_all rfl)
    (ht : ∀ r, letTemporaryGo value (.ref a) r = pure () := by intro _; with_unfolding_all rfl) :
    wpAny (model prog w) A (subscriptTail value slice (.ref a) (.ref h.objs.size)) Q E ⟨h.push { cls := .type "slice", data := .fields #[l, u, .none] }, gs, d, tk, os⟩ := by
  refine tailList f hS hl hu ha hsz (fun D g' s' f' gr hpl => ?_) hs ht
  refine hq D g' s' (slicePick vs.toArray _ _ none).toList f' gr (by rw [Array.toArray_toList]; exact PlainList.toIs hpl) ?_
  have := slice_ints_plain hi (x : Int) (y : Int)
  rw [clipAt_nat, clipAt_nat, drop_clip hxy] at this
  exact this
theorem tailIU {value slice : Expr} {a : Addr} {vs : List Value} {ns : List Int} {u : Value} {y : Nat} {Q : Value → Shared → Prop} (f : Fn C K g₀ s₀ env g s σ) (hS : Same ⟨h, gs, d, tk, os⟩ s) (hu : IsPart u (some (y : Int))) (ha : g.IsList a vs.toArray) (hi : IntsAre vs ns) (hsz : vs.length ≤ sizeLine)
    (hq : ∀ D g' s' us, Fn C K g₀ s₀ env g' s' σ → Gr C g ⟨h, gs, d, tk, os⟩ g' s' → g'.IsList D us.toArray → IntsAre us (ns.take y) → Q (.ref D) s')
    (hs : subscripted slice false (.ref a) (.ref h.objs.size) = operate [.ref h.objs.size, .ref a] (getItem (.ref a) (.ref h.objs.size)) := by with_unfolding_all rfl)
    (ht : ∀ r, letTemporaryGo value (.ref a) r = pure () := by intro _; with_unfolding_all rfl) :
    wpAny (model prog w) A (subscriptTail value slice (.ref a) (.ref h.objs.size)) Q E ⟨h.push { cls := .type "slice", data := .fields #[.none, u, .none] }, gs, d, tk, os⟩ := by
  refine tailList f hS .none hu ha hsz (fun D g' s' f' gr hpl => ?_) hs ht
  refine hq D g' s' (slicePick vs.toArray _ _ none).toList f' gr (by rw [Array.toArray_toList]; exact PlainList.toIs hpl) ?_
  have := slice_ints_uptoW hi (y := (y : Int)) (by omega)
  rwa [Int.toNat_natCast] at this
theorem bInts_byteArr {ns : List Int} (hr : ∀ n ∈ ns, 0 ≤ n ∧ n < 256) : KBw.bInts (byteArr ns) = ns := by
  unfold KBw.bInts byteArr
  simp only [List.map_map]
  induction ns with
  | nil => rfl
  | cons n r ih =>
    obtain ⟨h0, h1⟩ := hr n (.head _)
    simp only [List.map_cons, Function.comp]
    congr 1
    · have : n.toNat < 256 := by omega
      simp only [Nat.toUInt8, UInt8.toNat_ofNat']
      omega
    · exact ih fun x hx => hr x (.tail _ hx)
end
end Mine
end
section
open PySem PySem.W PySem.Calls PyProof.Rows PySem.Spec
set_option Elab.async false
set_option maxRecDepth 100000
set_option maxHeartbeats 0
set_option linter.unusedVariables false
set_option pp.deepTerms false
set_option pp.deepTerms.threshold 2
namespace Mine
variable {C : Cfg}
theorem fillit : (PySem.Challenge.rw_bn0016_01 = PySem.Challenge.rw_bn0016_01) ∧ (Mine.hd.K = Mine.hd.K) := by k_fill; exact ⟨rfl, rfl⟩
local macro_rules | `(tactic| walk_at "st") => `(tactic| first
  | with_reducible refine wpAny_execs_cons ?_
  | with_reducible refine wpAny_execs_nil ?_
  | with_reducible refine wpAny_Return_some ?_
  | with_reducible refine wpAny_Return_none ?_
  | ((with_reducible refine wpAny_Assign_Name ?_ ?hs); (case hs => with_unfolding_all rfl))
  | ((with_reducible refine wpAny_AugAssign_Name ?_))
  | ((with_reducible refine plainObj_wpAny_Assign_Attribute ?_ ?hs); (case hs => with_unfolding_all rfl))
  | with_reducible refine wpAny_If ?_
  | with_reducible refine wpAny_BinOp ?_
  | with_reducible refine wpAny_Assert_holds ?_
  | ((with_reducible refine wpAny_Compare1 ?_ ?hm); (case hm => with_unfolding_all rfl))
  | ((with_reducible refine wpAny_isTrue_Compare1 ?_ ?hm); (case hm => with_unfolding_all rfl))
  | with_reducible refine O.cint_ ?_
  | with_reducible refine O.cstr_ ?_
  | with_reducible refine O.cbytes_ ?_
  | with_reducible refine Constant_bool ?_
  | with_reducible refine Constant_none ?_
  | with_reducible refine IfExp_ ?_
  | with_reducible refine UnaryOp_ ?_
  | with_reducible refine Tuple_ ?_
  | with_reducible refine List_ ?_
  | with_reducible refine Subscript_ ?_
  | with_reducible refine PyProof.Rows.kws_cons ?_
  | with_reducible refine PyProof.Rows.kws_nil ?_
  | with_reducible refine wpAny_Slice ?_
  | with_reducible refine evalPart_some_step ?_
  | with_reducible refine evalPart_none_step ?_
  | with_reducible refine isTrue_and_nil ?_
  | with_reducible refine isTrue_or_nil ?_
  | with_reducible refine isTrue_and ?_
  | with_reducible refine isTrue_or ?_
  | with_reducible refine isTrue_not ?_
  | ((with_reducible refine Attribute_any_ ?_ ?he); (case he => with_unfolding_all rfl))
  | ((with_reducible refine' MethodCall_ (pl := ?pl) ?_ ?he); (case he => with_unfolding_all rfl))
  | ((with_reducible refine Call_ ?_ ?he); (case he => with_unfolding_all rfl))
  | with_reducible refine args_nil ?_
  | ((with_reducible refine args_cons ?_ ?he); (case he => with_unfolding_all rfl))
  | ((with_reducible refine isTrue_plain ?_ ?he); (case he => with_unfolding_all rfl)))
local macro_rules | `(tactic| walk_at "nm") => `(tactic| (first
  | ((with_reducible refine' nmT (by with_reducible assumption) ?hS ?hv ?_ ?hk); (case hS => exact rfl); (case hk => exact rfl); (case hv => first | exact rfl | assumption))
  | ((with_reducible refine' nmGT (by with_reducible assumption) ?hS ?e ?_ ?hk); (case hS => exact rfl); (case hk => exact rfl); (case e => k_is))
  | ((with_reducible refine' nmBT (by with_reducible assumption) ?hS ?e ?hv ?_ ?hn ?hk); (case hS => exact rfl); (case hk => exact rfl); (case e => k_is); (case hv => boot_by_name); (case hn => decide))
  | ((with_reducible refine' ldT (by with_reducible assumption) ?hS ?hv ?_ ?hk); (case hS => exact rfl); (case hk => exact rfl); (case hv => first | exact rfl | assumption))
  | ((with_reducible refine' stU (by with_reducible assumption) ?hS (by with_reducible assumption) ?_ ?hk ?hc); (case hS => exact rfl); (case hk => exact rfl); (case hc => exact rfl); intro s' f' u')
  | ((with_reducible refine' stT (by with_reducible assumption) ?hS ?_ ?hk ?hc); (case hS => exact rfl); (case hk => exact rfl); (case hc => exact rfl); intro s' f')))
local macro_rules | `(tactic| walk_at "op") => `(tactic| first
  | with_reducible refine O.add_ ?_
  | with_reducible refine O.sub_ ?_
  | with_reducible refine O.ior_ ?_
  | ((with_reducible refine O.mod_ ?hb ?_); (case hb => first | decide | assumption | omega))
  | with_reducible refine O.and_ ?_
  | with_reducible refine O.or_ ?_
  | with_reducible refine PyProof.Rows.eq_int ?_
  | with_reducible refine PyProof.Rows.ne_int ?_
  | with_reducible refine PyProof.Rows.lt_int ?_
  | with_reducible refine PyProof.Rows.gt_int ?_
  | with_reducible refine PyProof.Rows.le_int ?_
  | with_reducible refine PyProof.Rows.ge_int ?_
  | with_reducible refine O.neg_ ?_
  | with_reducible refine O.iadd_ ?_
  | with_reducible refine O.isub_ ?_
  | with_reducible refine wpAny_truthy_bool ?_)
local macro_rules | `(tactic| walk_at "obj") => `(tactic| (first
  | ((with_reducible refine' setFT (by with_reducible assumption) ?hS (by with_reducible assumption) ?hl ?hz ?hs ?hp ?ht ?hh ?_); (case hS => exact rfl); (case hl => exact rfl); (case hz => simp only [List.length_append, List.length_cons, List.length_nil]; omega); (case hs => k_is); (case hp => k_is); (case ht => k_is); (case hh => k_is); intro s' f' u')
  | ((with_reducible refine' attrF (by with_reducible assumption) ?hS (by with_reducible assumption) ?hl ?hg ?hh ?ha ?hn ?hv ?_); (case hS => exact rfl); (case hl => exact rfl); (case hg => k_is); (case hh => k_is); (case ha => k_is); (case hn => k_is); (case hv => first | (simp only [handedIn]; done) | decide +kernel | rfl))
  | ((with_reducible refine' methT (by with_reducible assumption) ?hS (by with_reducible assumption) ?hl ?hg ?hf ?ht ?_); (case hS => exact rfl); (case hl => exact rfl); (case hg => k_is); (case hf => k_is); (case ht => k_is))
  | ((with_reducible refine' smT (by with_reducible assumption) ?hS (by with_reducible assumption) ?hl ?hg ?hh ?ha ?ht ?hgf ?hts ?hc ?hp ?hv ?_); (case hS => exact rfl); (case hl => exact rfl); (case hg => k_is); (case hh => k_is); (case ha => k_is); (case ht => k_is); (case hgf => k_is); (case hts => k_is); (case hc => decide +kernel); (case hp => k_is); (case hv => exact rfl))
  | ((with_reducible refine' methU (by with_reducible assumption) ?hS (by with_reducible assumption) ?hl ?hg ?hf ?ht ?_); (case hS => exact rfl); (case hl => exact rfl); (case hg => k_is); (case hf => k_is); (case ht => k_is))
  | ((with_reducible refine' callWith_K (Fn.st (by with_reducible assumption)).kin ?hk ?_ ?he ?hp); (case hk => k_is); (case he => with_unfolding_all rfl); (case hp => with_unfolding_all rfl))
  | ((with_reducible refine' callObjT (by with_reducible assumption) ?hS (by with_reducible assumption) ?hs ?hf ?hfn ?_ ?he ?hp); (case hS => exact rfl); (case hs => k_is); (case hf => k_is); (case hfn => k_is); (case he => with_unfolding_all rfl); (case hp => with_unfolding_all rfl))
  | ((with_reducible refine' callWith_K0 ?X ?hk ?_); (case X => exact kinOf (Fn.at (by with_reducible assumption) rfl)); (case hk => k_is))
  | ((with_reducible refine' kin_and (by with_reducible assumption) ?hS ?_); (case hS => exact rfl))))
local macro_rules | `(tactic| walk_at "is") => `(tactic| first
  | ((with_reducible refine' isiList (by with_reducible assumption) ?hS (by with_reducible assumption) ?e ?_); (case hS => exact rfl); (case e => first | rfl | kit_is); intro tk')
  | ((with_reducible refine' isiObj (by with_reducible assumption) ?hS (by with_reducible assumption) ?hg ?hd ?ha ?hn ?ht ?hm ?e ?_); (case hS => exact rfl); (case hg => k_is); (case hd => k_is); (case ha => k_is); (case hn => k_is); (case ht => k_is); (case hm => k_is); (case e => kit_is); intro tk'))
local macro_rules | `(tactic| walk_at "bi") => `(tactic| first
  | ((with_reducible refine assertT ?hc ?_); (case hc => first | rfl | decide))
  | ((with_reducible refine ifN ?hc ?_); (case hc => first | (intro q; cases q; done) | decide))
  | ((with_reducible refine ifY ?hc ?_); (case hc => first | rfl | decide))
  | walk_at "is"
  | ((with_reducible refine PyProof.Rows.callWith_builtin1 ?_ ?he ?hp); (case he => with_unfolding_all rfl); (case hp => with_unfolding_all rfl))
  | ((with_reducible refine PyProof.Rows.callWith_type1 ?_ ?he ?hp); (case he => with_unfolding_all rfl); (case hp => with_unfolding_all rfl))
  | (with_reducible refine PyProof.Rows.callWith_type0 ?_)
  | (with_reducible refine PyProof.Rows.callWith_method0 ?_)
  | ((with_reducible refine PyProof.Rows.callWith_method1 ?_ ?he ?hp); (case he => with_unfolding_all rfl); (case hp => with_unfolding_all rfl)))
local macro_rules | `(tactic| walk_at "mz") => `(tactic| first | walk_at "st" | walk_at "nm" | walk_at "op" | walk_at "obj" | walk_at "bi")
local macro_rules | `(tactic| walk_at "mj") => `(tactic| ((fail_if_success (with_reducible refine IfExp_ ?_)); (walk_at "mz")))
local macro_rules | `(tactic| walk_at "mjr") => `(tactic| repeat' (first
  | with_reducible refine wpAny_execs_cons ?_
  | with_reducible refine wpAny_execs_nil ?_
  | with_reducible refine wpAny_Return_some ?_
  | with_reducible refine wpAny_Return_none ?_
  | ((with_reducible refine wpAny_Assign_Name ?_ ?hs); (case hs => with_unfolding_all rfl))
  | ((with_reducible refine wpAny_AugAssign_Name ?_))
  | ((with_reducible refine plainObj_wpAny_Assign_Attribute ?_ ?hs); (case hs => with_unfolding_all rfl))
  | with_reducible refine wpAny_If ?_
  | with_reducible refine wpAny_BinOp ?_
  | with_reducible refine wpAny_Assert_holds ?_
  | ((with_reducible refine wpAny_Compare1 ?_ ?hm); (case hm => with_unfolding_all rfl))
  | ((with_reducible refine wpAny_isTrue_Compare1 ?_ ?hm); (case hm => with_unfolding_all rfl))
  | with_reducible refine O.cint_ ?_
  | with_reducible refine O.cstr_ ?_
  | with_reducible refine O.cbytes_ ?_
  | with_reducible refine Constant_bool ?_
  | with_reducible refine Constant_none ?_
  | with_reducible refine UnaryOp_ ?_
  | with_reducible refine Tuple_ ?_
  | with_reducible refine List_ ?_
  | with_reducible refine Subscript_ ?_
  | with_reducible refine PyProof.Rows.kws_cons ?_
  | with_reducible refine PyProof.Rows.kws_nil ?_
  | with_reducible refine wpAny_Slice ?_
  | with_reducible refine evalPart_some_step ?_
  | with_reducible refine evalPart_none_step ?_
  | with_reducible refine isTrue_and_nil ?_
  | with_reducible refine isTrue_or_nil ?_
  | with_reducible refine isTrue_and ?_
  | with_reducible refine isTrue_or ?_
  | with_reducible refine isTrue_not ?_
  | ((with_reducible refine Attribute_any_ ?_ ?he); (case he => with_unfolding_all rfl))
  | ((with_reducible refine' MethodCall_ (pl := ?pl) ?_ ?he); (case he => with_unfolding_all rfl))
  | ((with_reducible refine Call_ ?_ ?he); (case he => with_unfolding_all rfl))
  | with_reducible refine args_nil ?_
  | ((with_reducible refine args_cons ?_ ?he); (case he => with_unfolding_all rfl))
  | ((with_reducible refine isTrue_plain ?_ ?he); (case he => with_unfolding_all rfl))
  | ((with_reducible refine' nmT (by with_reducible assumption) ?hS ?hv ?_ ?hk); (case hS => exact rfl); (case hk => exact rfl); (case hv => first | exact rfl | assumption))
  | ((with_reducible refine' nmGT (by with_reducible assumption) ?hS ?e ?_ ?hk); (case hS => exact rfl); (case hk => exact rfl); (case e => k_is))
  | ((with_reducible refine' nmBT (by with_reducible assumption) ?hS ?e ?hv ?_ ?hn ?hk); (case hS => exact rfl); (case hk => exact rfl); (case e => k_is); (case hv => boot_by_name); (case hn => decide))
  | ((with_reducible refine' ldT (by with_reducible assumption) ?hS ?hv ?_ ?hk); (case hS => exact rfl); (case hk => exact rfl); (case hv => first | exact rfl | assumption))
  | ((with_reducible refine' stU (by with_reducible assumption) ?hS (by with_reducible assumption) ?_ ?hk ?hc); (case hS => exact rfl); (case hk => exact rfl); (case hc => exact rfl); intro s' f' u')
  | ((with_reducible refine' stT (by with_reducible assumption) ?hS ?_ ?hk ?hc); (case hS => exact rfl); (case hk => exact rfl); (case hc => exact rfl); intro s' f')
  | with_reducible refine O.add_ ?_
  | with_reducible refine O.sub_ ?_
  | with_reducible refine O.ior_ ?_
  | ((with_reducible refine O.mod_ ?hb ?_); (case hb => first | decide | assumption | omega))
  | with_reducible refine O.and_ ?_
  | with_reducible refine O.or_ ?_
  | with_reducible refine PyProof.Rows.eq_int ?_
  | with_reducible refine PyProof.Rows.ne_int ?_
  | with_reducible refine PyProof.Rows.lt_int ?_
  | with_reducible refine PyProof.Rows.gt_int ?_
  | with_reducible refine PyProof.Rows.le_int ?_
  | with_reducible refine PyProof.Rows.ge_int ?_
  | with_reducible refine O.neg_ ?_
  | with_reducible refine O.iadd_ ?_
  | with_reducible refine O.isub_ ?_
  | with_reducible refine wpAny_truthy_bool ?_
  | ((with_reducible refine' setFT (by with_reducible assumption) ?hS (by with_reducible assumption) ?hl ?hz ?hs ?hp ?ht ?hh ?_); (case hS => exact rfl); (case hl => exact rfl); (case hz => simp only [List.length_append, List.length_cons, List.length_nil]; omega); (case hs => k_is); (case hp => k_is); (case ht => k_is); (case hh => k_is); intro s' f' u')
  | ((with_reducible refine' attrF (by with_reducible assumption) ?hS (by with_reducible assumption) ?hl ?hg ?hh ?ha ?hn ?hv ?_); (case hS => exact rfl); (case hl => exact rfl); (case hg => k_is); (case hh => k_is); (case ha => k_is); (case hn => k_is); (case hv => first | (simp only [handedIn]; done) | decide +kernel | rfl))
  | ((with_reducible refine' methT (by with_reducible assumption) ?hS (by with_reducible assumption) ?hl ?hg ?hf ?ht ?_); (case hS => exact rfl); (case hl => exact rfl); (case hg => k_is); (case hf => k_is); (case ht => k_is))
  | ((with_reducible refine' smT (by with_reducible assumption) ?hS (by with_reducible assumption) ?hl ?hg ?hh ?ha ?ht ?hgf ?hts ?hc ?hp ?hv ?_); (case hS => exact rfl); (case hl => exact rfl); (case hg => k_is); (case hh => k_is); (case ha => k_is); (case ht => k_is); (case hgf => k_is); (case hts => k_is); (case hc => decide +kernel); (case hp => k_is); (case hv => exact rfl))
  | ((with_reducible refine' methU (by with_reducible assumption) ?hS (by with_reducible assumption) ?hl ?hg ?hf ?ht ?_); (case hS => exact rfl); (case hl => exact rfl); (case hg => k_is); (case hf => k_is); (case ht => k_is))
  | ((with_reducible refine' callWith_K (Fn.st (by with_reducible assumption)).kin ?hk ?_ ?he ?hp); (case hk => k_is); (case he => with_unfolding_all rfl); (case hp => with_unfolding_all rfl))
  | ((with_reducible refine' callObjT (by with_reducible assumption) ?hS (by with_reducible assumption) ?hs ?hf ?hfn ?_ ?he ?hp); (case hS => exact rfl); (case hs => k_is); (case hf => k_is); (case hfn => k_is); (case he => with_unfolding_all rfl); (case hp => with_unfolding_all rfl))
  | ((with_reducible refine' callWith_K0 ?X ?hk ?_); (case X => exact kinOf (Fn.at (by with_reducible assumption) rfl)); (case hk => k_is))
  | ((with_reducible refine' kin_and (by with_reducible assumption) ?hS ?_); (case hS => exact rfl))
  | ((with_reducible refine assertT ?hc ?_); (case hc => first | rfl | decide))
  | ((with_reducible refine ifN ?hc ?_); (case hc => first | (intro q; cases q; done) | decide))
  | ((with_reducible refine ifY ?hc ?_); (case hc => first | rfl | decide))
  | ((with_reducible refine' isiList (by with_reducible assumption) ?hS (by with_reducible assumption) ?e ?_); (case hS => exact rfl); (case e => first | rfl | kit_is); intro tk')
  | ((with_reducible refine' isiObj (by with_reducible assumption) ?hS (by with_reducible assumption) ?hg ?hd ?ha ?hn ?ht ?hm ?e ?_); (case hS => exact rfl); (case hg => k_is); (case hd => k_is); (case ha => k_is); (case hn => k_is); (case ht => k_is); (case hm => k_is); (case e => kit_is); intro tk')
  | ((with_reducible refine PyProof.Rows.callWith_builtin1 ?_ ?he ?hp); (case he => with_unfolding_all rfl); (case hp => with_unfolding_all rfl))
  | ((with_reducible refine PyProof.Rows.callWith_type1 ?_ ?he ?hp); (case he => with_unfolding_all rfl); (case hp => with_unfolding_all rfl))
  | (with_reducible refine PyProof.Rows.callWith_type0 ?_)
  | (with_reducible refine PyProof.Rows.callWith_method0 ?_)
  | ((with_reducible refine PyProof.Rows.callWith_method1 ?_ ?he ?hp); (case he => with_unfolding_all rfl); (case hp => with_unfolding_all rfl))))
local macro_rules | `(tactic| walk_at "mzr") => `(tactic| repeat' (first
  | with_reducible refine wpAny_execs_cons ?_
  | with_reducible refine wpAny_execs_nil ?_
  | with_reducible refine wpAny_Return_some ?_
  | with_reducible refine wpAny_Return_none ?_
  | ((with_reducible refine wpAny_Assign_Name ?_ ?hs); (case hs => with_unfolding_all rfl))
  | ((with_reducible refine wpAny_AugAssign_Name ?_))
  | ((with_reducible refine plainObj_wpAny_Assign_Attribute ?_ ?hs); (case hs => with_unfolding_all rfl))
  | with_reducible refine wpAny_If ?_
  | with_reducible refine wpAny_BinOp ?_
  | with_reducible refine wpAny_Assert_holds ?_
  | ((with_reducible refine wpAny_Compare1 ?_ ?hm); (case hm => with_unfolding_all rfl))
  | ((with_reducible refine wpAny_isTrue_Compare1 ?_ ?hm); (case hm => with_unfolding_all rfl))
  | with_reducible refine O.cint_ ?_
  | with_reducible refine O.cstr_ ?_
  | with_reducible refine O.cbytes_ ?_
  | with_reducible refine Constant_bool ?_
  | with_reducible refine Constant_none ?_
  | with_reducible refine IfExp_ ?_
  | with_reducible refine UnaryOp_ ?_
  | with_reducible refine Tuple_ ?_
  | with_reducible refine List_ ?_
  | with_reducible refine Subscript_ ?_
  | with_reducible refine PyProof.Rows.kws_cons ?_
  | with_reducible refine PyProof.Rows.kws_nil ?_
  | with_reducible refine wpAny_Slice ?_
  | with_reducible refine evalPart_some_step ?_
  | with_reducible refine evalPart_none_step ?_
  | with_reducible refine isTrue_and_nil ?_
  | with_reducible refine isTrue_or_nil ?_
  | with_reducible refine isTrue_and ?_
  | with_reducible refine isTrue_or ?_
  | with_reducible refine isTrue_not ?_
  | ((with_reducible refine Attribute_any_ ?_ ?he); (case he => with_unfolding_all rfl))
  | ((with_reducible refine' MethodCall_ (pl := ?pl) ?_ ?he); (case he => with_unfolding_all rfl))
  | ((with_reducible refine Call_ ?_ ?he); (case he => with_unfolding_all rfl))
  | with_reducible refine args_nil ?_
  | ((with_reducible refine args_cons ?_ ?he); (case he => with_unfolding_all rfl))
  | ((with_reducible refine isTrue_plain ?_ ?he); (case he => with_unfolding_all rfl))
  | ((with_reducible refine' nmT (by with_reducible assumption) ?hS ?hv ?_ ?hk); (case hS => exact rfl); (case hk => exact rfl); (case hv => first | exact rfl | assumption))
  | ((with_reducible refine' nmGT (by with_reducible assumption) ?hS ?e ?_ ?hk); (case hS => exact rfl); (case hk => exact rfl); (case e => k_is))
  | ((with_reducible refine' nmBT (by with_reducible assumption) ?hS ?e ?hv ?_ ?hn ?hk); (case hS => exact rfl); (case hk => exact rfl); (case e => k_is); (case hv => boot_by_name); (case hn => decide))
  | ((with_reducible refine' ldT (by with_reducible assumption) ?hS ?hv ?_ ?hk); (case hS => exact rfl); (case hk => exact rfl); (case hv => first | exact rfl | assumption))
  | ((with_reducible refine' stU (by with_reducible assumption) ?hS (by with_reducible assumption) ?_ ?hk ?hc); (case hS => exact rfl); (case hk => exact rfl); (case hc => exact rfl); intro s' f' u')
  | ((with_reducible refine' stT (by with_reducible assumption) ?hS ?_ ?hk ?hc); (case hS => exact rfl); (case hk => exact rfl); (case hc => exact rfl); intro s' f')
  | with_reducible refine O.add_ ?_
  | with_reducible refine O.sub_ ?_
  | with_reducible refine O.ior_ ?_
  | ((with_reducible refine O.mod_ ?hb ?_); (case hb => first | decide | assumption | omega))
  | with_reducible refine O.and_ ?_
  | with_reducible refine O.or_ ?_
  | with_reducible refine PyProof.Rows.eq_int ?_
  | with_reducible refine PyProof.Rows.ne_int ?_
  | with_reducible refine PyProof.Rows.lt_int ?_
  | with_reducible refine PyProof.Rows.gt_int ?_
  | with_reducible refine PyProof.Rows.le_int ?_
  | with_reducible refine PyProof.Rows.ge_int ?_
  | with_reducible refine O.neg_ ?_
  | with_reducible refine O.iadd_ ?_
  | with_reducible refine O.isub_ ?_
  | with_reducible refine wpAny_truthy_bool ?_
  | ((with_reducible refine' setFT (by with_reducible assumption) ?hS (by with_reducible assumption) ?hl ?hz ?hs ?hp ?ht ?hh ?_); (case hS => exact rfl); (case hl => exact rfl); (case hz => simp only [List.length_append, List.length_cons, List.length_nil]; omega); (case hs => k_is); (case hp => k_is); (case ht => k_is); (case hh => k_is); intro s' f' u')
  | ((with_reducible refine' attrF (by with_reducible assumption) ?hS (by with_reducible assumption) ?hl ?hg ?hh ?ha ?hn ?hv ?_); (case hS => exact rfl); (case hl => exact rfl); (case hg => k_is); (case hh => k_is); (case ha => k_is); (case hn => k_is); (case hv => first | (simp only [handedIn]; done) | decide +kernel | rfl))
  | ((with_reducible refine' methT (by with_reducible assumption) ?hS (by with_reducible assumption) ?hl ?hg ?hf ?ht ?_); (case hS => exact rfl); (case hl => exact rfl); (case hg => k_is); (case hf => k_is); (case ht => k_is))
  | ((with_reducible refine' smT (by with_reducible assumption) ?hS (by with_reducible assumption) ?hl ?hg ?hh ?ha ?ht ?hgf ?hts ?hc ?hp ?hv ?_); (case hS => exact rfl); (case hl => exact rfl); (case hg => k_is); (case hh => k_is); (case ha => k_is); (case ht => k_is); (case hgf => k_is); (case hts => k_is); (case hc => decide +kernel); (case hp => k_is); (case hv => exact rfl))
  | ((with_reducible refine' methU (by with_reducible assumption) ?hS (by with_reducible assumption) ?hl ?hg ?hf ?ht ?_); (case hS => exact rfl); (case hl => exact rfl); (case hg => k_is); (case hf => k_is); (case ht => k_is))
  | ((with_reducible refine' callWith_K (Fn.st (by with_reducible assumption)).kin ?hk ?_ ?he ?hp); (case hk => k_is); (case he => with_unfolding_all rfl); (case hp => with_unfolding_all rfl))
  | ((with_reducible refine' callObjT (by with_reducible assumption) ?hS (by with_reducible assumption) ?hs ?hf ?hfn ?_ ?he ?hp); (case hS => exact rfl); (case hs => k_is); (case hf => k_is); (case hfn => k_is); (case he => with_unfolding_all rfl); (case hp => with_unfolding_all rfl))
  | ((with_reducible refine' callWith_K0 ?X ?hk ?_); (case X => exact kinOf (Fn.at (by with_reducible assumption) rfl)); (case hk => k_is))
  | ((with_reducible refine' kin_and (by with_reducible assumption) ?hS ?_); (case hS => exact rfl))
  | ((with_reducible refine assertT ?hc ?_); (case hc => first | rfl | decide))
  | ((with_reducible refine ifN ?hc ?_); (case hc => first | (intro q; cases q; done) | decide))
  | ((with_reducible refine ifY ?hc ?_); (case hc => first | rfl | decide))
  | ((with_reducible refine' isiList (by with_reducible assumption) ?hS (by with_reducible assumption) ?e ?_); (case hS => exact rfl); (case e => first | rfl | kit_is); intro tk')
  | ((with_reducible refine' isiObj (by with_reducible assumption) ?hS (by with_reducible assumption) ?hg ?hd ?ha ?hn ?ht ?hm ?e ?_); (case hS => exact rfl); (case hg => k_is); (case hd => k_is); (case ha => k_is); (case hn => k_is); (case ht => k_is); (case hm => k_is); (case e => kit_is); intro tk')
  | ((with_reducible refine PyProof.Rows.callWith_builtin1 ?_ ?he ?hp); (case he => with_unfolding_all rfl); (case hp => with_unfolding_all rfl))
  | ((with_reducible refine PyProof.Rows.callWith_type1 ?_ ?he ?hp); (case he => with_unfolding_all rfl); (case hp => with_unfolding_all rfl))
  | (with_reducible refine PyProof.Rows.callWith_type0 ?_)
  | (with_reducible refine PyProof.Rows.callWith_method0 ?_)
  | ((with_reducible refine PyProof.Rows.callWith_method1 ?_ ?he ?hp); (case he => with_unfolding_all rfl); (case hp => with_unfolding_all rfl))))

theorem sp_shake_init {A : Around} {g : Heap} {s : Shared} {x dx : Addr} {a : Value} {b : Int} {t : Tok} {R : Result → Shared → Prop} (st : St (C.x dx) (Mine.hd.K C.w.params) g s) (hR : Room A 3) (u : Und C g s.heap x 278 dx [])
    (h : ∀ g' s' fs, Gr (C.x dx) g s g' s' → Und C g' s'.heap x 278 dx fs → R (.ok (.ret .none)) s') : codeAny C.M A (.call (.ref 247) ⟨[.ref x, a, .int b t], []⟩) R s := by
  (refine' callFn (C := C.x dx) (binds := [("self", .ref x), ("algorithm", a), ("block_length", .int b t)]) ?st ?ho ?hcd ?hroom ?hb ?hk ?hck ?_ ?h1 ?h2 ?h3)
  (case st => first | with_reducible assumption | exact (Fn.st (by with_reducible assumption)).at rfl); (case ho => k_is); (case hcd => k_is)
  (case hroom => exact Room.depth (by assumption)); (case hb => first | exact BindsTo.of_eq rfl | exact binds_K (St.kin' (by assumption)) rfl (by k_is) rfl rfl rfl)
  (case hk => exact rfl); (case hck => exact rfl); (case h1 => exact rfl); (case h2 => exact rfl); (case h3 => exact rfl)
  intro L1 s1 hk1 f
  have u1 : Und C g s1.heap x 278 dx [] := u.keep (fun _ _ e => e) fun o e => hk1 _ _ e
  walk_at "mzr"
  exact h _ _ _ (Fn.done (by with_reducible assumption)) (by with_reducible assumption)
theorem sp_shake {A : Around} {g : Heap} {s : Shared} {a : Value} {b : Int} {t : Tok} {Q : Value → Shared → Prop} {E : Value → Shared → Prop} (st : St C (Mine.hd.K C.w.params) g s) (hR : Room A 5)
    (h : ∀ v g' s', Gr C g s g' s' → Q v s') : wpAny C.M A (call (.ref 278) ([] ++ [a, .int b t])) Q E s := by
  refine mkInst (fI := 247) st (by k_is) (by k_is) (by k_is) fun x dx g₁ s₁ st1 sub1 u1 => ?_
  exact sp_shake_init st1 (hR.under_call) u1 fun g' s' fs gr u => ⟨rfl, g', fs, gr, u, fun g'' _ gr _ => h _ _ _ gr⟩

theorem sp_br {A : Around} {g : Heap} {s : Shared} {j : Int} {t u : Tok} {Q : Value → Shared → Prop} {E : Value → Shared → Prop} (st : St C (Mine.hd.K C.w.params) g s) (hR : Room A 3) (h0 : 0 ≤ j) (h1 : j < 256)
    (h : ∀ n t s', 0 ≤ n → Gr C g s g s' → Q (.int n t) s') : wpAny C.M A (call (.ref 301) [.int j t, .int 8 u]) Q E s := by
  have hgood := br_good ⟨j.toNat, by omega⟩
  have hbit : Builtin.bitAnd j (2 ^ (8 : Int).toNat - 1) = j := by
    rw [show (8 : Int).toNat = 8 from rfl, kbt_mask]; omega
  (refine' call_fn (binds := [("i", .int j t), ("k", .int 8 u)]) ?st ?ho ?hcd ?hroom ?hb ?hk ?hck ?_ ?h1 ?h2 ?h3)
  (case st => first | with_reducible assumption | exact (Fn.st (by with_reducible assumption)).at rfl); (case ho => k_is); (case hcd => k_is)
  (case hroom => exact Room.depth (by assumption)); (case hb => first | exact BindsTo.of_eq rfl | exact binds_K (St.kin' (by assumption)) rfl (by k_is) rfl rfl rfl)
  (case hk => exact rfl); (case hck => exact rfl); (case h1 => exact rfl); (case h2 => exact rfl); (case h3 => exact rfl)
  intro L1 s1 hk1 f
  walk_at "mzr"
  refine O.pow_ ?_ ?_ ?_
  · decide
  · decide
  walk_at "mzr"
  rw [hbit]
  rw [show (((⟨j.toNat, by omega⟩ : Fin 256).val : Nat) : Int) = j from by simp; omega] at hgood
  unfold brGood at hgood
  simp only [Bool.and_eq_true, decide_eq_true_eq, beq_iff_eq] at hgood
  obtain ⟨⟨⟨⟨⟨⟨⟨g1, g2⟩, g3⟩, g4⟩, g5⟩, g6⟩, g7⟩, g8⟩ := hgood
  refine P.bin_of_int ?_ (by rw [sizeLine_eq]; omega)
  walk_at "mzr"
  have k1 : brT1 j = cutText (baseText "0b" 2 j) (some 2) none none := rfl
  refine' tailStr_s (by with_reducible assumption) ?hS ?hsz ?hne ?_ ?hs ?ht
  case hS => exact rfl
  case hs => with_unfolding_all rfl
  case ht => intro _; with_unfolding_all rfl
  case hsz => rw [← k1, sizeLine_eq]; omega
  case hne => exact g8
  rw [← k1]
  intro s2 t2 f2
  with_reducible refine GM.zfill ?_
  walk_at "mzr"
  have k2 : brT2 j = if (8 : Int) ≤ (brT1 j).length then brT1 j else zfilled (brT1 j) (8 - (brT1 j).length) := rfl
  refine zfill8 (by rw [← k2, sizeLine_eq]; omega) ?_
  rw [← k2]
  intro t3 k3
  walk_at "mzr"
  have k3' : brT3 j = cutText (brT2 j) none none (some (-1)) := rfl
  refine' tailStr_rev (by with_reducible assumption) ?hS ?hsz ?_ ?hs ?ht
  case hS => exact rfl
  case hs => with_unfolding_all rfl
  case ht => intro _; with_unfolding_all rfl
  case hsz => rw [← k3', sizeLine_eq]; omega
  rw [← k3']
  intro s4 t4 f4
  walk_at "mzr"
  obtain ⟨ds, hds⟩ := Option.isSome_iff_exists.mp g7
  refine int_text2 ⟨g5, read_two hds, by simpa using g6⟩ fun t5 k5 => ?_
  walk_at "mzr"
  exact h _ _ _ (by omega) ((f4.tok _).done)

abbrev ringFs (t1 t2 : Tok) (v1 v2 v3 v4 : Value) : List (Str × Value) := [("q", .int 8380417 t1), ("n", .int 256 t2), ("shake128", v1), ("shake256", v2), ("ntt_zetas", v3), ("ntt_f", v4)]
def RingAt (g : Heap) (p : Addr) : Prop := ∃ t1 t2 v1 v2 v3 v4, Fld g p 384 (ringFs t1 t2 v1 v2 v3 v4)
theorem sp_ring_init {A : Around} {g : Heap} {s : Shared} {x dx : Addr} {a b : Value} {R : Result → Shared → Prop} (st : St (C.x dx) (Mine.hd.K C.w.params) g s) (hR : Room A 6) (u : Und C g s.heap x 384 dx [])
    (h : ∀ g' s' t1 t2 v1 v2 v3 v4, Gr (C.x dx) g s g' s' → Und C g' s'.heap x 384 dx (ringFs t1 t2 v1 v2 v3 v4) → R (.ok (.ret .none)) s') : codeAny C.M A (.call (.ref 294) ⟨[.ref x, a, b], []⟩) R s := by
  (refine' callFn (C := C.x dx) (binds := [("self", .ref x), ("shake_128", a), ("shake_256", b)]) ?st ?ho ?hcd ?hroom ?hb ?hk ?hck ?_ ?h1 ?h2 ?h3)
  (case st => first | with_reducible assumption | exact (Fn.st (by with_reducible assumption)).at rfl); (case ho => k_is); (case hcd => k_is)
  (case hroom => exact Room.depth (by assumption)); (case hb => first | exact BindsTo.of_eq rfl | exact binds_K (St.kin' (by assumption)) rfl (by k_is) rfl rfl rfl)
  (case hk => exact rfl); (case hck => exact rfl); (case h1 => exact rfl); (case h2 => exact rfl); (case h3 => exact rfl)
  intro L1 s1 hk1 f
  have u1 : Und C g s1.heap x 384 dx [] := u.keep (fun _ _ e => e) fun o e => hk1 _ _ e
  have hR' := fun env => hR.deeper (n := 5) env
  walk_at "mzr"
  refine sp_shake (C := C) (St.opened (Fn.st (Fn.at (by with_reducible assumption) (by exact rfl))) (by with_reducible assumption)) (hR' _) fun v1 g2 s2 gr2 => ?_
  obtain ⟨f2, u2⟩ := Fn.back (Fn.at (by with_reducible assumption) (by exact rfl)) (by with_reducible assumption) gr2
  walk_at "mzr"
  refine sp_shake (C := C) (St.opened (Fn.st (Fn.at (by with_reducible assumption) (by exact rfl))) (by with_reducible assumption)) (hR' _) fun v2 g3 s3 gr3 => ?_
  obtain ⟨f3, u3⟩ := Fn.back (Fn.at (by with_reducible assumption) (by exact rfl)) (by with_reducible assumption) gr3
  walk_at "mzr"
  refine comp1 (C := C) (Fn.opened (Fn.at (by with_reducible assumption) (by exact rfl)) (by with_reducible assumption)) ?_
  walk_at "mzr"
  refine rangeGo1 (C := C) (k := 256) (St.opened (Fn.st (by with_reducible assumption)) (by with_reducible assumption)) (by exact rfl) (hR' _).2.2 rfl (by decide) fun I g₂ s₂ it => ?_
  refine ⟨I, g₂, 256, _, fun _ _ _ => True, rfl, it.same_l (by exact rfl), by decide, trivial, fun _ _ _ _ _ _ => trivial, ?_, ?_⟩
  · intro Cc i v gk sk se ys E' hi hP fe sube hlen _
    obtain ⟨t, rfl⟩ := hP
    have fl : Fld gk x 384 _ := Fld.up (Und.fld (by with_reducible assumption) (Fn.st (C := C.x dx) (by with_reducible assumption)).sub) (fun b o e => sube b o (it.gr.up b o e))
    walk_at "mzr"
    refine sp_br (C := C) (Fn.st (Fn.at fe (by exact rfl))) ((hR' _).less (by decide)) (by omega) (by omega) fun n tn sn hn grn => ?_
    have fn := (Fn.at fe (by exact rfl)).gr grn
    walk_at "mzr"
    refine pow3 hn (by decide) fun r tr kr => ?_
    exact ⟨_, Gr.same_l (grn.tok_r _) (by exact rfl), trivial⟩
  · intro D ys g' s' gr hpl hlen _
    obtain ⟨f4, u4⟩ := Fn.back (by with_reducible assumption) (by with_reducible assumption) gr
    walk_at "mzr"
    refine pow3_of (fun Q' hQ => pow3i hQ) fun i t k => ?_
    walk_at "mzr"
    exact h _ _ _ _ _ _ _ _ (Fn.done (Fn.at (by with_reducible assumption) (by exact rfl))) (by assumption)

theorem sp_module_init {A : Around} {g : Heap} {s : Shared} {x dx : Addr} {a b : Value} {R : Result → Shared → Prop} (st : St (C.x dx) (Mine.hd.K C.w.params) g s) (hR : Room A 9) (u : Und C g s.heap x 961 dx [])
    (h : ∀ g' s' p, Gr (C.x dx) g s g' s' → Und C g' s'.heap x 961 dx [("ring", .ref p)] → RingAt g' p → R (.ok (.ret .none)) s') : codeAny C.M A (.call (.ref 913) ⟨[.ref x, a, b], []⟩) R s := by
  (refine' callFn (C := C.x dx) (binds := [("self", .ref x), ("shake_128", a), ("shake_256", b)]) ?st ?ho ?hcd ?hroom ?hb ?hk ?hck ?_ ?h1 ?h2 ?h3)
  (case st => first | with_reducible assumption | exact (Fn.st (by with_reducible assumption)).at rfl); (case ho => k_is); (case hcd => k_is)
  (case hroom => exact Room.depth (by assumption)); (case hb => first | exact BindsTo.of_eq rfl | exact binds_K (St.kin' (by assumption)) rfl (by k_is) rfl rfl rfl)
  (case hk => exact rfl); (case hck => exact rfl); (case h1 => exact rfl); (case h2 => exact rfl); (case h3 => exact rfl)
  intro L1 s1 hk1 f
  have u1 : Und C g s1.heap x 961 dx [] := u.keep (fun _ _ e => e) fun o e => hk1 _ _ e
  have hR' := fun env => hR.deeper (n := 8) env
  walk_at "mzr"
  refine mkInst (C := C) (fI := 294) (St.opened (Fn.st (by with_reducible assumption)) (by with_reducible assumption)) (by k_is) (by k_is) (by k_is) fun p dp g₁ s₁ st1 sub1 up1 => ?_
  refine sp_ring_init st1 ((hR' _).under_call (m := 6)) up1 fun g' s' t1 t2 v1 v2 v3 v4 gr up => ⟨rfl, g', _, gr, up, fun g'' _ gr2 fl => ?_⟩
  obtain ⟨f2, u2⟩ := Fn.back (by with_reducible assumption) (by with_reducible assumption) gr2
  have rg : RingAt (delG g'' dx) p := ⟨t1, t2, v1, v2, v3, v4, delG_fld u1 gr2 fl (by simp)⟩
  walk_at "mzr"
  exact h _ _ _ (Fn.done (Fn.at (by with_reducible assumption) (by exact rfl))) (by assumption) rg
def ModAt (g : Heap) (m p : Addr) : Prop := Fld g m 961 [("ring", .ref p)] ∧ RingAt g p
theorem sp_module {A : Around} {g : Heap} {s : Shared} {a b : Value} {Q : Value → Shared → Prop} {E : Value → Shared → Prop} (st : St C (Mine.hd.K C.w.params) g s) (hR : Room A 10)
    (h : ∀ m p g' s', Gr C g s g' s' → ModAt g' m p → Q (.ref m) s') : wpAny C.M A (call (.ref 961) [a, b]) Q E s := by
  refine mkInst (fI := 913) st (by k_is) (by k_is) (by k_is) fun x dx g₁ s₁ st1 sub1 u1 => ?_
  exact sp_module_init st1 (hR.under_call (m := 9)) u1 fun g' s' p gr u rg => ⟨rfl, g', _, gr, u, fun g'' sub gr fl => h _ _ _ _ gr ⟨fl, let ⟨t1, t2, v1, v2, v3, v4, f⟩ := rg; ⟨t1, t2, v1, v2, v3, v4, f.up sub⟩⟩⟩

theorem sp_parse {A : Around} {g : Heap} {s : Shared} {x p l : Addr} {vs : List Value} {Q : Value → Shared → Prop} {E : Value → Shared → Prop} (st : St C (Mine.hd.K C.w.params) g s) (hR : Room A 3)
    (hx : Fld g x 514 [("parent", .ref p)]) (hp : RingAt g p) (hl : g.IsList l vs.toArray) (hn : vs.length = 256)
    (h : ∀ s', Gr C g s g s' → Q (.ref l) s') : wpAny C.M A (call (.ref 103) [.ref x, .ref l]) Q E s := by
  obtain ⟨t1, t2, v1, v2, v3, v4, hp⟩ := hp
  (refine' call_fn (binds := [("self", .ref x), ("coefficients", .ref l)]) ?st ?ho ?hcd ?hroom ?hb ?hk ?hck ?_ ?h1 ?h2 ?h3)
  (case st => first | with_reducible assumption | exact (Fn.st (by with_reducible assumption)).at rfl); (case ho => k_is); (case hcd => k_is)
  (case hroom => exact Room.depth (by assumption)); (case hb => first | exact BindsTo.of_eq rfl | exact binds_K (St.kin' (by assumption)) rfl (by k_is) rfl rfl rfl)
  (case hk => exact rfl); (case hck => exact rfl); (case h1 => exact rfl); (case h2 => exact rfl); (case h3 => exact rfl)
  intro L1 s1 hk1 f
  walk_at "mzr"
  refine lenF (by with_reducible assumption) rfl hl (by omega) ?_
  walk_at "mzr"
  rw [if_neg (by simp [hn])]
  walk_at "mzr"
  rw [if_neg (by simp [hn])]
  walk_at "mzr"
  exact h _ (Fn.done (Fn.at (by with_reducible assumption) (by exact rfl)))

def PolyAt (g : Heap) (y p : Addr) (ns : List Int) : Prop := ∃ l vs, Fld g y 514 [("parent", .ref p), ("coeffs", .ref l)] ∧ g.IsList l vs.toArray ∧ IntsAre vs ns
theorem PolyAt.up {g g' : Heap} {y p : Addr} {ns : List Int} (h : PolyAt g y p ns) (k : Sub g g') : PolyAt g' y p ns := let ⟨l, vs, a, b, c⟩ := h; ⟨l, vs, a.up k, IsList.up b k, c⟩
theorem sp_poly_init {A : Around} {g : Heap} {s : Shared} {x dx p l : Addr} {vs : List Value} {R : Result → Shared → Prop} (st : St (C.x dx) (Mine.hd.K C.w.params) g s) (hR : Room A 5) (u : Und C g s.heap x 514 dx [])
    (hp : RingAt g p) (hl : g.IsList l vs.toArray) (hn : vs.length = 256)
    (h : ∀ g' s', Gr (C.x dx) g s g' s' → Und C g' s'.heap x 514 dx [("parent", .ref p), ("coeffs", .ref l)] → R (.ok (.ret .none)) s') : codeAny C.M A (.call (.ref 400) ⟨[.ref x, .ref p, .ref l], []⟩) R s := by
  (refine' callFn (C := C.x dx) (binds := [("self", .ref x), ("parent", .ref p), ("coefficients", .ref l)]) ?st ?ho ?hcd ?hroom ?hb ?hk ?hck ?_ ?h1 ?h2 ?h3)
  (case st => first | with_reducible assumption | exact (Fn.st (by with_reducible assumption)).at rfl); (case ho => k_is); (case hcd => k_is)
  (case hroom => exact Room.depth (by assumption)); (case hb => first | exact BindsTo.of_eq rfl | exact binds_K (St.kin' (by assumption)) rfl (by k_is) rfl rfl rfl)
  (case hk => exact rfl); (case hck => exact rfl); (case h1 => exact rfl); (case h2 => exact rfl); (case h3 => exact rfl)
  intro L1 s1 hk1 f
  have u1 : Und C g s1.heap x 514 dx [] := u.keep (fun _ _ e => e) fun o e => hk1 _ _ e
  have hR' := fun env => hR.deeper (n := 4) env
  walk_at "mzr"
  refine sp_parse (C := C) (p := p) (vs := vs) (St.opened (Fn.st (Fn.at (by with_reducible assumption) (by exact rfl))) (by with_reducible assumption)) ((hR' _).less (by decide)) (Und.fld (C := C) (by assumption) (Fn.st (C := C.x dx) (by with_reducible assumption)).sub) ?_ ?_ hn fun s2 gr2 => ?_
  · obtain ⟨t1, t2, v1, v2, v3, v4, hp⟩ := hp
    exact ⟨t1, t2, v1, v2, v3, v4, hp.up (addG_up (Fn.st (C := C.x dx) (by with_reducible assumption)).sub)⟩
  · exact IsList.up hl (addG_up (Fn.st (C := C.x dx) (by with_reducible assumption)).sub)
  obtain ⟨f2, u2⟩ := Fn.back (Fn.at (by with_reducible assumption) (by exact rfl)) (by with_reducible assumption) gr2
  walk_at "mzr"
  exact h _ _ (Fn.done (Fn.at (by with_reducible assumption) (by exact rfl))) (by assumption)
/-- Polynomial(parent, coefficients) -/
theorem sp_poly {A : Around} {g : Heap} {s : Shared} {p l : Addr} {vs : List Value} {ns : List Int} {Q : Value → Shared → Prop} {E : Value → Shared → Prop} (st : St C (Mine.hd.K C.w.params) g s) (hR : Room A 6) (hp : RingAt g p) (hl : g.IsList l vs.toArray) (hn : vs.length = 256) (hi : IntsAre vs ns)
    (h : ∀ y g' s', Gr C g s g' s' → PolyAt g' y p ns → Q (.ref y) s') : wpAny C.M A (call (.ref 514) [.ref p, .ref l]) Q E s := by
  refine mkInst (fI := 400) st (by k_is) (by k_is) (by k_is) fun x dx g₁ s₁ st1 sub1 u1 => ?_
  have hp1 : RingAt g₁ p := let ⟨t1, t2, v1, v2, v3, v4, f⟩ := hp; ⟨t1, t2, v1, v2, v3, v4, f.up sub1⟩
  exact sp_poly_init st1 (hR.under_call (m := 5)) u1 hp1 (IsList.up hl sub1) hn fun g' s' gr u => ⟨rfl, g', _, gr, u, fun g'' sub gr2 fl => h _ _ _ gr2 ⟨l, vs, fl, IsList.up hl gr2.up, hi⟩⟩

/-- ring(coefficients) -/
theorem sp_ringcall {A : Around} {g : Heap} {s : Shared} {p l : Addr} {vs : List Value} {ns : List Int} {R : Result → Shared → Prop} (st : St C (Mine.hd.K C.w.params) g s) (hR : Room A 8) (hp : RingAt g p) (hl : g.IsList l vs.toArray) (hn : vs.length = 256) (hi : IntsAre vs ns)
    (h : ∀ y g' s', Gr C g s g' s' → PolyAt g' y p ns → R (.ok (.ret (.ref y))) s') : codeAny C.M A (.call (.ref 374) ⟨[.ref p, .ref l], []⟩) R s := by
  (refine' callFn (C := C) (binds := [("self", .ref p), ("coefficients", .ref l), ("is_ntt", .bool false)]) ?st ?ho ?hcd ?hroom ?hb ?hk ?hck ?_ ?h1 ?h2 ?h3)
  (case st => first | with_reducible assumption | exact (Fn.st (by with_reducible assumption)).at rfl); (case ho => k_is); (case hcd => k_is)
  (case hroom => exact Room.depth (by assumption)); (case hb => first | exact BindsTo.of_eq rfl | exact binds_K (St.kin' (by assumption)) rfl (by k_is) rfl rfl rfl)
  (case hk => exact rfl); (case hck => exact rfl); (case h1 => exact rfl); (case h2 => exact rfl); (case h3 => exact rfl)
  intro L1 s1 hk1 f
  have hR' := fun env => hR.deeper (n := 7) env
  walk_at "mzr"
  refine sp_poly (Fn.st (Fn.at (by with_reducible assumption) (by exact rfl))) ((hR' _).less (by decide)) hp hl hn hi fun y g' s' gr py => ?_
  walk_at "mzr"
  exact h _ _ _ ((Fn.gr (Fn.at (by with_reducible assumption) (by exact rfl)) gr).done) py

theorem sp_checkdims_Vector {A : Around} {g : Heap} {s : Shared} {x D row : Addr} {vp vt : Value} {vs : List Value} {Q : Value → Shared → Prop} {E : Value → Shared → Prop} (st : St C (Mine.hd.K C.w.params) g s) (hR : Room A 3)
    (hx : Fld g x 897 [("parent", vp), ("_data", .ref D), ("_transpose", vt)]) (hD : g.IsList D [Value.ref row].toArray) (hr : g.IsList row vs.toArray) (hz : vs.length < 1000)
    (h : ∀ g' s', Gr C g s g' s' → Q (.bool true) s') : wpAny C.M A (call (.ref 600) [.ref x]) Q E s := by
  (refine' call_fn (binds := [("self", .ref x)]) ?st ?ho ?hcd ?hroom ?hb ?hk ?hck ?_ ?h1 ?h2 ?h3)
  (case st => first | with_reducible assumption | exact (Fn.st (by with_reducible assumption)).at rfl); (case ho => k_is); (case hcd => k_is)
  (case hroom => exact Room.depth (by assumption)); (case hb => first | exact BindsTo.of_eq rfl | exact binds_K (St.kin' (by assumption)) rfl (by k_is) rfl rfl rfl)
  (case hk => exact rfl); (case hck => exact rfl); (case h1 => exact rfl); (case h2 => exact rfl); (case h3 => exact rfl)
  intro L1 s1 hk1 f
  have hR' := fun env => hR.deeper (n := 2) env
  walk_at "mzr"
  refine comp1 (C := C) (Fn.view (Fn.at f (by exact rfl))) ?_
  walk_at "mzr"
  refine list_itS (vs := [Value.ref row]) (Fn.st (Fn.at f (by exact rfl))) (hR' _).2.2 hD fun I g₂ s₂ it => ?_
  refine ⟨I, g₂, 1, _, fun i ys g => (i = 0 ∧ ys = []) ∨ (i = 1 ∧ ∃ t, ys = [Value.int vs.length t]), rfl, it.same_l (by exact rfl), by decide, .inl ⟨rfl, rfl⟩, fun _ _ _ _ _ h => h, ?_, ?_⟩
  · intro Cc i v gk sk se ys E' hi hP fe sube hlen _
    have hi0 : i = 0 := by omega
    subst hi0
    have hv : v = .ref row := by simpa using hP.symm
    subst hv
    have hys : ys = [] := List.eq_nil_of_length_eq_zero hlen
    subst hys
    have hr' : gk.IsList row vs.toArray := IsList.up hr (fun b o e => sube b o (it.gr.up b o e))
    walk_at "mzr"
    refine lenF fe (by exact rfl) hr' (by omega) ?_
    exact ⟨gk, Gr.same_r (Gr.refl fe.st) (by exact rfl), .inr ⟨rfl, _, rfl⟩⟩
  · intro L' ys g' s' gr hpl hlen hO
    have hys : ∃ t, ys = [Value.int vs.length t] := by
      rcases hO with ⟨q, _⟩ | ⟨_, hh⟩
      · cases q
      · exact hh
    obtain ⟨t, rfl⟩ := hys
    have f2 := (Fn.at f (by exact rfl)).gr gr
    walk_at "mzr"
    refine set1F f2 (by exact rfl) (hR' _).2.2 (PlainList.toIs hpl) ⟨t, rfl⟩ fun S s3 f3 hlen3 => ?_
    walk_at "mzr"
    refine hlen3 _ _ fun t4 k4 => ?_
    walk_at "mzr"
    exact h _ _ (Fn.done (Fn.at f3 (by exact rfl)))

abbrev matFs (vp vd vt : Value) : List (Str × Value) := [("parent", vp), ("_data", vd), ("_transpose", vt)]

theorem sp_mgen_Vector {A : Around} {g : Heap} {s : Shared} {x dx m D row : Addr} {b : Bool} {vs : List Value} {R : Result → Shared → Prop} (st : St (C.x dx) (Mine.hd.K C.w.params) g s) (hR : Room A 5) (u : Und C g s.heap x 897 dx [])
    (hD : g.IsList D [Value.ref row].toArray) (hr : g.IsList row vs.toArray) (hz : vs.length < 1000)
    (h : ∀ g' s', Gr (C.x dx) g s g' s' → Und C g' s'.heap x 897 dx (matFs (.ref m) (.ref D) (.bool b)) → R (.ok (.ret .none)) s') :
    codeAny C.M A (.call (.ref 595) ⟨[.ref x, .ref m, .ref D], [("transpose", .bool b)]⟩) R s := by
  (refine' callFn (C := C.x dx) (binds := [("self", .ref x), ("parent", .ref m), ("matrix_data", .ref D), ("transpose", .bool b)]) ?st ?ho ?hcd ?hroom ?hb ?hk ?hck ?_ ?h1 ?h2 ?h3)
  (case st => first | with_reducible assumption | exact (Fn.st (by with_reducible assumption)).at rfl); (case ho => k_is); (case hcd => k_is)
  (case hroom => exact Room.depth (by assumption)); (case hb => first | exact BindsTo.of_eq rfl | exact binds_K (St.kin' (by assumption)) rfl (by k_is) rfl rfl rfl)
  (case hk => exact rfl); (case hck => exact rfl); (case h1 => exact rfl); (case h2 => exact rfl); (case h3 => exact rfl)
  intro L1 s1 hk1 f
  have u1 : Und C g s1.heap x 897 dx [] := u.keep (fun _ _ e => e) fun o e => hk1 _ _ e
  have hR' := fun env => hR.deeper (n := 4) env
  walk_at "mzr"
  refine sp_checkdims_Vector (C := C) (vs := vs) (row := row) (D := D) (St.opened (Fn.st (Fn.at (by with_reducible assumption) (by exact rfl))) (by with_reducible assumption)) ((hR' _).less (by decide)) (Und.fld (C := C) (by assumption) (Fn.st (C := C.x dx) (by with_reducible assumption)).sub) ?_ ?_ hz fun g2 s2 gr2 => ?_
  · exact IsList.up hD (addG_up (Fn.st (C := C.x dx) (by with_reducible assumption)).sub)
  · exact IsList.up hr (addG_up (Fn.st (C := C.x dx) (by with_reducible assumption)).sub)
  obtain ⟨f2, u2⟩ := Fn.back (Fn.at (by with_reducible assumption) (by exact rfl)) (by with_reducible assumption) gr2
  walk_at "mzr"
  exact h _ _ (Fn.done (Fn.at (by with_reducible assumption) (by exact rfl))) (by assumption)

theorem sp_minit_Vector {A : Around} {g : Heap} {s : Shared} {x dx m D row : Addr} {b : Bool} {vs : List Value} {R : Result → Shared → Prop} (hP : C.prog = PySem.Challenge.pw_bn0016_01) (st : St (C.x dx) (Mine.hd.K C.w.params) g s) (hR : Room A 7) (u : Und C g s.heap x 897 dx [])
    (hD : g.IsList D [Value.ref row].toArray) (hr : g.IsList row vs.toArray) (hz : vs.length < 1000)
    (h : ∀ g' s', Gr (C.x dx) g s g' s' → Und C g' s'.heap x 897 dx (matFs (.ref m) (.ref D) (.bool b)) → R (.ok (.ret .none)) s') :
    codeAny C.M A (.call (.ref 759) ⟨[.ref x, .ref m, .ref D], [("transpose", .bool b)]⟩) R s := by
  refine' superInit (C := C) (x := x) (dx := dx) (Cc := 897) (D := 876) (f2 := 595) (binds := [("self", .ref x), ("parent", .ref m), ("matrix_data", .ref D), ("transpose", .bool b)]) st u ?ho ?hcd (hR.less (by decide)) ?hbind ?hloc ?hcell ?hp ?hv ?hcode ?hvs ?hfile ?hcellv ?hD ?hsub ?hsuper ?hks ?hkc ?hka ?hk ?htop ?hop ?hm ?ht ?hfn ?hplain ?he ?hs ?hev ?_ ?hco ?hgen
  case ho => k_is
  case hcd => k_is
  case hbind => exact binds_K (St.kin' st) rfl (by k_is) rfl rfl rfl
  case hloc => exact rfl
  case hcell => decide
  case hp => exact rfl
  case hv => exact rfl
  case hcode => k_is
  case hvs => exact rfl
  case hfile => rw [hP]; first | exact rfl | decide +kernel
  case hcellv => k_is
  case hD => k_is
  case hsub => k_is
  case hsuper => k_is
  case hks => exact rfl
  case hkc => exact rfl
  case hka => exact rfl
  case hk => exact rfl
  case htop => rw [hP]; first | exact rfl | decide +kernel
  case hop => k_is
  case hm => ks_is
  case ht => k_is
  case hfn => k_is
  case hplain => intro _; exact rfl
  case he => intro _; exact rfl
  case hs => intro _; with_unfolding_all rfl
  case hev => intro _; with_unfolding_all rfl
  case hco => exact rfl
  case hgen => exact rfl
  intro L q s1 f u1 hq
  have hR' := fun env => hR.deeper (n := 6) env
  refine evalArgs_kw2 (by exact rfl) ?_ (by with_unfolding_all rfl)
  walk_at "mzr"
  refine ⟨fun _ _ e => e, ?_⟩
  exact sp_mgen_Vector (vs := vs) (row := row) (Fn.st (Fn.at (by with_reducible assumption) (by exact rfl))) ((hR' _).less (by decide)) u1 hD hr hz fun g' s' gr u => h _ _ (f.gr gr).done u

theorem sp_vinit {A : Around} {g : Heap} {s : Shared} {x dx m row : Addr} {vs : List Value} {R : Result → Shared → Prop} (hP : C.prog = PySem.Challenge.pw_bn0016_01) (st : St (C.x dx) (Mine.hd.K C.w.params) g s) (hR : Room A 9) (u : Und C g s.heap x 897 dx [])
    (hr : g.IsList row vs.toArray) (hz : vs.length < 1000)
    (h : ∀ g' s' D, Gr (C.x dx) g s g' s' → Und C g' s'.heap x 897 dx (matFs (.ref m) (.ref D) (.bool true)) → g'.IsList D [Value.ref row].toArray → R (.ok (.ret .none)) s') :
    codeAny C.M A (.call (.ref 894) ⟨[.ref x, .ref m, .ref row], []⟩) R s := by
  refine' superInit (C := C) (x := x) (dx := dx) (Cc := 897) (D := 897) (f2 := 759) (binds := [("self", .ref x), ("parent", .ref m), ("vector_elements", .ref row)]) st u ?ho ?hcd (hR.less (by decide)) ?hbind ?hloc ?hcell ?hp ?hv ?hcode ?hvs ?hfile ?hcellv ?hD ?hsub ?hsuper ?hks ?hkc ?hka ?hk ?htop ?hop ?hm ?ht ?hfn ?hplain ?he ?hs ?hev ?_ ?hco ?hgen
  case ho => k_is
  case hcd => k_is
  case hbind => exact BindsTo.of_eq rfl
  case hloc => exact rfl
  case hcell => decide
  case hp => exact rfl
  case hv => exact rfl
  case hcode => k_is
  case hvs => exact rfl
  case hfile => rw [hP]; first | exact rfl | decide +kernel
  case hcellv => k_is
  case hD => k_is
  case hsub => k_is
  case hsuper => k_is
  case hks => exact rfl
  case hkc => exact rfl
  case hka => exact rfl
  case hk => exact rfl
  case htop => rw [hP]; first | exact rfl | decide +kernel
  case hop => k_is
  case hm => ks_is
  case ht => k_is
  case hfn => k_is
  case hplain => intro _; exact rfl
  case he => intro _; exact rfl
  case hs => intro _; with_unfolding_all rfl
  case hev => intro _; with_unfolding_all rfl
  case hco => exact rfl
  case hgen => exact rfl
  intro L q s1 f u1 hq
  have hR' := fun env => hR.deeper (n := 8) env
  refine evalArgs_kw2 (by exact rfl) ?_ (by with_unfolding_all rfl)
  walk_at "mzr"
  refine newListF f (by exact rfl) (by show 1 ≤ sizeLine; decide) fun D g2 s2 f2 gr2 up2 k2 pl2 => ?_
  have u2 : Und C g2 s2.heap x 897 dx [] := u1.keep up2 fun o e => k2 _ _ e
  walk_at "mzr"
  refine ⟨fun b o e => k2 b o e, ?_⟩
  refine sp_minit_Vector hP (vs := vs) (row := row) (m := m) (D := D) (Fn.st (Fn.at f2 (by exact rfl))) ((hR' _).less (by decide)) u2 (PlainList.toIs pl2) (IsList.up hr up2) hz fun g' s' gr u => ?_
  exact h _ _ _ ((Fn.at f2 (by exact rfl)).gr gr).done u (IsList.up (PlainList.toIs pl2) gr.up)

/-- a vector: one column of polynomials -/
def VecAt (g : Heap) (y m : Addr) (es : List Addr) : Prop := ∃ D row, Fld g y 897 (matFs (.ref m) (.ref D) (.bool true)) ∧ g.IsList D [Value.ref row].toArray ∧ g.IsList row (es.map Value.ref).toArray
theorem VecAt.up {g g' : Heap} {y m : Addr} {es : List Addr} (h : VecAt g y m es) (k : Sub g g') : VecAt g' y m es := let ⟨D, r, a, b, c⟩ := h; ⟨D, r, a.up k, IsList.up b k, IsList.up c k⟩
theorem sp_vector {A : Around} {g : Heap} {s : Shared} {m row : Addr} {fs : List (Str × Value)} {es : List Addr} {Q : Value → Shared → Prop} {E : Value → Shared → Prop} (hP : C.prog = PySem.Challenge.pw_bn0016_01) (st : St C (Mine.hd.K C.w.params) g s) (hR : Room A 12)
    (hr : g.IsList row (es.map Value.ref).toArray) (hz : es.length < 1000)
    (h : ∀ y g' s', Gr C g s g' s' → VecAt g' y m es → Q (.ref y) s') : wpAny C.M A (call (.ref 928) [.ref m, .ref row]) Q E s := by
  (refine' call_fn (binds := [("self", .ref m), ("elements", .ref row)]) ?st ?ho ?hcd ?hroom ?hb ?hk ?hck ?_ ?h1 ?h2 ?h3)
  (case st => first | with_reducible assumption | exact (Fn.st (by with_reducible assumption)).at rfl); (case ho => k_is); (case hcd => k_is)
  (case hroom => exact Room.depth (by assumption)); (case hb => first | exact BindsTo.of_eq rfl | exact binds_K (St.kin' (by assumption)) rfl (by k_is) rfl rfl rfl)
  (case hk => exact rfl); (case hck => exact rfl); (case h1 => exact rfl); (case h2 => exact rfl); (case h3 => exact rfl)
  intro L1 s1 hk1 f
  have hR' := fun env => hR.deeper (n := 11) env
  walk_at "mzr"
  refine mkInst (C := C) (fI := 894) (Fn.st (Fn.at f (by exact rfl))) (by k_is) (by k_is) (by k_is) fun x dx g₁ s₁ st1 sub1 u1 => ?_
  refine sp_vinit hP st1 ((hR' _).under_call (m := 9)) u1 (IsList.up hr sub1) (by simpa using hz) fun g' s' D gr u hD => ⟨rfl, g', _, gr, u, fun g'' sub gr2 fl => ?_⟩
  have f2 := (Fn.at f (by exact rfl)).gr gr2
  walk_at "mzr"
  exact h _ _ _ f2.done ⟨D, row, fl, IsList.up hD sub, IsList.up hr gr2.up⟩

theorem intsAre_snoc {vs : List Value} {ns : List Int} {n : Int} {t : Tok} (h : IntsAre vs ns) : IntsAre (vs ++ [.int n t]) (ns ++ [n]) := by
  induction h with
  | nil => exact .cons n t .nil
  | cons a b _ ih => exact .cons a b ih
theorem range_snoc {α : Type} (f : Nat → α) (i : Nat) : (List.range i).map f ++ [f i] = (List.range (i + 1)).map f := by rw [List.range_succ, List.map_append]; rfl
theorem mulOkL {a b : Int} (h : a.natAbs < 2 ^ 64) : IntMulOk a b := IntMulOk.of_left (intBits_le_iff.mpr h)
theorem mulOkR {a b : Int} (h : b.natAbs < 2 ^ 64) : IntMulOk a b := IntMulOk.of_right (intBits_le_iff.mpr h)
/-- ring._bit_unpack -/
theorem sp_rbu {A : Around} {g : Heap} {s : Shared} {p : Addr} {b : Array UInt8} {n : Int} {t u : Tok} {Q : Value → Shared → Prop} {E : Value → Shared → Prop} (st : St C (Mine.hd.K C.w.params) g s) (hR : Room A 4) (hp : RingAt g p)
    (hb : b.size ≤ 10000) (hn : 0 < n ∧ n < 100) (h8 : ((b.size : Int) * n).fmod 8 = 0)
    (h : ∀ D vs g' s', Gr C g s g' s' → g'.IsList D vs.toArray → IntsAre vs ((List.range 256).map (unpackEl (KFB.value (KBw.bInts b).reverse) n)) → Q (.ref D) s') : wpAny C.M A (call (.ref 337) [.ref p, .bytes b t, .int n u]) Q E s := by
  obtain ⟨t1, t2, v1, v2, v3, v4, hp⟩ := hp
  (refine' call_fn (binds := [("self", .ref p), ("input_bytes", .bytes b t), ("n_bits", .int n u)]) ?st ?ho ?hcd ?hroom ?hb ?hk ?hck ?_ ?h1 ?h2 ?h3)
  (case st => first | with_reducible assumption | exact (Fn.st (by with_reducible assumption)).at rfl); (case ho => k_is); (case hcd => k_is)
  (case hroom => exact Room.depth (by assumption)); (case hb => first | exact BindsTo.of_eq rfl | exact binds_K (St.kin' (by assumption)) rfl (by k_is) rfl rfl rfl)
  (case hk => exact rfl); (case hck => exact rfl); (case h1 => exact rfl); (case h2 => exact rfl); (case h3 => exact rfl)
  intro L1 s1 hk1 f
  have hR' := fun env => hR.deeper (n := 3) env
  walk_at "mzr"
  refine len_bytes (by omega) ?_
  walk_at "mzr"
  refine O.mul_ ?hm ?_
  case hm => exact mulOkR (by omega)
  walk_at "mzr"
  rw [if_neg (by simp [h8])]
  walk_at "mzr"
  refine' fbMethF (by with_reducible assumption) ?hS ?e ?_
  case hS => exact rfl
  case e => k_is
  intro xb s2 f2 hsb k2
  refine' fbCallWith ?_ ?he ?hp
  case he => with_unfolding_all rfl
  case hp => with_unfolding_all rfl
  walk_at "mzr"
  refine ⟨hsb, fbCall hsb hb fun t3 k3 => ?_⟩
  walk_at "mzr"
  refine O.shl_ ?_ ?_ ?_
  · omega
  · have : Builtin.Int.intBits 1 = 1 := by decide
    rw [this]; omega
  walk_at "mzr"
  refine' comp1 (C := C) ?fv ?_
  case fv => exact Fn.view (Fn.at (by with_reducible assumption) (by exact rfl))
  walk_at "mzr"
  refine rangeGo1 (C := C) (k := 256) (Fn.st (by with_reducible assumption)) (by exact rfl) (hR' _).2.2 rfl (by decide) fun I g₂ s₂ it => ?_
  refine ⟨I, g₂, 256, _, fun i ys _ => IntsAre ys ((List.range i).map (unpackEl (KFB.value (KBw.bInts b).reverse) n)), rfl, it.same_l (by exact rfl), by decide, .nil, fun _ _ _ _ _ h => h, ?_, ?_⟩
  · intro Cc i v gk sk se ys E' hi hP fe sube hlen hO
    obtain ⟨ti, rfl⟩ := hP
    walk_at "mzr"
    (with_reducible refine' O.mul_ ?hmu ?_); (case hmu => exact mulOkL (by omega))
    walk_at "mzr"
    refine O.shr_ (Int.mul_nonneg (by omega) (by omega)) ?_
    walk_at "mzr"
    refine ⟨gk, Gr.same_r (Gr.refl fe.st) (by exact rfl), ?_⟩
    show IntsAre _ ((List.range (i + 1)).map _)
    rw [← range_snoc]
    exact intsAre_snoc hO
  · intro D ys g' s' gr hpl hlen hO
    have f9 := Fn.gr (Fn.at (by with_reducible assumption) (by exact rfl)) gr
    walk_at "mzr"
    exact h _ _ _ _ f9.done (PlainList.toIs hpl) hO

def unp (b : Array UInt8) (n : Int) : List Int := (List.range 256).map (unpackEl (KFB.value (KBw.bInts b).reverse) n)
theorem RingAt.up {g g' : Heap} {p : Addr} (h : RingAt g p) (k : Sub g g') : RingAt g' p := let ⟨t1, t2, v1, v2, v3, v4, f⟩ := h; ⟨t1, t2, v1, v2, v3, v4, f.up k⟩
theorem intsAre_len {vs : List Value} {ns : List Int} (h : IntsAre vs ns) : vs.length = ns.length := h.length
theorem unp_len (b : Array UInt8) (n : Int) : (unp b n).length = 256 := by unfold unp; simp
theorem sp_unpack_t1 {A : Around} {g : Heap} {s : Shared} {p : Addr} {b : Array UInt8} {t : Tok} {Q : Value → Shared → Prop} {E : Value → Shared → Prop} (st : St C (Mine.hd.K C.w.params) g s) (hR : Room A 10) (hp : RingAt g p)
    (hb : b.size ≤ 10000) (h8 : ((b.size : Int) * 10).fmod 8 = 0)
    (h : ∀ y g' s', Gr C g s g' s' → PolyAt g' y p (unp b 10) → Q (.ref y) s') : wpAny C.M A (call (.ref 349) [.ref p, .bytes b t]) Q E s := by
  have hp0 := hp
  obtain ⟨t1, t2, v1, v2, v3, v4, hp⟩ := hp
  (refine' call_fn (binds := [("self", .ref p), ("input_bytes", .bytes b t)]) ?st ?ho ?hcd ?hroom ?hb ?hk ?hck ?_ ?h1 ?h2 ?h3)
  (case st => first | with_reducible assumption | exact (Fn.st (by with_reducible assumption)).at rfl); (case ho => k_is); (case hcd => k_is)
  (case hroom => exact Room.depth (by assumption)); (case hb => first | exact BindsTo.of_eq rfl | exact binds_K (St.kin' (by assumption)) rfl (by k_is) rfl rfl rfl)
  (case hk => exact rfl); (case hck => exact rfl); (case h1 => exact rfl); (case h2 => exact rfl); (case h3 => exact rfl)
  intro L1 s1 hk1 f
  have hR' := fun env => hR.deeper (n := 9) env
  walk_at "mzr"
  refine sp_rbu (Fn.st (Fn.at f (by exact rfl))) ((hR' _).less (by decide)) hp0 hb (by decide) h8 fun D vs g2 s2 gr2 hD hi => ?_
  have f2 := (Fn.at f (by exact rfl)).gr gr2
  have hp2 := hp.up gr2.up
  walk_at "mzr"
  refine ⟨(Fn.st (by with_reducible assumption)).sub, ?_⟩
  refine sp_ringcall (Fn.st (by with_reducible assumption)) ((hR' _).less (by decide)) ⟨t1, t2, v1, v2, v3, v4, hp2⟩ hD (by rw [intsAre_len hi]; exact unp_len b 10) hi fun y g3 s3 gr3 hy => ?_
  have f3 := Fn.gr (by with_reducible assumption) gr3
  dsimp only [VR]
  walk_at "mzr"
  exact h _ _ _ f3.done hy

theorem intsAre_at {vs : List Value} {ns : List Int} (h : IntsAre vs ns) {i : Nat} {v : Value} (hv : vs[i]? = some v) : ∃ n t, v = .int n t ∧ ns[i]? = some n := by
  induction h generalizing i with
  | nil => cases hv
  | cons n t _ ih =>
    cases i with
    | zero => exact ⟨n, t, by simpa using hv.symm, rfl⟩
    | succ i => exact ih (by simpa using hv)
theorem take_snoc {α : Type} {l : List α} {i : Nat} {x : α} (h : l[i]? = some x) : l.take (i + 1) = l.take i ++ [x] := by
  rw [List.take_add_one, h]; rfl

theorem sp_unpack_t0 {A : Around} {g : Heap} {s : Shared} {p : Addr} {b : Array UInt8} {t : Tok} {Q : Value → Shared → Prop} {E : Value → Shared → Prop} (st : St C (Mine.hd.K C.w.params) g s) (hR : Room A 10) (hp : RingAt g p)
    (hb : b.size ≤ 10000) (h8 : ((b.size : Int) * 13).fmod 8 = 0)
    (h : ∀ y g' s', Gr C g s g' s' → PolyAt g' y p ((unp b 13).map fun c => 1 * 2 ^ (12 : Int).toNat - c) → Q (.ref y) s') : wpAny C.M A (call (.ref 342) [.ref p, .bytes b t]) Q E s := by
  have hp0 := hp
  obtain ⟨t1, t2, v1, v2, v3, v4, hp⟩ := hp
  (refine' call_fn (binds := [("self", .ref p), ("input_bytes", .bytes b t)]) ?st ?ho ?hcd ?hroom ?hb ?hk ?hck ?_ ?h1 ?h2 ?h3)
  (case st => first | with_reducible assumption | exact (Fn.st (by with_reducible assumption)).at rfl); (case ho => k_is); (case hcd => k_is)
  (case hroom => exact Room.depth (by assumption)); (case hb => first | exact BindsTo.of_eq rfl | exact binds_K (St.kin' (by assumption)) rfl (by k_is) rfl rfl rfl)
  (case hk => exact rfl); (case hck => exact rfl); (case h1 => exact rfl); (case h2 => exact rfl); (case h3 => exact rfl)
  intro L1 s1 hk1 f
  have hR' := fun env => hR.deeper (n := 9) env
  walk_at "mzr"
  refine sp_rbu (Fn.st (Fn.at f (by exact rfl))) ((hR' _).less (by decide)) hp0 hb (by decide) h8 fun D vs g2 s2 gr2 hD hi => ?_
  replace hi : IntsAre vs (unp b 13) := hi
  have f2 := (Fn.at f (by exact rfl)).gr gr2
  have hp2 := hp.up gr2.up
  walk_at "mzr"
  refine' comp1_name (C := C) ?fv ?_
  case fv => exact (by with_reducible assumption)
  walk_at "mzr"
  refine list_itS (vs := vs) (Fn.st (by with_reducible assumption)) (hR' _).2.2 hD fun I g₂ s₂ it => ?_
  have hlen : vs.length = 256 := by rw [intsAre_len hi]; exact unp_len b 13
  refine ⟨I, g₂, vs.length, _, fun i ys _ => IntsAre ys (((unp b 13).take i).map fun c => 1 * 2 ^ (12 : Int).toNat - c), rfl, it, by rw [hlen]; decide, .nil, fun _ _ _ _ _ h => h, ?_, ?_⟩
  · intro Cc i v gk sk se ys E' hi' hP fe sube hlen' hO
    obtain ⟨n, tn, hvn, hin⟩ := intsAre_at hi hP
    subst hvn
    walk_at "mzr"
    refine O.shl_ (by decide) (by decide) ?_
    walk_at "mzr"
    refine ⟨gk, Gr.same_r (Gr.refl fe.st) (by exact rfl), ?_⟩
    show IntsAre _ (((unp b 13).take (i + 1)).map _)
    rw [take_snoc hin, List.map_append]
    exact intsAre_snoc hO
  · intro D2 ys g' s' fd subd hpl hlen' hO
    have hp3 := hp2.up subd
    have hi2 : IntsAre ys ((unp b 13).map fun c => 1 * 2 ^ (12 : Int).toNat - c) := by
      have : (unp b 13).take vs.length = unp b 13 := by rw [hlen, ← unp_len b 13, List.take_length]
      have hO' : IntsAre ys (((unp b 13).take vs.length).map _) := hO
      rwa [this] at hO'
    walk_at "mzr"
    refine ⟨(Fn.st (by with_reducible assumption)).sub, ?_⟩
    refine sp_ringcall (Fn.st (by with_reducible assumption)) ((hR' _).less (by decide)) ⟨t1, t2, v1, v2, v3, v4, hp3⟩ (PlainList.toIs hpl) (by rw [intsAre_len hi2, List.length_map]; exact unp_len b 13) hi2 fun y g3 s3 gr3 hy => ?_
    have f3 := Fn.gr (by with_reducible assumption) gr3
    dsimp only [VR]
    walk_at "mzr"
    exact h _ _ _ f3.done hy

theorem sp_unpack_s2 {A : Around} {g : Heap} {s : Shared} {p : Addr} {b : Array UInt8} {t u : Tok} {Q : Value → Shared → Prop} {E : Value → Shared → Prop} (st : St C (Mine.hd.K C.w.params) g s) (hR : Room A 10) (hp : RingAt g p)
    (hb : b.size ≤ 10000) (h8 : ((b.size : Int) * 3).fmod 8 = 0)
    (h : ∀ y g' s', Gr C g s g' s' → PolyAt g' y p ((unp b 3).map fun c => 2 - c) → Q (.ref y) s') : wpAny C.M A (call (.ref 354) [.ref p, .bytes b t, .int 2 u]) Q E s := by
  have hp0 := hp
  obtain ⟨t1, t2, v1, v2, v3, v4, hp⟩ := hp
  (refine' call_fn (binds := [("self", .ref p), ("input_bytes", .bytes b t), ("eta", .int 2 u)]) ?st ?ho ?hcd ?hroom ?hb ?hk ?hck ?_ ?h1 ?h2 ?h3)
  (case st => first | with_reducible assumption | exact (Fn.st (by with_reducible assumption)).at rfl); (case ho => k_is); (case hcd => k_is)
  (case hroom => exact Room.depth (by assumption)); (case hb => first | exact BindsTo.of_eq rfl | exact binds_K (St.kin' (by assumption)) rfl (by k_is) rfl rfl rfl)
  (case hk => exact rfl); (case hck => exact rfl); (case h1 => exact rfl); (case h2 => exact rfl); (case h3 => exact rfl)
  intro L1 s1 hk1 f
  have hR' := fun env => hR.deeper (n := 9) env
  walk_at "mzr"
  refine sp_rbu (Fn.st (Fn.at f (by exact rfl))) ((hR' _).less (by decide)) hp0 hb (by decide) h8 fun D vs g2 s2 gr2 hD hi => ?_
  replace hi : IntsAre vs (unp b 3) := hi
  have f2 := (Fn.at f (by exact rfl)).gr gr2
  have hp2 := hp.up gr2.up
  walk_at "mzr"
  refine' comp1_name (C := C) ?fv ?_
  case fv => exact (by with_reducible assumption)
  walk_at "mzr"
  refine list_itS (vs := vs) (Fn.st (by with_reducible assumption)) (hR' _).2.2 hD fun I g₂ s₂ it => ?_
  have hlen : vs.length = 256 := by rw [intsAre_len hi]; exact unp_len b 3
  refine ⟨I, g₂, vs.length, _, fun i ys _ => IntsAre ys (((unp b 3).take i).map fun c => 2 - c), rfl, it, by rw [hlen]; decide, .nil, fun _ _ _ _ _ h => h, ?_, ?_⟩
  · intro Cc i v gk sk se ys E' hi' hP fe sube hlen' hO
    obtain ⟨n, tn, hvn, hin⟩ := intsAre_at hi hP
    subst hvn
    walk_at "mzr"
    refine ⟨gk, Gr.same_r (Gr.refl fe.st) (by exact rfl), ?_⟩
    show IntsAre _ (((unp b 3).take (i + 1)).map _)
    rw [take_snoc hin, List.map_append]
    exact intsAre_snoc hO
  · intro D2 ys g' s' fd subd hpl hlen' hO
    have hp3 := hp2.up subd
    have hi2 : IntsAre ys ((unp b 3).map fun c => 2 - c) := by
      have : (unp b 3).take vs.length = unp b 3 := by rw [hlen, ← unp_len b 3, List.take_length]
      have hO' : IntsAre ys (((unp b 3).take vs.length).map _) := hO
      rwa [this] at hO'
    walk_at "mzr"
    refine ⟨(Fn.st (by with_reducible assumption)).sub, ?_⟩
    refine sp_ringcall (Fn.st (by with_reducible assumption)) ((hR' _).less (by decide)) ⟨t1, t2, v1, v2, v3, v4, hp3⟩ (PlainList.toIs hpl) (by rw [intsAre_len hi2, List.length_map]; exact unp_len b 3) hi2 fun y g3 s3 gr3 hy => ?_
    have f3 := Fn.gr (by with_reducible assumption) gr3
    dsimp only [VR]
    walk_at "mzr"
    exact h _ _ _ f3.done hy

theorem sp_unpack_s4 {A : Around} {g : Heap} {s : Shared} {p : Addr} {b : Array UInt8} {t u : Tok} {Q : Value → Shared → Prop} {E : Value → Shared → Prop} (st : St C (Mine.hd.K C.w.params) g s) (hR : Room A 10) (hp : RingAt g p)
    (hb : b.size ≤ 10000) (h8 : ((b.size : Int) * 4).fmod 8 = 0)
    (h : ∀ y g' s', Gr C g s g' s' → PolyAt g' y p ((unp b 4).map fun c => 4 - c) → Q (.ref y) s') : wpAny C.M A (call (.ref 354) [.ref p, .bytes b t, .int 4 u]) Q E s := by
  have hp0 := hp
  obtain ⟨t1, t2, v1, v2, v3, v4, hp⟩ := hp
  (refine' call_fn (binds := [("self", .ref p), ("input_bytes", .bytes b t), ("eta", .int 4 u)]) ?st ?ho ?hcd ?hroom ?hb ?hk ?hck ?_ ?h1 ?h2 ?h3)
  (case st => first | with_reducible assumption | exact (Fn.st (by with_reducible assumption)).at rfl); (case ho => k_is); (case hcd => k_is)
  (case hroom => exact Room.depth (by assumption)); (case hb => first | exact BindsTo.of_eq rfl | exact binds_K (St.kin' (by assumption)) rfl (by k_is) rfl rfl rfl)
  (case hk => exact rfl); (case hck => exact rfl); (case h1 => exact rfl); (case h2 => exact rfl); (case h3 => exact rfl)
  intro L1 s1 hk1 f
  have hR' := fun env => hR.deeper (n := 9) env
  walk_at "mzr"
  refine sp_rbu (Fn.st (Fn.at f (by exact rfl))) ((hR' _).less (by decide)) hp0 hb (by decide) h8 fun D vs g2 s2 gr2 hD hi => ?_
  replace hi : IntsAre vs (unp b 4) := hi
  have f2 := (Fn.at f (by exact rfl)).gr gr2
  have hp2 := hp.up gr2.up
  walk_at "mzr"
  refine' comp1_name (C := C) ?fv ?_
  case fv => exact (by with_reducible assumption)
  walk_at "mzr"
  refine list_itS (vs := vs) (Fn.st (by with_reducible assumption)) (hR' _).2.2 hD fun I g₂ s₂ it => ?_
  have hlen : vs.length = 256 := by rw [intsAre_len hi]; exact unp_len b 4
  refine ⟨I, g₂, vs.length, _, fun i ys _ => IntsAre ys (((unp b 4).take i).map fun c => 4 - c), rfl, it, by rw [hlen]; decide, .nil, fun _ _ _ _ _ h => h, ?_, ?_⟩
  · intro Cc i v gk sk se ys E' hi' hP fe sube hlen' hO
    obtain ⟨n, tn, hvn, hin⟩ := intsAre_at hi hP
    subst hvn
    walk_at "mzr"
    refine ⟨gk, Gr.same_r (Gr.refl fe.st) (by exact rfl), ?_⟩
    show IntsAre _ (((unp b 4).take (i + 1)).map _)
    rw [take_snoc hin, List.map_append]
    exact intsAre_snoc hO
  · intro D2 ys g' s' fd subd hpl hlen' hO
    have hp3 := hp2.up subd
    have hi2 : IntsAre ys ((unp b 4).map fun c => 4 - c) := by
      have : (unp b 4).take vs.length = unp b 4 := by rw [hlen, ← unp_len b 4, List.take_length]
      have hO' : IntsAre ys (((unp b 4).take vs.length).map _) := hO
      rwa [this] at hO'
    walk_at "mzr"
    refine ⟨(Fn.st (by with_reducible assumption)).sub, ?_⟩
    refine sp_ringcall (Fn.st (by with_reducible assumption)) ((hR' _).less (by decide)) ⟨t1, t2, v1, v2, v3, v4, hp3⟩ (PlainList.toIs hpl) (by rw [intsAre_len hi2, List.length_map]; exact unp_len b 4) hi2 fun y g3 s3 gr3 hy => ?_
    have f3 := Fn.gr (by with_reducible assumption) gr3
    dsimp only [VR]
    walk_at "mzr"
    exact h _ _ _ f3.done hy

theorem sp_unpack_w6 {A : Around} {g : Heap} {s : Shared} {p : Addr} {b : Array UInt8} {t u : Tok} {Q : Value → Shared → Prop} {E : Value → Shared → Prop} (st : St C (Mine.hd.K C.w.params) g s) (hR : Room A 10) (hp : RingAt g p)
    (hb : b.size ≤ 10000) (h8 : ((b.size : Int) * 6).fmod 8 = 0)
    (h : ∀ y g' s', Gr C g s g' s' → PolyAt g' y p ((unp b 6)) → Q (.ref y) s') : wpAny C.M A (call (.ref 361) [.ref p, .bytes b t, .int 95232 u]) Q E s := by
  have hp0 := hp
  obtain ⟨t1, t2, v1, v2, v3, v4, hp⟩ := hp
  (refine' call_fn (binds := [("self", .ref p), ("input_bytes", .bytes b t), ("gamma_2", .int 95232 u)]) ?st ?ho ?hcd ?hroom ?hb ?hk ?hck ?_ ?h1 ?h2 ?h3)
  (case st => first | with_reducible assumption | exact (Fn.st (by with_reducible assumption)).at rfl); (case ho => k_is); (case hcd => k_is)
  (case hroom => exact Room.depth (by assumption)); (case hb => first | exact BindsTo.of_eq rfl | exact binds_K (St.kin' (by assumption)) rfl (by k_is) rfl rfl rfl)
  (case hk => exact rfl); (case hck => exact rfl); (case h1 => exact rfl); (case h2 => exact rfl); (case h3 => exact rfl)
  intro L1 s1 hk1 f
  have hR' := fun env => hR.deeper (n := 9) env
  walk_at "mzr"
  refine sp_rbu (Fn.st (Fn.at f (by exact rfl))) ((hR' _).less (by decide)) hp0 hb (by decide) h8 fun D vs g2 s2 gr2 hD hi => ?_
  replace hi : IntsAre vs (unp b 6) := hi
  have f2 := (Fn.at f (by exact rfl)).gr gr2
  have hp2 := hp.up gr2.up
  walk_at "mzr"
  refine ⟨(Fn.st (by with_reducible assumption)).sub, ?_⟩
  refine sp_ringcall (Fn.st (by with_reducible assumption)) ((hR' _).less (by decide)) ⟨t1, t2, v1, v2, v3, v4, hp2⟩ hD (by rw [intsAre_len hi]; exact unp_len b 6) hi fun y g3 s3 gr3 hy => ?_
  have f3 := Fn.gr (by with_reducible assumption) gr3
  dsimp only [VR]
  walk_at "mzr"
  exact h _ _ _ f3.done hy

theorem sp_unpack_w4 {A : Around} {g : Heap} {s : Shared} {p : Addr} {b : Array UInt8} {t u : Tok} {Q : Value → Shared → Prop} {E : Value → Shared → Prop} (st : St C (Mine.hd.K C.w.params) g s) (hR : Room A 10) (hp : RingAt g p)
    (hb : b.size ≤ 10000) (h8 : ((b.size : Int) * 4).fmod 8 = 0)
    (h : ∀ y g' s', Gr C g s g' s' → PolyAt g' y p ((unp b 4)) → Q (.ref y) s') : wpAny C.M A (call (.ref 361) [.ref p, .bytes b t, .int 261888 u]) Q E s := by
  have hp0 := hp
  obtain ⟨t1, t2, v1, v2, v3, v4, hp⟩ := hp
  (refine' call_fn (binds := [("self", .ref p), ("input_bytes", .bytes b t), ("gamma_2", .int 261888 u)]) ?st ?ho ?hcd ?hroom ?hb ?hk ?hck ?_ ?h1 ?h2 ?h3)
  (case st => first | with_reducible assumption | exact (Fn.st (by with_reducible assumption)).at rfl); (case ho => k_is); (case hcd => k_is)
  (case hroom => exact Room.depth (by assumption)); (case hb => first | exact BindsTo.of_eq rfl | exact binds_K (St.kin' (by assumption)) rfl (by k_is) rfl rfl rfl)
  (case hk => exact rfl); (case hck => exact rfl); (case h1 => exact rfl); (case h2 => exact rfl); (case h3 => exact rfl)
  intro L1 s1 hk1 f
  have hR' := fun env => hR.deeper (n := 9) env
  walk_at "mzr"
  refine sp_rbu (Fn.st (Fn.at f (by exact rfl))) ((hR' _).less (by decide)) hp0 hb (by decide) h8 fun D vs g2 s2 gr2 hD hi => ?_
  replace hi : IntsAre vs (unp b 4) := hi
  have f2 := (Fn.at f (by exact rfl)).gr gr2
  have hp2 := hp.up gr2.up
  walk_at "mzr"
  refine ⟨(Fn.st (by with_reducible assumption)).sub, ?_⟩
  refine sp_ringcall (Fn.st (by with_reducible assumption)) ((hR' _).less (by decide)) ⟨t1, t2, v1, v2, v3, v4, hp2⟩ hD (by rw [intsAre_len hi]; exact unp_len b 4) hi fun y g3 s3 gr3 hy => ?_
  have f3 := Fn.gr (by with_reducible assumption) gr3
  dsimp only [VR]
  walk_at "mzr"
  exact h _ _ _ f3.done hy

theorem sp_unpack_z17 {A : Around} {g : Heap} {s : Shared} {p : Addr} {b : Array UInt8} {t u : Tok} {Q : Value → Shared → Prop} {E : Value → Shared → Prop} (st : St C (Mine.hd.K C.w.params) g s) (hR : Room A 10) (hp : RingAt g p)
    (hb : b.size ≤ 10000) (h8 : ((b.size : Int) * 18).fmod 8 = 0)
    (h : ∀ y g' s', Gr C g s g' s' → PolyAt g' y p ((unp b 18).map fun c => 131072 - c) → Q (.ref y) s') : wpAny C.M A (call (.ref 366) [.ref p, .bytes b t, .int 131072 u]) Q E s := by
  have hp0 := hp
  obtain ⟨t1, t2, v1, v2, v3, v4, hp⟩ := hp
  (refine' call_fn (binds := [("self", .ref p), ("input_bytes", .bytes b t), ("gamma_1", .int 131072 u)]) ?st ?ho ?hcd ?hroom ?hb ?hk ?hck ?_ ?h1 ?h2 ?h3)
  (case st => first | with_reducible assumption | exact (Fn.st (by with_reducible assumption)).at rfl); (case ho => k_is); (case hcd => k_is)
  (case hroom => exact Room.depth (by assumption)); (case hb => first | exact BindsTo.of_eq rfl | exact binds_K (St.kin' (by assumption)) rfl (by k_is) rfl rfl rfl)
  (case hk => exact rfl); (case hck => exact rfl); (case h1 => exact rfl); (case h2 => exact rfl); (case h3 => exact rfl)
  intro L1 s1 hk1 f
  have hR' := fun env => hR.deeper (n := 9) env
  walk_at "mzr"
  refine O.shl_ (by decide) (by decide) ?_
  walk_at "mzr"
  refine sp_rbu (Fn.st (Fn.at f (by exact rfl))) ((hR' _).less (by decide)) hp0 hb (by decide) h8 fun D vs g2 s2 gr2 hD hi => ?_
  replace hi : IntsAre vs (unp b 18) := hi
  have f2 := (Fn.at f (by exact rfl)).gr gr2
  have hp2 := hp.up gr2.up
  walk_at "mzr"
  refine' comp1_name (C := C) ?fv ?_
  case fv => exact (by with_reducible assumption)
  walk_at "mzr"
  refine list_itS (vs := vs) (Fn.st (by with_reducible assumption)) (hR' _).2.2 hD fun I g₂ s₂ it => ?_
  have hlen : vs.length = 256 := by rw [intsAre_len hi]; exact unp_len b 18
  refine ⟨I, g₂, vs.length, _, fun i ys _ => IntsAre ys (((unp b 18).take i).map fun c => 131072 - c), rfl, it, by rw [hlen]; decide, .nil, fun _ _ _ _ _ h => h, ?_, ?_⟩
  · intro Cc i v gk sk se ys E' hi' hP fe sube hlen' hO
    obtain ⟨n, tn, hvn, hin⟩ := intsAre_at hi hP
    subst hvn
    walk_at "mzr"
    refine ⟨gk, Gr.same_r (Gr.refl fe.st) (by exact rfl), ?_⟩
    show IntsAre _ (((unp b 18).take (i + 1)).map _)
    rw [take_snoc hin, List.map_append]
    exact intsAre_snoc hO
  · intro D2 ys g' s' fd subd hpl hlen' hO
    have hp3 := hp2.up subd
    have hi2 : IntsAre ys ((unp b 18).map fun c => 131072 - c) := by
      have : (unp b 18).take vs.length = unp b 18 := by rw [hlen, ← unp_len b 18, List.take_length]
      have hO' : IntsAre ys (((unp b 18).take vs.length).map _) := hO
      rwa [this] at hO'
    walk_at "mzr"
    refine ⟨(Fn.st (by with_reducible assumption)).sub, ?_⟩
    refine sp_ringcall (Fn.st (by with_reducible assumption)) ((hR' _).less (by decide)) ⟨t1, t2, v1, v2, v3, v4, hp3⟩ (PlainList.toIs hpl) (by rw [intsAre_len hi2, List.length_map]; exact unp_len b 18) hi2 fun y g3 s3 gr3 hy => ?_
    have f3 := Fn.gr (by with_reducible assumption) gr3
    dsimp only [VR]
    walk_at "mzr"
    exact h _ _ _ f3.done hy

theorem sp_unpack_z19 {A : Around} {g : Heap} {s : Shared} {p : Addr} {b : Array UInt8} {t u : Tok} {Q : Value → Shared → Prop} {E : Value → Shared → Prop} (st : St C (Mine.hd.K C.w.params) g s) (hR : Room A 10) (hp : RingAt g p)
    (hb : b.size ≤ 10000) (h8 : ((b.size : Int) * 20).fmod 8 = 0)
    (h : ∀ y g' s', Gr C g s g' s' → PolyAt g' y p ((unp b 20).map fun c => 524288 - c) → Q (.ref y) s') : wpAny C.M A (call (.ref 366) [.ref p, .bytes b t, .int 524288 u]) Q E s := by
  have hp0 := hp
  obtain ⟨t1, t2, v1, v2, v3, v4, hp⟩ := hp
  (refine' call_fn (binds := [("self", .ref p), ("input_bytes", .bytes b t), ("gamma_1", .int 524288 u)]) ?st ?ho ?hcd ?hroom ?hb ?hk ?hck ?_ ?h1 ?h2 ?h3)
  (case st => first | with_reducible assumption | exact (Fn.st (by with_reducible assumption)).at rfl); (case ho => k_is); (case hcd => k_is)
  (case hroom => exact Room.depth (by assumption)); (case hb => first | exact BindsTo.of_eq rfl | exact binds_K (St.kin' (by assumption)) rfl (by k_is) rfl rfl rfl)
  (case hk => exact rfl); (case hck => exact rfl); (case h1 => exact rfl); (case h2 => exact rfl); (case h3 => exact rfl)
  intro L1 s1 hk1 f
  have hR' := fun env => hR.deeper (n := 9) env
  walk_at "mzr"
  refine O.shl_ (by decide) (by decide) ?_
  walk_at "mzr"
  refine O.shl_ (by decide) (by decide) ?_
  walk_at "mzr"
  refine sp_rbu (Fn.st (Fn.at f (by exact rfl))) ((hR' _).less (by decide)) hp0 hb (by decide) h8 fun D vs g2 s2 gr2 hD hi => ?_
  replace hi : IntsAre vs (unp b 20) := hi
  have f2 := (Fn.at f (by exact rfl)).gr gr2
  have hp2 := hp.up gr2.up
  walk_at "mzr"
  refine' comp1_name (C := C) ?fv ?_
  case fv => exact (by with_reducible assumption)
  walk_at "mzr"
  refine list_itS (vs := vs) (Fn.st (by with_reducible assumption)) (hR' _).2.2 hD fun I g₂ s₂ it => ?_
  have hlen : vs.length = 256 := by rw [intsAre_len hi]; exact unp_len b 20
  refine ⟨I, g₂, vs.length, _, fun i ys _ => IntsAre ys (((unp b 20).take i).map fun c => 524288 - c), rfl, it, by rw [hlen]; decide, .nil, fun _ _ _ _ _ h => h, ?_, ?_⟩
  · intro Cc i v gk sk se ys E' hi' hP fe sube hlen' hO
    obtain ⟨n, tn, hvn, hin⟩ := intsAre_at hi hP
    subst hvn
    walk_at "mzr"
    refine ⟨gk, Gr.same_r (Gr.refl fe.st) (by exact rfl), ?_⟩
    show IntsAre _ (((unp b 20).take (i + 1)).map _)
    rw [take_snoc hin, List.map_append]
    exact intsAre_snoc hO
  · intro D2 ys g' s' fd subd hpl hlen' hO
    have hp3 := hp2.up subd
    have hi2 : IntsAre ys ((unp b 20).map fun c => 524288 - c) := by
      have : (unp b 20).take vs.length = unp b 20 := by rw [hlen, ← unp_len b 20, List.take_length]
      have hO' : IntsAre ys (((unp b 20).take vs.length).map _) := hO
      rwa [this] at hO'
    walk_at "mzr"
    refine ⟨(Fn.st (by with_reducible assumption)).sub, ?_⟩
    refine sp_ringcall (Fn.st (by with_reducible assumption)) ((hR' _).less (by decide)) ⟨t1, t2, v1, v2, v3, v4, hp3⟩ (PlainList.toIs hpl) (by rw [intsAre_len hi2, List.length_map]; exact unp_len b 20) hi2 fun y g3 s3 gr3 hy => ?_
    have f3 := Fn.gr (by with_reducible assumption) gr3
    dsimp only [VR]
    walk_at "mzr"
    exact h _ _ _ f3.done hy
theorem rs_up {n p : Nat} (hp : 0 < p) : Builtin.Range.rangeSize 0 (n : Int) (p : Int) = ((n + p - 1) / p : Nat) := by
  unfold Builtin.Range.rangeSize
  rw [if_pos (by omega)]
  by_cases h : n = 0
  · subst h
    rw [if_neg (by omega)]
    have : (0 + p - 1) / p = 0 := Nat.div_eq_of_lt (by omega)
    rw [this]; rfl
  · rw [if_pos (by omega)]
    have e : n + p - 1 = (n - 1) + p := by omega
    rw [e, Nat.add_div_right _ hp]
    have : ((n : Int) - 0 - 1) = ((n - 1 : Nat) : Int) := by omega
    rw [this]; push_cast; rfl
theorem small_of {a b c : Int} (ha : 0 ≤ a ∧ a < 2 ^ 40) (hb : 0 ≤ b ∧ b < 2 ^ 40) (hc : 0 < c ∧ c < 2 ^ 40) : Builtin.Range.small a b c = true := by
  have hn : 0 ≤ Builtin.Range.rangeSize a b c ∧ Builtin.Range.rangeSize a b c ≤ 2 ^ 40 := by
    unfold Builtin.Range.rangeSize
    rw [if_pos (by omega)]
    split
    · have h1 : 0 ≤ (b - a - 1) / c := Int.ediv_nonneg (by omega) (by omega)
      have h2 : (b - a - 1) / c ≤ b - a - 1 := Int.ediv_le_self _ (by omega)
      omega
    · omega
  generalize hN : Builtin.Range.rangeSize a b c = N at hn
  have fits : ∀ i : Int, -(2 ^ 63) ≤ i → i < 2 ^ 63 → Builtin.Range.rangeFitsLong i = true := fun i h1 h2 => by unfold Builtin.Range.rangeFitsLong; rw [decide_eq_true h1, decide_eq_true h2]; rfl
  unfold Builtin.Range.small
  rw [hN, fits a (by omega) (by omega), fits b (by omega) (by omega), fits c (by omega) (by omega), fits N (by omega) (by omega), if_pos (by omega), fits _ (by omega) (by omega), Bool.or_true]
  rfl
theorem cut_step {os : List Int} {p i : Nat} : ((os.drop (clipAt os.length ((0 : Int) + (i : Int) * (p : Int)))).take (clipAt os.length ((0 : Int) + (i : Int) * (p : Int) + (p : Int)) - clipAt os.length ((0 : Int) + (i : Int) * (p : Int)))) = (os.drop (p * i)).take p := by
  have e1 : ((0 : Int) + (i : Int) * (p : Int)) = ((p * i : Nat) : Int) := by push_cast; rw [Int.mul_comm]; omega
  have e2 : ((0 : Int) + (i : Int) * (p : Int) + (p : Int)) = ((p * i + p : Nat) : Int) := by rw [e1]; push_cast; rfl
  rw [e2, e1, clipAt_nat, clipAt_nat]
  by_cases h : p * i ≤ os.length
  · rw [Nat.min_eq_left h]
    by_cases h2 : p * i + p ≤ os.length
    · rw [Nat.min_eq_left h2]; congr 1; omega
    · rw [Nat.min_eq_right (by omega)]
      rw [List.take_of_length_le (by simp), List.take_of_length_le (by simp; omega)]
  · rw [List.drop_eq_nil_of_le (by rw [Nat.min_eq_right (by omega)]; exact Nat.le_refl _), List.drop_eq_nil_of_le (by omega)]; simp

/-- values that are octets -/
def BytesAre (vs : List Value) (cs : List (List Int)) : Prop := vs.length = cs.length ∧ ∀ (i : Nat) (v : Value), vs[i]? = some v → ∃ b t, v = Value.bytes b t ∧ cs[i]? = some (KBw.bInts b)
theorem bytesAre_snoc {vs : List Value} {cs : List (List Int)} {b : Array UInt8} {t : Tok} (h : BytesAre vs cs) : BytesAre (vs ++ [.bytes b t]) (cs ++ [KBw.bInts b]) := by
  refine ⟨by simp [h.1], fun i v hv => ?_⟩
  by_cases hi : i < vs.length
  · rw [List.getElem?_append_left hi] at hv
    obtain ⟨b', t', e, hc⟩ := h.2 i v hv
    exact ⟨b', t', e, by rw [List.getElem?_append_left (by rw [← h.1]; exact hi)]; exact hc⟩
  · rw [List.getElem?_append_right (by omega)] at hv
    have : i - vs.length = 0 := by
      cases q : i - vs.length with
      | zero => rfl
      | succ n => rw [q] at hv; cases hv
    rw [this] at hv
    cases hv
    exact ⟨b, t, rfl, by rw [List.getElem?_append_right (by rw [← h.1]; omega), ← h.1, this]; rfl⟩
/-- the octets in cuts of p -/
def cutsOf (os : List Int) (p N : Nat) : List (List Int) := (List.range N).map fun i => (os.drop (p * i)).take p
/-- module._bit_unpack -/
theorem sp_mbu {A : Around} {g : Heap} {s : Shared} {m : Addr} {b : Array UInt8} {p N : Nat} {t u : Tok} {Q : Value → Shared → Prop} {E : Value → Shared → Prop} (st : St C (Mine.hd.K C.w.params) g s) (hR : Room A 4)
    (hb : b.size ≤ 10000) (hp : 0 < p ∧ p < 10000) (hN : N = (b.size + p - 1) / p)
    (h : ∀ D vs g' s', Gr C g s g' s' → g'.IsList D vs.toArray → BytesAre vs (cutsOf (KBw.bInts b) p N) → Q (.ref D) s') : wpAny C.M A (call (.ref 933) [.ref m, .bytes b t, .int p u]) Q E s := by
  (refine' call_fn (binds := [("self", .ref m), ("input_bytes", .bytes b t), ("packed_len", .int p u)]) ?st ?ho ?hcd ?hroom ?hb ?hk ?hck ?_ ?h1 ?h2 ?h3)
  (case st => first | with_reducible assumption | exact (Fn.st (by with_reducible assumption)).at rfl); (case ho => k_is); (case hcd => k_is)
  (case hroom => exact Room.depth (by assumption)); (case hb => first | exact BindsTo.of_eq rfl | exact binds_K (St.kin' (by assumption)) rfl (by k_is) rfl rfl rfl)
  (case hk => exact rfl); (case hck => exact rfl); (case h1 => exact rfl); (case h2 => exact rfl); (case h3 => exact rfl)
  intro L1 s1 hk1 f
  have hR' := fun env => hR.deeper (n := 3) env
  have hRS : Builtin.Range.rangeSize 0 (b.size : Int) (p : Int) = N := by rw [hN]; exact rs_up hp.1
  walk_at "mzr"
  refine' comp1 (C := C) ?fv ?_
  case fv => exact Fn.view (Fn.at f (by exact rfl))
  walk_at "mzr"
  refine len_bytes (by omega) ?_
  walk_at "mzr"
  refine rangeGo3 (C := C) (k := N) f.st (by exact rfl) (hR' _).2.2 (by omega) hRS ?_ fun I g₂ s₂ it => ?_
  · exact small_of (by omega) (by omega) (by omega)
  refine ⟨I, g₂, N, _, fun i ys _ => BytesAre ys (cutsOf (KBw.bInts b) p i), rfl, it.same_l (by exact rfl), ?_, ⟨rfl, fun i v hv => by cases hv⟩, fun _ _ _ _ _ h => h, ?_, ?_⟩
  · rw [sizeLine_eq, hN]
    have : (b.size + p - 1) / p ≤ b.size + p - 1 := Nat.div_le_self _ _
    omega
  · intro Cc i v gk sk se ys E' hi hP fe sube hlen hO
    obtain ⟨ti, rfl⟩ := hP
    walk_at "mzr"
    refine' tailBytes fe ?hS ?hl ?hu ?hz ?_ ?hs ?ht
    case hS => exact rfl
    case hl => constructor
    case hu => constructor
    case hz => rw [sizeLine_eq]; omega
    case hs => with_unfolding_all rfl
    case ht => intro _; with_unfolding_all rfl
    intro b' s3 t3 hb3 f3 gr3
    refine ⟨gk, Gr.same_l gr3 (by exact rfl), ?_⟩
    have e : cutsOf (KBw.bInts b) p (i + 1) = cutsOf (KBw.bInts b) p i ++ [KBw.bInts b'] := by
      unfold cutsOf
      rw [← range_snoc, hb3, ← KBw.ints_length b]
      have cs := cut_step (os := KBw.bInts b) (p := p) (i := i)
      congr 2
      exact cs.symm
    show BytesAre _ (cutsOf (KBw.bInts b) p (i + 1))
    rw [e]
    exact bytesAre_snoc hO
  · intro D ys g' s' gr hpl hlen hO
    have f9 := Fn.gr (Fn.at f (by exact rfl)) gr
    walk_at "mzr"
    exact h _ _ _ _ f9.done (PlainList.toIs hpl) hO

def unpL (os : List Int) (n : Int) : List Int := (List.range 256).map (unpackEl (KFB.value os.reverse) n)
/-- a vector of polynomials, told by their numbers -/
def VecOf (g : Heap) (y m p : Addr) (k : Nat) (F : Nat → List Int) : Prop := ∃ es, VecAt g y m es ∧ es.length = k ∧ ∀ (j : Nat) (e : Addr), es[j]? = some e → PolyAt g e p (F j)
def PolysAre (g : Heap) (p : Addr) (F : Nat → List Int) (i : Nat) (ys : List Value) : Prop := ∃ es : List Addr, ys = es.map Value.ref ∧ es.length = i ∧ ∀ (j : Nat) (e : Addr), es[j]? = some e → PolyAt g e p (F j)
theorem PolysAre.up {g g' : Heap} {p : Addr} {F : Nat → List Int} {i : Nat} {ys : List Value} (k : Sub g g') (h : PolysAre g p F i ys) : PolysAre g' p F i ys := let ⟨es, a, b, c⟩ := h; ⟨es, a, b, fun j e he => (c j e he).up k⟩
theorem PolysAre.snoc {g : Heap} {p e : Addr} {F : Nat → List Int} {i : Nat} {ys : List Value} (h : PolysAre g p F i ys) (he : PolyAt g e p (F i)) : PolysAre g p F (i + 1) (ys ++ [.ref e]) := by
  obtain ⟨es, rfl, hl, hc⟩ := h
  refine ⟨es ++ [e], by simp, by simp [hl], fun j e' hj => ?_⟩
  by_cases q : j < es.length
  · rw [List.getElem?_append_left q] at hj; exact hc j e' hj
  · rw [List.getElem?_append_right (by omega)] at hj
    have h0 : j - es.length = 0 := by
      cases z : j - es.length with
      | zero => rfl
      | succ n => rw [z] at hj; cases hj
    rw [h0] at hj
    cases hj
    have : j = i := by omega
    rw [this]; exact he

theorem sp_munpack_t1 {A : Around} {g : Heap} {s : Shared} {m p : Addr} {b : Array UInt8} {k : Nat} {t v u : Tok} {Q : Value → Shared → Prop} {E : Value → Shared → Prop} (hP : C.prog = PySem.Challenge.pw_bn0016_01) (st : St C (Mine.hd.K C.w.params) g s) (hR : Room A 15) (hm : ModAt g m p)
    (hk : k = 1 ∨ k = 2) (hb : b.size = 320 * k)
    (h : ∀ y g' s', Gr C g s g' s' → VecOf g' y m p k (fun j => (unpL (((KBw.bInts b).drop (320 * j)).take 320) 10)) → Q (.ref y) s') : wpAny C.M A (call (.ref 943) [.ref m, .bytes b t, .int k v]) Q E s := by
  have hm0 := hm.1
  have hb1 : b.size ≤ 2000 := by omega
  (refine' call_fn (binds := [("self", .ref m), ("input_bytes", .bytes b t), ("k", .int k v)]) ?st ?ho ?hcd ?hroom ?hb ?hk ?hck ?_ ?h1 ?h2 ?h3)
  (case st => first | with_reducible assumption | exact (Fn.st (by with_reducible assumption)).at rfl); (case ho => k_is); (case hcd => k_is)
  (case hroom => exact Room.depth (by assumption)); (case hb => first | exact BindsTo.of_eq rfl | exact binds_K (St.kin' (by assumption)) rfl (by k_is) rfl rfl rfl)
  (case hk => exact rfl); (case hck => exact rfl); (case h1 => exact rfl); (case h2 => exact rfl); (case h3 => exact rfl)
  intro L1 s1 hk1 f
  have hR' := fun env => hR.deeper (n := 14) env
  walk_at "mzr"
  refine sp_mbu (p := 320) (N := k) (Fn.st (Fn.at (by with_reducible assumption) (by exact rfl))) ((hR' _).less (by decide)) (by omega) (by decide) (by rw [hb]; omega) fun D vs g2 s2 gr2 hD hB => ?_
  have f2 := Fn.gr (Fn.at (by with_reducible assumption) (by exact rfl)) gr2
  have hm2 := hm0.up gr2.up
  have hr2 := hm.2.up gr2.up
  have hvl : vs.length = k := by rw [hB.1]; unfold cutsOf; simp
  walk_at "mzr"
  refine' comp1_name (C := C) ?fv ?_
  case fv => exact (by with_reducible assumption)
  walk_at "mzr"
  refine rangeGo1 (C := C) (k := k) (Fn.st (by with_reducible assumption)) (by exact rfl) (hR' _).2.2 rfl (small_of (by omega) (by omega) (by omega)) fun I g₂ s₂ it => ?_
  refine ⟨I, g₂, k, _, fun i ys g => PolysAre g p (fun j => (unpL (((KBw.bInts b).drop (320 * j)).take 320) 10)) i ys, rfl, it.same_l (by exact rfl), by rw [sizeLine_eq]; omega, ⟨[], rfl, rfl, fun j e he => by cases he⟩, fun _ _ _ _ k h => h.up k, ?_, ?_⟩
  · intro Cc i v gk sk se ys E' hi hP fe sube hlen hO
    obtain ⟨ti, rfl⟩ := hP
    have subk : Sub g2 gk := fun b o e => sube b o (it.gr.up b o e)
    have hm3 := hm2.up subk
    have hr3 := hr2.up subk
    have hD3 := IsList.up hD subk
    obtain ⟨t1, t2, v1, v2, v3, v4, hp3⟩ := hr3
    obtain ⟨w, hw⟩ : ∃ w, vs[i]? = some w := ⟨vs[i]'(by omega), List.getElem?_eq_getElem _⟩
    obtain ⟨bi, tb, rfl, hbi⟩ := hB.2 i w hw
    have hcut : KBw.bInts bi = ((KBw.bInts b).drop (320 * i)).take 320 := by
      unfold cutsOf at hbi
      rw [List.getElem?_map, List.getElem?_range hi] at hbi
      exact (Option.some.inj hbi).symm
    have hbs : bi.size = 320 := by
      rw [← KBw.ints_length, hcut, List.length_take, List.length_drop, KBw.ints_length, hb]
      have : 320 * i + 320 ≤ 320 * k := by
        have : i + 1 ≤ k := hi
        have := Nat.mul_le_mul_left 320 this
        omega
      omega
    walk_at "mzr"
    refine' itemF (x := .bytes bi tb) fe ?hS hD3 ?h0 ?hfit ?hx ?_ ?hs ?hg
    case hS => exact rfl
    case h0 => omega
    case hfit => omega
    case hx => rw [Int.toNat_natCast]; exact hw
    case hs => with_unfolding_all rfl
    case hg => intro _; with_unfolding_all rfl
    walk_at "mzr"
    refine sp_unpack_t1 (Fn.st (Fn.at fe (by exact rfl))) ((hR' _).less (by decide)) ⟨t1, t2, v1, v2, v3, v4, hp3⟩ (by omega) (by rw [hbs]; decide) fun y g4 s4 gr4 hy => ?_
    refine ⟨g4, Gr.same_l gr4 (by exact rfl), ?_⟩
    refine PolysAre.snoc (PolysAre.up gr4.up hO) ?_
    rw [← hcut]; exact hy
  · intro D2 ys g' s' fd subd hpl hlen hO
    obtain ⟨es, rfl, hel, hec⟩ := hO
    have hm3 := hm2.up subd
    walk_at "mzr"
    refine sp_vector hP (m := m) (es := es) (fs := []) (Fn.st (by with_reducible assumption)) ((hR' _).less (by decide)) (PlainList.toIs hpl) (by omega) fun y g4 s4 gr4 hy => ?_
    have f4 := Fn.gr (by with_reducible assumption) gr4
    walk_at "mzr"
    exact h _ _ _ f4.done ⟨es, hy, hel, fun j e he => (hec j e he).up gr4.up⟩

theorem sp_munpack_t0 {A : Around} {g : Heap} {s : Shared} {m p : Addr} {b : Array UInt8} {k : Nat} {t v u : Tok} {Q : Value → Shared → Prop} {E : Value → Shared → Prop} (hP : C.prog = PySem.Challenge.pw_bn0016_01) (st : St C (Mine.hd.K C.w.params) g s) (hR : Room A 15) (hm : ModAt g m p)
    (hk : k = 1 ∨ k = 2) (hb : b.size = 416 * k)
    (h : ∀ y g' s', Gr C g s g' s' → VecOf g' y m p k (fun j => (unpL (((KBw.bInts b).drop (416 * j)).take 416) 13).map fun c => 1 * 2 ^ (12 : Int).toNat - c) → Q (.ref y) s') : wpAny C.M A (call (.ref 938) [.ref m, .bytes b t, .int k v]) Q E s := by
  have hm0 := hm.1
  have hb1 : b.size ≤ 2000 := by omega
  (refine' call_fn (binds := [("self", .ref m), ("input_bytes", .bytes b t), ("k", .int k v)]) ?st ?ho ?hcd ?hroom ?hb ?hk ?hck ?_ ?h1 ?h2 ?h3)
  (case st => first | with_reducible assumption | exact (Fn.st (by with_reducible assumption)).at rfl); (case ho => k_is); (case hcd => k_is)
  (case hroom => exact Room.depth (by assumption)); (case hb => first | exact BindsTo.of_eq rfl | exact binds_K (St.kin' (by assumption)) rfl (by k_is) rfl rfl rfl)
  (case hk => exact rfl); (case hck => exact rfl); (case h1 => exact rfl); (case h2 => exact rfl); (case h3 => exact rfl)
  intro L1 s1 hk1 f
  have hR' := fun env => hR.deeper (n := 14) env
  walk_at "mzr"
  refine sp_mbu (p := 416) (N := k) (Fn.st (Fn.at (by with_reducible assumption) (by exact rfl))) ((hR' _).less (by decide)) (by omega) (by decide) (by rw [hb]; omega) fun D vs g2 s2 gr2 hD hB => ?_
  have f2 := Fn.gr (Fn.at (by with_reducible assumption) (by exact rfl)) gr2
  have hm2 := hm0.up gr2.up
  have hr2 := hm.2.up gr2.up
  have hvl : vs.length = k := by rw [hB.1]; unfold cutsOf; simp
  walk_at "mzr"
  refine' comp1_name (C := C) ?fv ?_
  case fv => exact (by with_reducible assumption)
  walk_at "mzr"
  refine rangeGo1 (C := C) (k := k) (Fn.st (by with_reducible assumption)) (by exact rfl) (hR' _).2.2 rfl (small_of (by omega) (by omega) (by omega)) fun I g₂ s₂ it => ?_
  refine ⟨I, g₂, k, _, fun i ys g => PolysAre g p (fun j => (unpL (((KBw.bInts b).drop (416 * j)).take 416) 13).map fun c => 1 * 2 ^ (12 : Int).toNat - c) i ys, rfl, it.same_l (by exact rfl), by rw [sizeLine_eq]; omega, ⟨[], rfl, rfl, fun j e he => by cases he⟩, fun _ _ _ _ k h => h.up k, ?_, ?_⟩
  · intro Cc i v gk sk se ys E' hi hP fe sube hlen hO
    obtain ⟨ti, rfl⟩ := hP
    have subk : Sub g2 gk := fun b o e => sube b o (it.gr.up b o e)
    have hm3 := hm2.up subk
    have hr3 := hr2.up subk
    have hD3 := IsList.up hD subk
    obtain ⟨t1, t2, v1, v2, v3, v4, hp3⟩ := hr3
    obtain ⟨w, hw⟩ : ∃ w, vs[i]? = some w := ⟨vs[i]'(by omega), List.getElem?_eq_getElem _⟩
    obtain ⟨bi, tb, rfl, hbi⟩ := hB.2 i w hw
    have hcut : KBw.bInts bi = ((KBw.bInts b).drop (416 * i)).take 416 := by
      unfold cutsOf at hbi
      rw [List.getElem?_map, List.getElem?_range hi] at hbi
      exact (Option.some.inj hbi).symm
    have hbs : bi.size = 416 := by
      rw [← KBw.ints_length, hcut, List.length_take, List.length_drop, KBw.ints_length, hb]
      have : 416 * i + 416 ≤ 416 * k := by
        have : i + 1 ≤ k := hi
        have := Nat.mul_le_mul_left 416 this
        omega
      omega
    walk_at "mzr"
    refine' itemF (x := .bytes bi tb) fe ?hS hD3 ?h0 ?hfit ?hx ?_ ?hs ?hg
    case hS => exact rfl
    case h0 => omega
    case hfit => omega
    case hx => rw [Int.toNat_natCast]; exact hw
    case hs => with_unfolding_all rfl
    case hg => intro _; with_unfolding_all rfl
    walk_at "mzr"
    refine sp_unpack_t0 (Fn.st (Fn.at fe (by exact rfl))) ((hR' _).less (by decide)) ⟨t1, t2, v1, v2, v3, v4, hp3⟩ (by omega) (by rw [hbs]; decide) fun y g4 s4 gr4 hy => ?_
    refine ⟨g4, Gr.same_l gr4 (by exact rfl), ?_⟩
    refine PolysAre.snoc (PolysAre.up gr4.up hO) ?_
    rw [← hcut]; exact hy
  · intro D2 ys g' s' fd subd hpl hlen hO
    obtain ⟨es, rfl, hel, hec⟩ := hO
    have hm3 := hm2.up subd
    walk_at "mzr"
    refine sp_vector hP (m := m) (es := es) (fs := []) (Fn.st (by with_reducible assumption)) ((hR' _).less (by decide)) (PlainList.toIs hpl) (by omega) fun y g4 s4 gr4 hy => ?_
    have f4 := Fn.gr (by with_reducible assumption) gr4
    walk_at "mzr"
    exact h _ _ _ f4.done ⟨es, hy, hel, fun j e he => (hec j e he).up gr4.up⟩

theorem sp_munpack_s2 {A : Around} {g : Heap} {s : Shared} {m p : Addr} {b : Array UInt8} {k : Nat} {t v u : Tok} {Q : Value → Shared → Prop} {E : Value → Shared → Prop} (hP : C.prog = PySem.Challenge.pw_bn0016_01) (st : St C (Mine.hd.K C.w.params) g s) (hR : Room A 15) (hm : ModAt g m p)
    (hk : k = 1 ∨ k = 2) (hb : b.size = 96 * k)
    (h : ∀ y g' s', Gr C g s g' s' → VecOf g' y m p k (fun j => (unpL (((KBw.bInts b).drop (96 * j)).take 96) 3).map fun c => 2 - c) → Q (.ref y) s') : wpAny C.M A (call (.ref 948) [.ref m, .bytes b t, .int k v, .int 2 u]) Q E s := by
  have hm0 := hm.1
  have hb1 : b.size ≤ 2000 := by omega
  (refine' call_fn (binds := [("self", .ref m), ("input_bytes", .bytes b t), ("k", .int k v), ("eta", .int 2 u)]) ?st ?ho ?hcd ?hroom ?hb ?hk ?hck ?_ ?h1 ?h2 ?h3)
  (case st => first | with_reducible assumption | exact (Fn.st (by with_reducible assumption)).at rfl); (case ho => k_is); (case hcd => k_is)
  (case hroom => exact Room.depth (by assumption)); (case hb => first | exact BindsTo.of_eq rfl | exact binds_K (St.kin' (by assumption)) rfl (by k_is) rfl rfl rfl)
  (case hk => exact rfl); (case hck => exact rfl); (case h1 => exact rfl); (case h2 => exact rfl); (case h3 => exact rfl)
  intro L1 s1 hk1 f
  have hR' := fun env => hR.deeper (n := 14) env
  walk_at "mzr"
  refine sp_mbu (p := 96) (N := k) (Fn.st (Fn.at (by with_reducible assumption) (by exact rfl))) ((hR' _).less (by decide)) (by omega) (by decide) (by rw [hb]; omega) fun D vs g2 s2 gr2 hD hB => ?_
  have f2 := Fn.gr (Fn.at (by with_reducible assumption) (by exact rfl)) gr2
  have hm2 := hm0.up gr2.up
  have hr2 := hm.2.up gr2.up
  have hvl : vs.length = k := by rw [hB.1]; unfold cutsOf; simp
  walk_at "mzr"
  refine' comp1_name (C := C) ?fv ?_
  case fv => exact (by with_reducible assumption)
  walk_at "mzr"
  refine rangeGo1 (C := C) (k := k) (Fn.st (by with_reducible assumption)) (by exact rfl) (hR' _).2.2 rfl (small_of (by omega) (by omega) (by omega)) fun I g₂ s₂ it => ?_
  refine ⟨I, g₂, k, _, fun i ys g => PolysAre g p (fun j => (unpL (((KBw.bInts b).drop (96 * j)).take 96) 3).map fun c => 2 - c) i ys, rfl, it.same_l (by exact rfl), by rw [sizeLine_eq]; omega, ⟨[], rfl, rfl, fun j e he => by cases he⟩, fun _ _ _ _ k h => h.up k, ?_, ?_⟩
  · intro Cc i v gk sk se ys E' hi hP fe sube hlen hO
    obtain ⟨ti, rfl⟩ := hP
    have subk : Sub g2 gk := fun b o e => sube b o (it.gr.up b o e)
    have hm3 := hm2.up subk
    have hr3 := hr2.up subk
    have hD3 := IsList.up hD subk
    obtain ⟨t1, t2, v1, v2, v3, v4, hp3⟩ := hr3
    obtain ⟨w, hw⟩ : ∃ w, vs[i]? = some w := ⟨vs[i]'(by omega), List.getElem?_eq_getElem _⟩
    obtain ⟨bi, tb, rfl, hbi⟩ := hB.2 i w hw
    have hcut : KBw.bInts bi = ((KBw.bInts b).drop (96 * i)).take 96 := by
      unfold cutsOf at hbi
      rw [List.getElem?_map, List.getElem?_range hi] at hbi
      exact (Option.some.inj hbi).symm
    have hbs : bi.size = 96 := by
      rw [← KBw.ints_length, hcut, List.length_take, List.length_drop, KBw.ints_length, hb]
      have : 96 * i + 96 ≤ 96 * k := by
        have : i + 1 ≤ k := hi
        have := Nat.mul_le_mul_left 96 this
        omega
      omega
    walk_at "mzr"
    refine' itemF (x := .bytes bi tb) fe ?hS hD3 ?h0 ?hfit ?hx ?_ ?hs ?hg
    case hS => exact rfl
    case h0 => omega
    case hfit => omega
    case hx => rw [Int.toNat_natCast]; exact hw
    case hs => with_unfolding_all rfl
    case hg => intro _; with_unfolding_all rfl
    walk_at "mzr"
    refine sp_unpack_s2 (Fn.st (Fn.at fe (by exact rfl))) ((hR' _).less (by decide)) ⟨t1, t2, v1, v2, v3, v4, hp3⟩ (by omega) (by rw [hbs]; decide) fun y g4 s4 gr4 hy => ?_
    refine ⟨g4, Gr.same_l gr4 (by exact rfl), ?_⟩
    refine PolysAre.snoc (PolysAre.up gr4.up hO) ?_
    rw [← hcut]; exact hy
  · intro D2 ys g' s' fd subd hpl hlen hO
    obtain ⟨es, rfl, hel, hec⟩ := hO
    have hm3 := hm2.up subd
    walk_at "mzr"
    refine sp_vector hP (m := m) (es := es) (fs := []) (Fn.st (by with_reducible assumption)) ((hR' _).less (by decide)) (PlainList.toIs hpl) (by omega) fun y g4 s4 gr4 hy => ?_
    have f4 := Fn.gr (by with_reducible assumption) gr4
    walk_at "mzr"
    exact h _ _ _ f4.done ⟨es, hy, hel, fun j e he => (hec j e he).up gr4.up⟩

theorem sp_munpack_s4 {A : Around} {g : Heap} {s : Shared} {m p : Addr} {b : Array UInt8} {k : Nat} {t v u : Tok} {Q : Value → Shared → Prop} {E : Value → Shared → Prop} (hP : C.prog = PySem.Challenge.pw_bn0016_01) (st : St C (Mine.hd.K C.w.params) g s) (hR : Room A 15) (hm : ModAt g m p)
    (hk : k = 1 ∨ k = 2) (hb : b.size = 128 * k)
    (h : ∀ y g' s', Gr C g s g' s' → VecOf g' y m p k (fun j => (unpL (((KBw.bInts b).drop (128 * j)).take 128) 4).map fun c => 4 - c) → Q (.ref y) s') : wpAny C.M A (call (.ref 948) [.ref m, .bytes b t, .int k v, .int 4 u]) Q E s := by
  have hm0 := hm.1
  have hb1 : b.size ≤ 2000 := by omega
  (refine' call_fn (binds := [("self", .ref m), ("input_bytes", .bytes b t), ("k", .int k v), ("eta", .int 4 u)]) ?st ?ho ?hcd ?hroom ?hb ?hk ?hck ?_ ?h1 ?h2 ?h3)
  (case st => first | with_reducible assumption | exact (Fn.st (by with_reducible assumption)).at rfl); (case ho => k_is); (case hcd => k_is)
  (case hroom => exact Room.depth (by assumption)); (case hb => first | exact BindsTo.of_eq rfl | exact binds_K (St.kin' (by assumption)) rfl (by k_is) rfl rfl rfl)
  (case hk => exact rfl); (case hck => exact rfl); (case h1 => exact rfl); (case h2 => exact rfl); (case h3 => exact rfl)
  intro L1 s1 hk1 f
  have hR' := fun env => hR.deeper (n := 14) env
  walk_at "mzr"
  refine sp_mbu (p := 128) (N := k) (Fn.st (Fn.at (by with_reducible assumption) (by exact rfl))) ((hR' _).less (by decide)) (by omega) (by decide) (by rw [hb]; omega) fun D vs g2 s2 gr2 hD hB => ?_
  have f2 := Fn.gr (Fn.at (by with_reducible assumption) (by exact rfl)) gr2
  have hm2 := hm0.up gr2.up
  have hr2 := hm.2.up gr2.up
  have hvl : vs.length = k := by rw [hB.1]; unfold cutsOf; simp
  walk_at "mzr"
  refine' comp1_name (C := C) ?fv ?_
  case fv => exact (by with_reducible assumption)
  walk_at "mzr"
  refine rangeGo1 (C := C) (k := k) (Fn.st (by with_reducible assumption)) (by exact rfl) (hR' _).2.2 rfl (small_of (by omega) (by omega) (by omega)) fun I g₂ s₂ it => ?_
  refine ⟨I, g₂, k, _, fun i ys g => PolysAre g p (fun j => (unpL (((KBw.bInts b).drop (128 * j)).take 128) 4).map fun c => 4 - c) i ys, rfl, it.same_l (by exact rfl), by rw [sizeLine_eq]; omega, ⟨[], rfl, rfl, fun j e he => by cases he⟩, fun _ _ _ _ k h => h.up k, ?_, ?_⟩
  · intro Cc i v gk sk se ys E' hi hP fe sube hlen hO
    obtain ⟨ti, rfl⟩ := hP
    have subk : Sub g2 gk := fun b o e => sube b o (it.gr.up b o e)
    have hm3 := hm2.up subk
    have hr3 := hr2.up subk
    have hD3 := IsList.up hD subk
    obtain ⟨t1, t2, v1, v2, v3, v4, hp3⟩ := hr3
    obtain ⟨w, hw⟩ : ∃ w, vs[i]? = some w := ⟨vs[i]'(by omega), List.getElem?_eq_getElem _⟩
    obtain ⟨bi, tb, rfl, hbi⟩ := hB.2 i w hw
    have hcut : KBw.bInts bi = ((KBw.bInts b).drop (128 * i)).take 128 := by
      unfold cutsOf at hbi
      rw [List.getElem?_map, List.getElem?_range hi] at hbi
      exact (Option.some.inj hbi).symm
    have hbs : bi.size = 128 := by
      rw [← KBw.ints_length, hcut, List.length_take, List.length_drop, KBw.ints_length, hb]
      have : 128 * i + 128 ≤ 128 * k := by
        have : i + 1 ≤ k := hi
        have := Nat.mul_le_mul_left 128 this
        omega
      omega
    walk_at "mzr"
    refine' itemF (x := .bytes bi tb) fe ?hS hD3 ?h0 ?hfit ?hx ?_ ?hs ?hg
    case hS => exact rfl
    case h0 => omega
    case hfit => omega
    case hx => rw [Int.toNat_natCast]; exact hw
    case hs => with_unfolding_all rfl
    case hg => intro _; with_unfolding_all rfl
    walk_at "mzr"
    refine sp_unpack_s4 (Fn.st (Fn.at fe (by exact rfl))) ((hR' _).less (by decide)) ⟨t1, t2, v1, v2, v3, v4, hp3⟩ (by omega) (by rw [hbs]; decide) fun y g4 s4 gr4 hy => ?_
    refine ⟨g4, Gr.same_l gr4 (by exact rfl), ?_⟩
    refine PolysAre.snoc (PolysAre.up gr4.up hO) ?_
    rw [← hcut]; exact hy
  · intro D2 ys g' s' fd subd hpl hlen hO
    obtain ⟨es, rfl, hel, hec⟩ := hO
    have hm3 := hm2.up subd
    walk_at "mzr"
    refine sp_vector hP (m := m) (es := es) (fs := []) (Fn.st (by with_reducible assumption)) ((hR' _).less (by decide)) (PlainList.toIs hpl) (by omega) fun y g4 s4 gr4 hy => ?_
    have f4 := Fn.gr (by with_reducible assumption) gr4
    walk_at "mzr"
    exact h _ _ _ f4.done ⟨es, hy, hel, fun j e he => (hec j e he).up gr4.up⟩

theorem sp_munpack_w6 {A : Around} {g : Heap} {s : Shared} {m p : Addr} {b : Array UInt8} {k : Nat} {t v u : Tok} {Q : Value → Shared → Prop} {E : Value → Shared → Prop} (hP : C.prog = PySem.Challenge.pw_bn0016_01) (st : St C (Mine.hd.K C.w.params) g s) (hR : Room A 15) (hm : ModAt g m p)
    (hk : k = 1 ∨ k = 2) (hb : b.size = 192 * k)
    (h : ∀ y g' s', Gr C g s g' s' → VecOf g' y m p k (fun j => (unpL (((KBw.bInts b).drop (192 * j)).take 192) 6)) → Q (.ref y) s') : wpAny C.M A (call (.ref 953) [.ref m, .bytes b t, .int k v, .int 95232 u]) Q E s := by
  have hm0 := hm.1
  have hb1 : b.size ≤ 2000 := by omega
  (refine' call_fn (binds := [("self", .ref m), ("input_bytes", .bytes b t), ("k", .int k v), ("gamma_2", .int 95232 u)]) ?st ?ho ?hcd ?hroom ?hb ?hk ?hck ?_ ?h1 ?h2 ?h3)
  (case st => first | with_reducible assumption | exact (Fn.st (by with_reducible assumption)).at rfl); (case ho => k_is); (case hcd => k_is)
  (case hroom => exact Room.depth (by assumption)); (case hb => first | exact BindsTo.of_eq rfl | exact binds_K (St.kin' (by assumption)) rfl (by k_is) rfl rfl rfl)
  (case hk => exact rfl); (case hck => exact rfl); (case h1 => exact rfl); (case h2 => exact rfl); (case h3 => exact rfl)
  intro L1 s1 hk1 f
  have hR' := fun env => hR.deeper (n := 14) env
  walk_at "mzr"
  refine sp_mbu (p := 192) (N := k) (Fn.st (Fn.at (by with_reducible assumption) (by exact rfl))) ((hR' _).less (by decide)) (by omega) (by decide) (by rw [hb]; omega) fun D vs g2 s2 gr2 hD hB => ?_
  have f2 := Fn.gr (Fn.at (by with_reducible assumption) (by exact rfl)) gr2
  have hm2 := hm0.up gr2.up
  have hr2 := hm.2.up gr2.up
  have hvl : vs.length = k := by rw [hB.1]; unfold cutsOf; simp
  walk_at "mzr"
  refine' comp1_name (C := C) ?fv ?_
  case fv => exact (by with_reducible assumption)
  walk_at "mzr"
  refine rangeGo1 (C := C) (k := k) (Fn.st (by with_reducible assumption)) (by exact rfl) (hR' _).2.2 rfl (small_of (by omega) (by omega) (by omega)) fun I g₂ s₂ it => ?_
  refine ⟨I, g₂, k, _, fun i ys g => PolysAre g p (fun j => (unpL (((KBw.bInts b).drop (192 * j)).take 192) 6)) i ys, rfl, it.same_l (by exact rfl), by rw [sizeLine_eq]; omega, ⟨[], rfl, rfl, fun j e he => by cases he⟩, fun _ _ _ _ k h => h.up k, ?_, ?_⟩
  · intro Cc i v gk sk se ys E' hi hP fe sube hlen hO
    obtain ⟨ti, rfl⟩ := hP
    have subk : Sub g2 gk := fun b o e => sube b o (it.gr.up b o e)
    have hm3 := hm2.up subk
    have hr3 := hr2.up subk
    have hD3 := IsList.up hD subk
    obtain ⟨t1, t2, v1, v2, v3, v4, hp3⟩ := hr3
    obtain ⟨w, hw⟩ : ∃ w, vs[i]? = some w := ⟨vs[i]'(by omega), List.getElem?_eq_getElem _⟩
    obtain ⟨bi, tb, rfl, hbi⟩ := hB.2 i w hw
    have hcut : KBw.bInts bi = ((KBw.bInts b).drop (192 * i)).take 192 := by
      unfold cutsOf at hbi
      rw [List.getElem?_map, List.getElem?_range hi] at hbi
      exact (Option.some.inj hbi).symm
    have hbs : bi.size = 192 := by
      rw [← KBw.ints_length, hcut, List.length_take, List.length_drop, KBw.ints_length, hb]
      have : 192 * i + 192 ≤ 192 * k := by
        have : i + 1 ≤ k := hi
        have := Nat.mul_le_mul_left 192 this
        omega
      omega
    walk_at "mzr"
    refine' itemF (x := .bytes bi tb) fe ?hS hD3 ?h0 ?hfit ?hx ?_ ?hs ?hg
    case hS => exact rfl
    case h0 => omega
    case hfit => omega
    case hx => rw [Int.toNat_natCast]; exact hw
    case hs => with_unfolding_all rfl
    case hg => intro _; with_unfolding_all rfl
    walk_at "mzr"
    refine sp_unpack_w6 (Fn.st (Fn.at fe (by exact rfl))) ((hR' _).less (by decide)) ⟨t1, t2, v1, v2, v3, v4, hp3⟩ (by omega) (by rw [hbs]; decide) fun y g4 s4 gr4 hy => ?_
    refine ⟨g4, Gr.same_l gr4 (by exact rfl), ?_⟩
    refine PolysAre.snoc (PolysAre.up gr4.up hO) ?_
    rw [← hcut]; exact hy
  · intro D2 ys g' s' fd subd hpl hlen hO
    obtain ⟨es, rfl, hel, hec⟩ := hO
    have hm3 := hm2.up subd
    walk_at "mzr"
    refine sp_vector hP (m := m) (es := es) (fs := []) (Fn.st (by with_reducible assumption)) ((hR' _).less (by decide)) (PlainList.toIs hpl) (by omega) fun y g4 s4 gr4 hy => ?_
    have f4 := Fn.gr (by with_reducible assumption) gr4
    walk_at "mzr"
    exact h _ _ _ f4.done ⟨es, hy, hel, fun j e he => (hec j e he).up gr4.up⟩

theorem sp_munpack_w4 {A : Around} {g : Heap} {s : Shared} {m p : Addr} {b : Array UInt8} {k : Nat} {t v u : Tok} {Q : Value → Shared → Prop} {E : Value → Shared → Prop} (hP : C.prog = PySem.Challenge.pw_bn0016_01) (st : St C (Mine.hd.K C.w.params) g s) (hR : Room A 15) (hm : ModAt g m p)
    (hk : k = 1 ∨ k = 2) (hb : b.size = 128 * k)
    (h : ∀ y g' s', Gr C g s g' s' → VecOf g' y m p k (fun j => (unpL (((KBw.bInts b).drop (128 * j)).take 128) 4)) → Q (.ref y) s') : wpAny C.M A (call (.ref 953) [.ref m, .bytes b t, .int k v, .int 261888 u]) Q E s := by
  have hm0 := hm.1
  have hb1 : b.size ≤ 2000 := by omega
  (refine' call_fn (binds := [("self", .ref m), ("input_bytes", .bytes b t), ("k", .int k v), ("gamma_2", .int 261888 u)]) ?st ?ho ?hcd ?hroom ?hb ?hk ?hck ?_ ?h1 ?h2 ?h3)
  (case st => first | with_reducible assumption | exact (Fn.st (by with_reducible assumption)).at rfl); (case ho => k_is); (case hcd => k_is)
  (case hroom => exact Room.depth (by assumption)); (case hb => first | exact BindsTo.of_eq rfl | exact binds_K (St.kin' (by assumption)) rfl (by k_is) rfl rfl rfl)
  (case hk => exact rfl); (case hck => exact rfl); (case h1 => exact rfl); (case h2 => exact rfl); (case h3 => exact rfl)
  intro L1 s1 hk1 f
  have hR' := fun env => hR.deeper (n := 14) env
  walk_at "mzr"
  refine sp_mbu (p := 128) (N := k) (Fn.st (Fn.at (by with_reducible assumption) (by exact rfl))) ((hR' _).less (by decide)) (by omega) (by decide) (by rw [hb]; omega) fun D vs g2 s2 gr2 hD hB => ?_
  have f2 := Fn.gr (Fn.at (by with_reducible assumption) (by exact rfl)) gr2
  have hm2 := hm0.up gr2.up
  have hr2 := hm.2.up gr2.up
  have hvl : vs.length = k := by rw [hB.1]; unfold cutsOf; simp
  walk_at "mzr"
  refine' comp1_name (C := C) ?fv ?_
  case fv => exact (by with_reducible assumption)
  walk_at "mzr"
  refine rangeGo1 (C := C) (k := k) (Fn.st (by with_reducible assumption)) (by exact rfl) (hR' _).2.2 rfl (small_of (by omega) (by omega) (by omega)) fun I g₂ s₂ it => ?_
  refine ⟨I, g₂, k, _, fun i ys g => PolysAre g p (fun j => (unpL (((KBw.bInts b).drop (128 * j)).take 128) 4)) i ys, rfl, it.same_l (by exact rfl), by rw [sizeLine_eq]; omega, ⟨[], rfl, rfl, fun j e he => by cases he⟩, fun _ _ _ _ k h => h.up k, ?_, ?_⟩
  · intro Cc i v gk sk se ys E' hi hP fe sube hlen hO
    obtain ⟨ti, rfl⟩ := hP
    have subk : Sub g2 gk := fun b o e => sube b o (it.gr.up b o e)
    have hm3 := hm2.up subk
    have hr3 := hr2.up subk
    have hD3 := IsList.up hD subk
    obtain ⟨t1, t2, v1, v2, v3, v4, hp3⟩ := hr3
    obtain ⟨w, hw⟩ : ∃ w, vs[i]? = some w := ⟨vs[i]'(by omega), List.getElem?_eq_getElem _⟩
    obtain ⟨bi, tb, rfl, hbi⟩ := hB.2 i w hw
    have hcut : KBw.bInts bi = ((KBw.bInts b).drop (128 * i)).take 128 := by
      unfold cutsOf at hbi
      rw [List.getElem?_map, List.getElem?_range hi] at hbi
      exact (Option.some.inj hbi).symm
    have hbs : bi.size = 128 := by
      rw [← KBw.ints_length, hcut, List.length_take, List.length_drop, KBw.ints_length, hb]
      have : 128 * i + 128 ≤ 128 * k := by
        have : i + 1 ≤ k := hi
        have := Nat.mul_le_mul_left 128 this
        omega
      omega
    walk_at "mzr"
    refine' itemF (x := .bytes bi tb) fe ?hS hD3 ?h0 ?hfit ?hx ?_ ?hs ?hg
    case hS => exact rfl
    case h0 => omega
    case hfit => omega
    case hx => rw [Int.toNat_natCast]; exact hw
    case hs => with_unfolding_all rfl
    case hg => intro _; with_unfolding_all rfl
    walk_at "mzr"
    refine sp_unpack_w4 (Fn.st (Fn.at fe (by exact rfl))) ((hR' _).less (by decide)) ⟨t1, t2, v1, v2, v3, v4, hp3⟩ (by omega) (by rw [hbs]; decide) fun y g4 s4 gr4 hy => ?_
    refine ⟨g4, Gr.same_l gr4 (by exact rfl), ?_⟩
    refine PolysAre.snoc (PolysAre.up gr4.up hO) ?_
    rw [← hcut]; exact hy
  · intro D2 ys g' s' fd subd hpl hlen hO
    obtain ⟨es, rfl, hel, hec⟩ := hO
    have hm3 := hm2.up subd
    walk_at "mzr"
    refine sp_vector hP (m := m) (es := es) (fs := []) (Fn.st (by with_reducible assumption)) ((hR' _).less (by decide)) (PlainList.toIs hpl) (by omega) fun y g4 s4 gr4 hy => ?_
    have f4 := Fn.gr (by with_reducible assumption) gr4
    walk_at "mzr"
    exact h _ _ _ f4.done ⟨es, hy, hel, fun j e he => (hec j e he).up gr4.up⟩

theorem sp_munpack_z17 {A : Around} {g : Heap} {s : Shared} {m p : Addr} {b : Array UInt8} {k : Nat} {t v u : Tok} {Q : Value → Shared → Prop} {E : Value → Shared → Prop} (hP : C.prog = PySem.Challenge.pw_bn0016_01) (st : St C (Mine.hd.K C.w.params) g s) (hR : Room A 15) (hm : ModAt g m p)
    (hk : k = 1 ∨ k = 2) (hb : b.size = 576 * k)
    (h : ∀ y g' s', Gr C g s g' s' → VecOf g' y m p k (fun j => (unpL (((KBw.bInts b).drop (576 * j)).take 576) 18).map fun c => 131072 - c) → Q (.ref y) s') : wpAny C.M A (call (.ref 958) [.ref m, .bytes b t, .int k v, .int 131072 u]) Q E s := by
  have hm0 := hm.1
  have hb1 : b.size ≤ 2000 := by omega
  (refine' call_fn (binds := [("self", .ref m), ("input_bytes", .bytes b t), ("k", .int k v), ("gamma_1", .int 131072 u)]) ?st ?ho ?hcd ?hroom ?hb ?hk ?hck ?_ ?h1 ?h2 ?h3)
  (case st => first | with_reducible assumption | exact (Fn.st (by with_reducible assumption)).at rfl); (case ho => k_is); (case hcd => k_is)
  (case hroom => exact Room.depth (by assumption)); (case hb => first | exact BindsTo.of_eq rfl | exact binds_K (St.kin' (by assumption)) rfl (by k_is) rfl rfl rfl)
  (case hk => exact rfl); (case hck => exact rfl); (case h1 => exact rfl); (case h2 => exact rfl); (case h3 => exact rfl)
  intro L1 s1 hk1 f
  have hR' := fun env => hR.deeper (n := 14) env
  walk_at "mzr"
  refine O.shl_ (by decide) (by decide) ?_
  walk_at "mzr"
  refine sp_mbu (p := 576) (N := k) (Fn.st (Fn.at (by with_reducible assumption) (by exact rfl))) ((hR' _).less (by decide)) (by omega) (by decide) (by rw [hb]; omega) fun D vs g2 s2 gr2 hD hB => ?_
  have f2 := Fn.gr (Fn.at (by with_reducible assumption) (by exact rfl)) gr2
  have hm2 := hm0.up gr2.up
  have hr2 := hm.2.up gr2.up
  have hvl : vs.length = k := by rw [hB.1]; unfold cutsOf; simp
  walk_at "mzr"
  refine' comp1_name (C := C) ?fv ?_
  case fv => exact (by with_reducible assumption)
  walk_at "mzr"
  refine rangeGo1 (C := C) (k := k) (Fn.st (by with_reducible assumption)) (by exact rfl) (hR' _).2.2 rfl (small_of (by omega) (by omega) (by omega)) fun I g₂ s₂ it => ?_
  refine ⟨I, g₂, k, _, fun i ys g => PolysAre g p (fun j => (unpL (((KBw.bInts b).drop (576 * j)).take 576) 18).map fun c => 131072 - c) i ys, rfl, it.same_l (by exact rfl), by rw [sizeLine_eq]; omega, ⟨[], rfl, rfl, fun j e he => by cases he⟩, fun _ _ _ _ k h => h.up k, ?_, ?_⟩
  · intro Cc i v gk sk se ys E' hi hP fe sube hlen hO
    obtain ⟨ti, rfl⟩ := hP
    have subk : Sub g2 gk := fun b o e => sube b o (it.gr.up b o e)
    have hm3 := hm2.up subk
    have hr3 := hr2.up subk
    have hD3 := IsList.up hD subk
    obtain ⟨t1, t2, v1, v2, v3, v4, hp3⟩ := hr3
    obtain ⟨w, hw⟩ : ∃ w, vs[i]? = some w := ⟨vs[i]'(by omega), List.getElem?_eq_getElem _⟩
    obtain ⟨bi, tb, rfl, hbi⟩ := hB.2 i w hw
    have hcut : KBw.bInts bi = ((KBw.bInts b).drop (576 * i)).take 576 := by
      unfold cutsOf at hbi
      rw [List.getElem?_map, List.getElem?_range hi] at hbi
      exact (Option.some.inj hbi).symm
    have hbs : bi.size = 576 := by
      rw [← KBw.ints_length, hcut, List.length_take, List.length_drop, KBw.ints_length, hb]
      have : 576 * i + 576 ≤ 576 * k := by
        have : i + 1 ≤ k := hi
        have := Nat.mul_le_mul_left 576 this
        omega
      omega
    walk_at "mzr"
    refine' itemF (x := .bytes bi tb) fe ?hS hD3 ?h0 ?hfit ?hx ?_ ?hs ?hg
    case hS => exact rfl
    case h0 => omega
    case hfit => omega
    case hx => rw [Int.toNat_natCast]; exact hw
    case hs => with_unfolding_all rfl
    case hg => intro _; with_unfolding_all rfl
    walk_at "mzr"
    refine sp_unpack_z17 (Fn.st (Fn.at fe (by exact rfl))) ((hR' _).less (by decide)) ⟨t1, t2, v1, v2, v3, v4, hp3⟩ (by omega) (by rw [hbs]; decide) fun y g4 s4 gr4 hy => ?_
    refine ⟨g4, Gr.same_l gr4 (by exact rfl), ?_⟩
    refine PolysAre.snoc (PolysAre.up gr4.up hO) ?_
    rw [← hcut]; exact hy
  · intro D2 ys g' s' fd subd hpl hlen hO
    obtain ⟨es, rfl, hel, hec⟩ := hO
    have hm3 := hm2.up subd
    walk_at "mzr"
    refine sp_vector hP (m := m) (es := es) (fs := []) (Fn.st (by with_reducible assumption)) ((hR' _).less (by decide)) (PlainList.toIs hpl) (by omega) fun y g4 s4 gr4 hy => ?_
    have f4 := Fn.gr (by with_reducible assumption) gr4
    walk_at "mzr"
    exact h _ _ _ f4.done ⟨es, hy, hel, fun j e he => (hec j e he).up gr4.up⟩

theorem sp_munpack_z19 {A : Around} {g : Heap} {s : Shared} {m p : Addr} {b : Array UInt8} {k : Nat} {t v u : Tok} {Q : Value → Shared → Prop} {E : Value → Shared → Prop} (hP : C.prog = PySem.Challenge.pw_bn0016_01) (st : St C (Mine.hd.K C.w.params) g s) (hR : Room A 15) (hm : ModAt g m p)
    (hk : k = 1 ∨ k = 2) (hb : b.size = 640 * k)
    (h : ∀ y g' s', Gr C g s g' s' → VecOf g' y m p k (fun j => (unpL (((KBw.bInts b).drop (640 * j)).take 640) 20).map fun c => 524288 - c) → Q (.ref y) s') : wpAny C.M A (call (.ref 958) [.ref m, .bytes b t, .int k v, .int 524288 u]) Q E s := by
  have hm0 := hm.1
  have hb1 : b.size ≤ 2000 := by omega
  (refine' call_fn (binds := [("self", .ref m), ("input_bytes", .bytes b t), ("k", .int k v), ("gamma_1", .int 524288 u)]) ?st ?ho ?hcd ?hroom ?hb ?hk ?hck ?_ ?h1 ?h2 ?h3)
  (case st => first | with_reducible assumption | exact (Fn.st (by with_reducible assumption)).at rfl); (case ho => k_is); (case hcd => k_is)
  (case hroom => exact Room.depth (by assumption)); (case hb => first | exact BindsTo.of_eq rfl | exact binds_K (St.kin' (by assumption)) rfl (by k_is) rfl rfl rfl)
  (case hk => exact rfl); (case hck => exact rfl); (case h1 => exact rfl); (case h2 => exact rfl); (case h3 => exact rfl)
  intro L1 s1 hk1 f
  have hR' := fun env => hR.deeper (n := 14) env
  walk_at "mzr"
  refine O.shl_ (by decide) (by decide) ?_
  walk_at "mzr"
  refine O.shl_ (by decide) (by decide) ?_
  walk_at "mzr"
  refine sp_mbu (p := 640) (N := k) (Fn.st (Fn.at (by with_reducible assumption) (by exact rfl))) ((hR' _).less (by decide)) (by omega) (by decide) (by rw [hb]; omega) fun D vs g2 s2 gr2 hD hB => ?_
  have f2 := Fn.gr (Fn.at (by with_reducible assumption) (by exact rfl)) gr2
  have hm2 := hm0.up gr2.up
  have hr2 := hm.2.up gr2.up
  have hvl : vs.length = k := by rw [hB.1]; unfold cutsOf; simp
  walk_at "mzr"
  refine' comp1_name (C := C) ?fv ?_
  case fv => exact (by with_reducible assumption)
  walk_at "mzr"
  refine rangeGo1 (C := C) (k := k) (Fn.st (by with_reducible assumption)) (by exact rfl) (hR' _).2.2 rfl (small_of (by omega) (by omega) (by omega)) fun I g₂ s₂ it => ?_
  refine ⟨I, g₂, k, _, fun i ys g => PolysAre g p (fun j => (unpL (((KBw.bInts b).drop (640 * j)).take 640) 20).map fun c => 524288 - c) i ys, rfl, it.same_l (by exact rfl), by rw [sizeLine_eq]; omega, ⟨[], rfl, rfl, fun j e he => by cases he⟩, fun _ _ _ _ k h => h.up k, ?_, ?_⟩
  · intro Cc i v gk sk se ys E' hi hP fe sube hlen hO
    obtain ⟨ti, rfl⟩ := hP
    have subk : Sub g2 gk := fun b o e => sube b o (it.gr.up b o e)
    have hm3 := hm2.up subk
    have hr3 := hr2.up subk
    have hD3 := IsList.up hD subk
    obtain ⟨t1, t2, v1, v2, v3, v4, hp3⟩ := hr3
    obtain ⟨w, hw⟩ : ∃ w, vs[i]? = some w := ⟨vs[i]'(by omega), List.getElem?_eq_getElem _⟩
    obtain ⟨bi, tb, rfl, hbi⟩ := hB.2 i w hw
    have hcut : KBw.bInts bi = ((KBw.bInts b).drop (640 * i)).take 640 := by
      unfold cutsOf at hbi
      rw [List.getElem?_map, List.getElem?_range hi] at hbi
      exact (Option.some.inj hbi).symm
    have hbs : bi.size = 640 := by
      rw [← KBw.ints_length, hcut, List.length_take, List.length_drop, KBw.ints_length, hb]
      have : 640 * i + 640 ≤ 640 * k := by
        have : i + 1 ≤ k := hi
        have := Nat.mul_le_mul_left 640 this
        omega
      omega
    walk_at "mzr"
    refine' itemF (x := .bytes bi tb) fe ?hS hD3 ?h0 ?hfit ?hx ?_ ?hs ?hg
    case hS => exact rfl
    case h0 => omega
    case hfit => omega
    case hx => rw [Int.toNat_natCast]; exact hw
    case hs => with_unfolding_all rfl
    case hg => intro _; with_unfolding_all rfl
    walk_at "mzr"
    refine sp_unpack_z19 (Fn.st (Fn.at fe (by exact rfl))) ((hR' _).less (by decide)) ⟨t1, t2, v1, v2, v3, v4, hp3⟩ (by omega) (by rw [hbs]; decide) fun y g4 s4 gr4 hy => ?_
    refine ⟨g4, Gr.same_l gr4 (by exact rfl), ?_⟩
    refine PolysAre.snoc (PolysAre.up gr4.up hO) ?_
    rw [← hcut]; exact hy
  · intro D2 ys g' s' fd subd hpl hlen hO
    obtain ⟨es, rfl, hel, hec⟩ := hO
    have hm3 := hm2.up subd
    walk_at "mzr"
    refine sp_vector hP (m := m) (es := es) (fs := []) (Fn.st (by with_reducible assumption)) ((hR' _).less (by decide)) (PlainList.toIs hpl) (by omega) fun y g4 s4 gr4 hy => ?_
    have f4 := Fn.gr (by with_reducible assumption) gr4
    walk_at "mzr"
    exact h _ _ _ f4.done ⟨es, hy, hel, fun j e he => (hec j e he).up gr4.up⟩

theorem drop_rev {α : Type} {l : List α} {i : Nat} {x : α} (h : l[l.length - 1 - i]? = some x) (hi : i < l.length) : l.drop (l.length - (i + 1)) = x :: l.drop (l.length - i) := by
  have e : l.length - (i + 1) = l.length - 1 - i := by omega
  have hlt : l.length - 1 - i < l.length := by omega
  rw [e, List.drop_eq_getElem_cons hlt]
  rw [List.getElem?_eq_getElem hlt] at h
  rw [Option.some.inj h]
  congr 2; omega
/-- Polynomial._bit_pack -/
theorem sp_bitpack {A : Around} {g : Heap} {s : Shared} {l : Addr} {vs : List Value} {cs : List Int} {n nb : Nat} {t u : Tok} {Q : Value → Shared → Prop} {E : Value → Shared → Prop} (st : St C (Mine.hd.K C.w.params) g s) (hR : Room A 4)
    (hl : g.IsList l vs.toArray) (hi : IntsAre vs cs) (hc : ∀ c ∈ cs, 0 ≤ c ∧ c < 2 ^ n) (hn : n < 100) (hz : cs.length ≤ 256) (hnb : n * cs.length = 8 * nb)
    (h : ∀ b t g' s', Gr C g s g' s' → KBw.bInts b = digits 256 nb (dig (2 ^ n) cs) → Q (.bytes b t) s') : wpAny C.M A (call (.ref 458) [.ref l, .int n t, .int nb u]) Q E s := by
  (refine' call_fn (binds := [("coeffs", .ref l), ("n_bits", .int n t), ("n_bytes", .int nb u)]) ?st ?ho ?hcd ?hroom ?hb ?hk ?hck ?_ ?h1 ?h2 ?h3)
  (case st => first | with_reducible assumption | exact (Fn.st (by with_reducible assumption)).at rfl); (case ho => k_is); (case hcd => k_is)
  (case hroom => exact Room.depth (by assumption)); (case hb => first | exact BindsTo.of_eq rfl | exact binds_K (St.kin' (by assumption)) rfl (by k_is) rfl rfl rfl)
  (case hk => exact rfl); (case hck => exact rfl); (case h1 => exact rfl); (case h2 => exact rfl); (case h3 => exact rfl)
  intro L1 s1 hk1 f
  have hR' := fun env => hR.deeper (n := 3) env
  have hlen : vs.length = cs.length := hi.length
  have hB : (0 : Int) < 2 ^ n := Int.pow_pos (by decide)
  walk_at "mzr"
  refine' forName (C := C) ?fv ?_
  case fv => exact (by with_reducible assumption)
  walk_at "mzr"
  refine revGo (C := C) (vs := vs) (Fn.st (by with_reducible assumption)) (by exact rfl) (hR' _).2.2 hl fun I g₂ s₂ it => ?_
  refine ⟨I, g₂, vs.length, _, fun i τ => (∃ t, τ "r" = some (.int (dig (2 ^ n) (cs.drop (cs.length - i))) t)) ∧ τ "n_bits" = some (.int n t) ∧ τ "n_bytes" = some (.int nb u), rfl, it.same_l (by exact rfl), ?_, ?_, ?_⟩
  · exact ⟨⟨_, by rw [show cs.drop (cs.length - 0) = [] from by simp]; exact rfl⟩, rfl, rfl⟩
  · intro i v gk s1' σk E' hk hlt hP fe sube hI
    obtain ⟨⟨tr, hr⟩, hnb1, hnb2⟩ := hI
    obtain ⟨c, tc, rfl, hci⟩ := intsAre_at hi hP
    have hcc := hc c (List.mem_of_getElem? hci)
    have hdb := dig_bounds hB (cs := cs.drop (cs.length - i)) fun c hc' => hc c (List.mem_of_mem_drop hc')
    have hbits : (Builtin.Int.intBits (dig (2 ^ n) (cs.drop (cs.length - i))) : Int) + n ≤ 2 ^ 27 := by
      have : Builtin.Int.intBits (dig (2 ^ n) (cs.drop (cs.length - i))) ≤ n * 256 := by
        refine intBits_le_iff.mpr ?_
        have h2 : dig (2 ^ n) (cs.drop (cs.length - i)) < (2 : Int) ^ (n * 256) := by
          refine Int.lt_of_lt_of_le hdb.2 ?_
          rw [← Int.pow_mul]
          have hle2 : n * (cs.drop (cs.length - i)).length ≤ n * 256 := Nat.mul_le_mul_left n (by rw [List.length_drop]; omega)
          exact_mod_cast Nat.pow_le_pow_right (show 2 > 0 by decide) hle2
        have h3 : ((dig (2 ^ n) (cs.drop (cs.length - i))).natAbs : Int) < ((2 ^ (n * 256) : Nat) : Int) := by
          rw [Int.natAbs_of_nonneg hdb.1]; push_cast; exact h2
        exact_mod_cast h3
      have h4 : n * 256 ≤ 25600 := by omega
      omega
    walk_at "mzr"
    refine O.ishl_ (by omega) hbits ?_
    walk_at "mzr"
    refine' ⟨_, _, ?fz, fun _ _ e => e, ?inv⟩
    case fz => with_reducible assumption
    have key : ∀ t, some (Value.int (Builtin.bitOr (dig (2 ^ n) (cs.drop (cs.length - i)) * 2 ^ ((n : Int)).toNat) c) t) = some (Value.int (dig (2 ^ n) (cs.drop (cs.length - (i + 1)))) t) := by
      intro t
      rw [Int.toNat_natCast, or_step hdb.1 hcc.1 hcc.2]
      have hd : cs.drop (cs.length - (i + 1)) = c :: cs.drop (cs.length - i) := drop_rev (by rw [← hlen]; exact hci) (by omega)
      rw [hd, dig_cons]
    exact ⟨⟨_, key _⟩, hnb1, hnb2⟩
  · intro ge se σe fe sube hI
    obtain ⟨⟨tr, hr⟩, hnb1, hnb2⟩ := hI
    show wpAny _ _ _ _ _ _
    walk_at "mzr"
    with_reducible refine KTBy.method ?_
    walk_at "mzr"
    have hdr : cs.drop (cs.length - vs.length) = cs := by rw [hlen]; simp
    rw [hdr]
    have hdb := dig_bounds hB (cs := cs) hc
    have hlt : dig (2 ^ n) cs < 256 ^ nb := by
      have e : (256 : Int) ^ nb = (2 ^ n) ^ cs.length := by
        rw [← Int.pow_mul, hnb, Int.pow_mul]; rfl
      rw [e]; exact hdb.2
    have hnb3 : nb ≤ 10000 := by
      have := Nat.mul_le_mul (Nat.le_of_lt hn) hz
      omega
    refine toLittle hnb3 hdb.1 hlt fun b t2 k2 hbi => ?_
    walk_at "mzr"
    refine h _ _ _ _ (Fn.done (Fn.at (by with_reducible assumption) (by exact rfl))) ?_
    rw [hbi, KTBy.little_eq]; rfl

theorem sp_submod {A : Around} {g : Heap} {s : Shared} {x p : Addr} {lv : Value} {a b : Int} {t u : Tok} {Q : Value → Shared → Prop} {E : Value → Shared → Prop} (st : St C (Mine.hd.K C.w.params) g s) (hR : Room A 3)
    (hx : Fld g x 514 [("parent", .ref p), ("coeffs", lv)]) (hp : RingAt g p)
    (h : ∀ t s', Gr C g s g s' → Q (.int ((a - b).fmod 8380417) t) s') : wpAny C.M A (call (.ref 124) [.ref x, .int a t, .int b u]) Q E s := by
  obtain ⟨t1, t2, v1, v2, v3, v4, hp⟩ := hp
  (refine' call_fn (binds := [("self", .ref x), ("x", .int a t), ("y", .int b u)]) ?st ?ho ?hcd ?hroom ?hb ?hk ?hck ?_ ?h1 ?h2 ?h3)
  (case st => first | with_reducible assumption | exact (Fn.st (by with_reducible assumption)).at rfl); (case ho => k_is); (case hcd => k_is)
  (case hroom => exact Room.depth (by assumption)); (case hb => first | exact BindsTo.of_eq rfl | exact binds_K (St.kin' (by assumption)) rfl (by k_is) rfl rfl rfl)
  (case hk => exact rfl); (case hck => exact rfl); (case h1 => exact rfl); (case h2 => exact rfl); (case h3 => exact rfl)
  intro L1 s1 hk1 f
  walk_at "mzr"
  exact h _ _ (Fn.done (Fn.at (by with_reducible assumption) (by exact rfl)))

theorem sp_pack_t1 {A : Around} {g : Heap} {s : Shared} {y p : Addr} {ns : List Int} {u : Tok} {Q : Value → Shared → Prop} {E : Value → Shared → Prop} (st : St C (Mine.hd.K C.w.params) g s) (hR : Room A 6) (hy : PolyAt g y p ns) (hp : RingAt g p)
    (hl : ns.length = 256) (hc : ∀ c ∈ (ns), 0 ≤ c ∧ c < 2 ^ 10)
    (h : ∀ b t g' s', Gr C g s g' s' → KBw.bInts b = digits 256 320 (dig (2 ^ 10) (ns)) → Q (.bytes b t) s') : wpAny C.M A (call (.ref 473) [.ref y]) Q E s := by
  obtain ⟨l, vs, hf, hL, hi⟩ := hy
  have hlen : vs.length = 256 := by rw [hi.length]; exact hl
  (refine' call_fn (binds := [("self", .ref y)]) ?st ?ho ?hcd ?hroom ?hb ?hk ?hck ?_ ?h1 ?h2 ?h3)
  (case st => first | with_reducible assumption | exact (Fn.st (by with_reducible assumption)).at rfl); (case ho => k_is); (case hcd => k_is)
  (case hroom => exact Room.depth (by assumption)); (case hb => first | exact BindsTo.of_eq rfl | exact binds_K (St.kin' (by assumption)) rfl (by k_is) rfl rfl rfl)
  (case hk => exact rfl); (case hck => exact rfl); (case h1 => exact rfl); (case h2 => exact rfl); (case h3 => exact rfl)
  intro L1 s1 hk1 f
  have hR' := fun env => hR.deeper (n := 5) env
  walk_at "mzr"
  refine sp_bitpack (n := 10) (nb := 320) (cs := ns) (Fn.st (Fn.at f (by exact rfl))) ((hR' _).less (by decide)) hL hi hc (by decide) (by rw [hl]; decide) (by rw [hl]) fun b t g4 s4 gr4 hb => ?_
  have f4 := Fn.gr (Fn.at f (by exact rfl)) gr4
  walk_at "mzr"
  exact h _ _ _ _ f4.done hb

theorem sp_pack_t0 {A : Around} {g : Heap} {s : Shared} {y p : Addr} {ns : List Int} {u : Tok} {Q : Value → Shared → Prop} {E : Value → Shared → Prop} (st : St C (Mine.hd.K C.w.params) g s) (hR : Room A 6) (hy : PolyAt g y p ns) (hp : RingAt g p)
    (hl : ns.length = 256) (hc : ∀ c ∈ (ns.map fun c => 1 * 2 ^ (12 : Int).toNat - c), 0 ≤ c ∧ c < 2 ^ 13)
    (h : ∀ b t g' s', Gr C g s g' s' → KBw.bInts b = digits 256 416 (dig (2 ^ 13) (ns.map fun c => 1 * 2 ^ (12 : Int).toNat - c)) → Q (.bytes b t) s') : wpAny C.M A (call (.ref 466) [.ref y]) Q E s := by
  obtain ⟨l, vs, hf, hL, hi⟩ := hy
  have hlen : vs.length = 256 := by rw [hi.length]; exact hl
  (refine' call_fn (binds := [("self", .ref y)]) ?st ?ho ?hcd ?hroom ?hb ?hk ?hck ?_ ?h1 ?h2 ?h3)
  (case st => first | with_reducible assumption | exact (Fn.st (by with_reducible assumption)).at rfl); (case ho => k_is); (case hcd => k_is)
  (case hroom => exact Room.depth (by assumption)); (case hb => first | exact BindsTo.of_eq rfl | exact binds_K (St.kin' (by assumption)) rfl (by k_is) rfl rfl rfl)
  (case hk => exact rfl); (case hck => exact rfl); (case h1 => exact rfl); (case h2 => exact rfl); (case h3 => exact rfl)
  intro L1 s1 hk1 f
  have hR' := fun env => hR.deeper (n := 5) env
  walk_at "mzr"
  refine' comp1_name (C := C) ?fv ?_
  case fv => exact Fn.at f (by exact rfl)
  walk_at "mzr"
  refine list_itS (vs := vs) (Fn.st (Fn.at f (by exact rfl))) (hR' _).2.2 hL fun I g₂ s₂ it => ?_
  refine ⟨I, g₂, vs.length, _, fun i ys _ => IntsAre ys ((ns.take i).map fun c => 1 * 2 ^ (12 : Int).toNat - c), rfl, it.same_l (by exact rfl), by rw [hlen]; decide, .nil, (fun i ys ga gb _ h => by dsimp only at h ⊢; exact h), ?_, ?_⟩
  · intro Cc i v gk sk se ys E' hi' hP fe sube hlen' hO
    obtain ⟨c, tn, rfl, hin⟩ := intsAre_at hi hP
    have subk : Sub g gk := fun b o e => sube b o (it.gr.up b o e)
    have hf2 := hf.up subk
    have hp2 := hp.up subk
    have key : ∀ t, IntsAre (ys ++ [.int (1 * 2 ^ (12 : Int).toNat - c) t]) ((ns.take (i + 1)).map fun c => 1 * 2 ^ (12 : Int).toNat - c) := by
      intro t
      rw [take_snoc hin, List.map_append]
      exact intsAre_snoc hO
    walk_at "mzr"
    refine O.shl_ (by decide) (by decide) ?_
    walk_at "mzr"
    exact ⟨gk, Gr.same_r (Gr.refl fe.st) (by exact rfl), key _⟩
  · intro D2 ys g' s' fd subd hpl hlen' hO
    have hf3 := hf.up subd
    have hi2 : IntsAre ys (ns.map fun c => 1 * 2 ^ (12 : Int).toNat - c) := by
      have : ns.take vs.length = ns := by rw [hlen, ← hl, List.take_length]
      have hO' : IntsAre ys ((ns.take vs.length).map fun c => 1 * 2 ^ (12 : Int).toNat - c) := hO
      rwa [this] at hO'
    walk_at "mzr"
    refine sp_bitpack (n := 13) (nb := 416) (cs := (ns.map fun c => 1 * 2 ^ (12 : Int).toNat - c)) (Fn.st (Fn.at (by with_reducible assumption) (by exact rfl))) ((hR' _).less (by decide)) (PlainList.toIs hpl) hi2 hc (by decide) (by rw [List.length_map, hl]; decide) (by rw [List.length_map, hl]) fun b t g4 s4 gr4 hb => ?_
    have f4 := Fn.gr (Fn.at (by with_reducible assumption) (by exact rfl)) gr4
    walk_at "mzr"
    exact h _ _ _ _ f4.done hb

theorem sp_pack_s2 {A : Around} {g : Heap} {s : Shared} {y p : Addr} {ns : List Int} {u : Tok} {Q : Value → Shared → Prop} {E : Value → Shared → Prop} (st : St C (Mine.hd.K C.w.params) g s) (hR : Room A 6) (hy : PolyAt g y p ns) (hp : RingAt g p)
    (hl : ns.length = 256) (hc : ∀ c ∈ (ns.map fun c => (2 - c).fmod 8380417), 0 ≤ c ∧ c < 2 ^ 3)
    (h : ∀ b t g' s', Gr C g s g' s' → KBw.bInts b = digits 256 96 (dig (2 ^ 3) (ns.map fun c => (2 - c).fmod 8380417)) → Q (.bytes b t) s') : wpAny C.M A (call (.ref 478) [.ref y, .int 2 u]) Q E s := by
  obtain ⟨l, vs, hf, hL, hi⟩ := hy
  have hlen : vs.length = 256 := by rw [hi.length]; exact hl
  (refine' call_fn (binds := [("self", .ref y), ("eta", .int 2 u)]) ?st ?ho ?hcd ?hroom ?hb ?hk ?hck ?_ ?h1 ?h2 ?h3)
  (case st => first | with_reducible assumption | exact (Fn.st (by with_reducible assumption)).at rfl); (case ho => k_is); (case hcd => k_is)
  (case hroom => exact Room.depth (by assumption)); (case hb => first | exact BindsTo.of_eq rfl | exact binds_K (St.kin' (by assumption)) rfl (by k_is) rfl rfl rfl)
  (case hk => exact rfl); (case hck => exact rfl); (case h1 => exact rfl); (case h2 => exact rfl); (case h3 => exact rfl)
  intro L1 s1 hk1 f
  have hR' := fun env => hR.deeper (n := 5) env
  walk_at "mzr"
  refine' comp1_name (C := C) ?fv ?_
  case fv => exact Fn.at f (by exact rfl)
  walk_at "mzr"
  refine list_itS (vs := vs) (Fn.st (Fn.at f (by exact rfl))) (hR' _).2.2 hL fun I g₂ s₂ it => ?_
  refine ⟨I, g₂, vs.length, _, fun i ys _ => IntsAre ys ((ns.take i).map fun c => (2 - c).fmod 8380417), rfl, it.same_l (by exact rfl), by rw [hlen]; decide, .nil, (fun i ys ga gb _ h => by dsimp only at h ⊢; exact h), ?_, ?_⟩
  · intro Cc i v gk sk se ys E' hi' hP fe sube hlen' hO
    obtain ⟨c, tn, rfl, hin⟩ := intsAre_at hi hP
    have subk : Sub g gk := fun b o e => sube b o (it.gr.up b o e)
    have hf2 := hf.up subk
    have hp2 := hp.up subk
    have key : ∀ t, IntsAre (ys ++ [.int ((2 - c).fmod 8380417) t]) ((ns.take (i + 1)).map fun c => (2 - c).fmod 8380417) := by
      intro t
      rw [take_snoc hin, List.map_append]
      exact intsAre_snoc hO
    walk_at "mzr"
    refine sp_submod (p := p) (Fn.st (Fn.at fe (by exact rfl))) ((hR' _).less (by decide)) hf2 hp2 fun t6 s6 gr6 => ?_
    exact ⟨gk, Gr.same_l gr6 (by exact rfl), key _⟩
  · intro D2 ys g' s' fd subd hpl hlen' hO
    have hf3 := hf.up subd
    have hi2 : IntsAre ys (ns.map fun c => (2 - c).fmod 8380417) := by
      have : ns.take vs.length = ns := by rw [hlen, ← hl, List.take_length]
      have hO' : IntsAre ys ((ns.take vs.length).map fun c => (2 - c).fmod 8380417) := hO
      rwa [this] at hO'
    walk_at "mzr"
    refine sp_bitpack (n := 3) (nb := 96) (cs := (ns.map fun c => (2 - c).fmod 8380417)) (Fn.st (Fn.at (by with_reducible assumption) (by exact rfl))) ((hR' _).less (by decide)) (PlainList.toIs hpl) hi2 hc (by decide) (by rw [List.length_map, hl]; decide) (by rw [List.length_map, hl]) fun b t g4 s4 gr4 hb => ?_
    have f4 := Fn.gr (Fn.at (by with_reducible assumption) (by exact rfl)) gr4
    walk_at "mzr"
    exact h _ _ _ _ f4.done hb

theorem sp_pack_s4 {A : Around} {g : Heap} {s : Shared} {y p : Addr} {ns : List Int} {u : Tok} {Q : Value → Shared → Prop} {E : Value → Shared → Prop} (st : St C (Mine.hd.K C.w.params) g s) (hR : Room A 6) (hy : PolyAt g y p ns) (hp : RingAt g p)
    (hl : ns.length = 256) (hc : ∀ c ∈ (ns.map fun c => (4 - c).fmod 8380417), 0 ≤ c ∧ c < 2 ^ 4)
    (h : ∀ b t g' s', Gr C g s g' s' → KBw.bInts b = digits 256 128 (dig (2 ^ 4) (ns.map fun c => (4 - c).fmod 8380417)) → Q (.bytes b t) s') : wpAny C.M A (call (.ref 478) [.ref y, .int 4 u]) Q E s := by
  obtain ⟨l, vs, hf, hL, hi⟩ := hy
  have hlen : vs.length = 256 := by rw [hi.length]; exact hl
  (refine' call_fn (binds := [("self", .ref y), ("eta", .int 4 u)]) ?st ?ho ?hcd ?hroom ?hb ?hk ?hck ?_ ?h1 ?h2 ?h3)
  (case st => first | with_reducible assumption | exact (Fn.st (by with_reducible assumption)).at rfl); (case ho => k_is); (case hcd => k_is)
  (case hroom => exact Room.depth (by assumption)); (case hb => first | exact BindsTo.of_eq rfl | exact binds_K (St.kin' (by assumption)) rfl (by k_is) rfl rfl rfl)
  (case hk => exact rfl); (case hck => exact rfl); (case h1 => exact rfl); (case h2 => exact rfl); (case h3 => exact rfl)
  intro L1 s1 hk1 f
  have hR' := fun env => hR.deeper (n := 5) env
  walk_at "mzr"
  refine' comp1_name (C := C) ?fv ?_
  case fv => exact Fn.at f (by exact rfl)
  walk_at "mzr"
  refine list_itS (vs := vs) (Fn.st (Fn.at f (by exact rfl))) (hR' _).2.2 hL fun I g₂ s₂ it => ?_
  refine ⟨I, g₂, vs.length, _, fun i ys _ => IntsAre ys ((ns.take i).map fun c => (4 - c).fmod 8380417), rfl, it.same_l (by exact rfl), by rw [hlen]; decide, .nil, (fun i ys ga gb _ h => by dsimp only at h ⊢; exact h), ?_, ?_⟩
  · intro Cc i v gk sk se ys E' hi' hP fe sube hlen' hO
    obtain ⟨c, tn, rfl, hin⟩ := intsAre_at hi hP
    have subk : Sub g gk := fun b o e => sube b o (it.gr.up b o e)
    have hf2 := hf.up subk
    have hp2 := hp.up subk
    have key : ∀ t, IntsAre (ys ++ [.int ((4 - c).fmod 8380417) t]) ((ns.take (i + 1)).map fun c => (4 - c).fmod 8380417) := by
      intro t
      rw [take_snoc hin, List.map_append]
      exact intsAre_snoc hO
    walk_at "mzr"
    refine sp_submod (p := p) (Fn.st (Fn.at fe (by exact rfl))) ((hR' _).less (by decide)) hf2 hp2 fun t6 s6 gr6 => ?_
    exact ⟨gk, Gr.same_l gr6 (by exact rfl), key _⟩
  · intro D2 ys g' s' fd subd hpl hlen' hO
    have hf3 := hf.up subd
    have hi2 : IntsAre ys (ns.map fun c => (4 - c).fmod 8380417) := by
      have : ns.take vs.length = ns := by rw [hlen, ← hl, List.take_length]
      have hO' : IntsAre ys ((ns.take vs.length).map fun c => (4 - c).fmod 8380417) := hO
      rwa [this] at hO'
    walk_at "mzr"
    refine sp_bitpack (n := 4) (nb := 128) (cs := (ns.map fun c => (4 - c).fmod 8380417)) (Fn.st (Fn.at (by with_reducible assumption) (by exact rfl))) ((hR' _).less (by decide)) (PlainList.toIs hpl) hi2 hc (by decide) (by rw [List.length_map, hl]; decide) (by rw [List.length_map, hl]) fun b t g4 s4 gr4 hb => ?_
    have f4 := Fn.gr (Fn.at (by with_reducible assumption) (by exact rfl)) gr4
    walk_at "mzr"
    exact h _ _ _ _ f4.done hb

theorem sp_pack_w6 {A : Around} {g : Heap} {s : Shared} {y p : Addr} {ns : List Int} {u : Tok} {Q : Value → Shared → Prop} {E : Value → Shared → Prop} (st : St C (Mine.hd.K C.w.params) g s) (hR : Room A 6) (hy : PolyAt g y p ns) (hp : RingAt g p)
    (hl : ns.length = 256) (hc : ∀ c ∈ (ns), 0 ≤ c ∧ c < 2 ^ 6)
    (h : ∀ b t g' s', Gr C g s g' s' → KBw.bInts b = digits 256 192 (dig (2 ^ 6) (ns)) → Q (.bytes b t) s') : wpAny C.M A (call (.ref 485) [.ref y, .int 95232 u]) Q E s := by
  obtain ⟨l, vs, hf, hL, hi⟩ := hy
  have hlen : vs.length = 256 := by rw [hi.length]; exact hl
  (refine' call_fn (binds := [("self", .ref y), ("gamma_2", .int 95232 u)]) ?st ?ho ?hcd ?hroom ?hb ?hk ?hck ?_ ?h1 ?h2 ?h3)
  (case st => first | with_reducible assumption | exact (Fn.st (by with_reducible assumption)).at rfl); (case ho => k_is); (case hcd => k_is)
  (case hroom => exact Room.depth (by assumption)); (case hb => first | exact BindsTo.of_eq rfl | exact binds_K (St.kin' (by assumption)) rfl (by k_is) rfl rfl rfl)
  (case hk => exact rfl); (case hck => exact rfl); (case h1 => exact rfl); (case h2 => exact rfl); (case h3 => exact rfl)
  intro L1 s1 hk1 f
  have hR' := fun env => hR.deeper (n := 5) env
  walk_at "mzr"
  refine sp_bitpack (n := 6) (nb := 192) (cs := ns) (Fn.st (Fn.at f (by exact rfl))) ((hR' _).less (by decide)) hL hi hc (by decide) (by rw [hl]; decide) (by rw [hl]) fun b t g4 s4 gr4 hb => ?_
  have f4 := Fn.gr (Fn.at f (by exact rfl)) gr4
  walk_at "mzr"
  exact h _ _ _ _ f4.done hb

theorem sp_pack_w4 {A : Around} {g : Heap} {s : Shared} {y p : Addr} {ns : List Int} {u : Tok} {Q : Value → Shared → Prop} {E : Value → Shared → Prop} (st : St C (Mine.hd.K C.w.params) g s) (hR : Room A 6) (hy : PolyAt g y p ns) (hp : RingAt g p)
    (hl : ns.length = 256) (hc : ∀ c ∈ (ns), 0 ≤ c ∧ c < 2 ^ 4)
    (h : ∀ b t g' s', Gr C g s g' s' → KBw.bInts b = digits 256 128 (dig (2 ^ 4) (ns)) → Q (.bytes b t) s') : wpAny C.M A (call (.ref 485) [.ref y, .int 261888 u]) Q E s := by
  obtain ⟨l, vs, hf, hL, hi⟩ := hy
  have hlen : vs.length = 256 := by rw [hi.length]; exact hl
  (refine' call_fn (binds := [("self", .ref y), ("gamma_2", .int 261888 u)]) ?st ?ho ?hcd ?hroom ?hb ?hk ?hck ?_ ?h1 ?h2 ?h3)
  (case st => first | with_reducible assumption | exact (Fn.st (by with_reducible assumption)).at rfl); (case ho => k_is); (case hcd => k_is)
  (case hroom => exact Room.depth (by assumption)); (case hb => first | exact BindsTo.of_eq rfl | exact binds_K (St.kin' (by assumption)) rfl (by k_is) rfl rfl rfl)
  (case hk => exact rfl); (case hck => exact rfl); (case h1 => exact rfl); (case h2 => exact rfl); (case h3 => exact rfl)
  intro L1 s1 hk1 f
  have hR' := fun env => hR.deeper (n := 5) env
  walk_at "mzr"
  refine sp_bitpack (n := 4) (nb := 128) (cs := ns) (Fn.st (Fn.at f (by exact rfl))) ((hR' _).less (by decide)) hL hi hc (by decide) (by rw [hl]; decide) (by rw [hl]) fun b t g4 s4 gr4 hb => ?_
  have f4 := Fn.gr (Fn.at f (by exact rfl)) gr4
  walk_at "mzr"
  exact h _ _ _ _ f4.done hb

theorem sp_pack_z17 {A : Around} {g : Heap} {s : Shared} {y p : Addr} {ns : List Int} {u : Tok} {Q : Value → Shared → Prop} {E : Value → Shared → Prop} (st : St C (Mine.hd.K C.w.params) g s) (hR : Room A 6) (hy : PolyAt g y p ns) (hp : RingAt g p)
    (hl : ns.length = 256) (hc : ∀ c ∈ (ns.map fun c => (131072 - c).fmod 8380417), 0 ≤ c ∧ c < 2 ^ 18)
    (h : ∀ b t g' s', Gr C g s g' s' → KBw.bInts b = digits 256 576 (dig (2 ^ 18) (ns.map fun c => (131072 - c).fmod 8380417)) → Q (.bytes b t) s') : wpAny C.M A (call (.ref 490) [.ref y, .int 131072 u]) Q E s := by
  obtain ⟨l, vs, hf, hL, hi⟩ := hy
  have hlen : vs.length = 256 := by rw [hi.length]; exact hl
  (refine' call_fn (binds := [("self", .ref y), ("gamma_1", .int 131072 u)]) ?st ?ho ?hcd ?hroom ?hb ?hk ?hck ?_ ?h1 ?h2 ?h3)
  (case st => first | with_reducible assumption | exact (Fn.st (by with_reducible assumption)).at rfl); (case ho => k_is); (case hcd => k_is)
  (case hroom => exact Room.depth (by assumption)); (case hb => first | exact BindsTo.of_eq rfl | exact binds_K (St.kin' (by assumption)) rfl (by k_is) rfl rfl rfl)
  (case hk => exact rfl); (case hck => exact rfl); (case h1 => exact rfl); (case h2 => exact rfl); (case h3 => exact rfl)
  intro L1 s1 hk1 f
  have hR' := fun env => hR.deeper (n := 5) env
  walk_at "mzr"
  refine' comp1_name (C := C) ?fv ?_
  case fv => exact Fn.at f (by exact rfl)
  walk_at "mzr"
  refine list_itS (vs := vs) (Fn.st (Fn.at f (by exact rfl))) (hR' _).2.2 hL fun I g₂ s₂ it => ?_
  refine ⟨I, g₂, vs.length, _, fun i ys _ => IntsAre ys ((ns.take i).map fun c => (131072 - c).fmod 8380417), rfl, it.same_l (by exact rfl), by rw [hlen]; decide, .nil, (fun i ys ga gb _ h => by dsimp only at h ⊢; exact h), ?_, ?_⟩
  · intro Cc i v gk sk se ys E' hi' hP fe sube hlen' hO
    obtain ⟨c, tn, rfl, hin⟩ := intsAre_at hi hP
    have subk : Sub g gk := fun b o e => sube b o (it.gr.up b o e)
    have hf2 := hf.up subk
    have hp2 := hp.up subk
    have key : ∀ t, IntsAre (ys ++ [.int ((131072 - c).fmod 8380417) t]) ((ns.take (i + 1)).map fun c => (131072 - c).fmod 8380417) := by
      intro t
      rw [take_snoc hin, List.map_append]
      exact intsAre_snoc hO
    walk_at "mzr"
    refine sp_submod (p := p) (Fn.st (Fn.at fe (by exact rfl))) ((hR' _).less (by decide)) hf2 hp2 fun t6 s6 gr6 => ?_
    exact ⟨gk, Gr.same_l gr6 (by exact rfl), key _⟩
  · intro D2 ys g' s' fd subd hpl hlen' hO
    have hf3 := hf.up subd
    have hi2 : IntsAre ys (ns.map fun c => (131072 - c).fmod 8380417) := by
      have : ns.take vs.length = ns := by rw [hlen, ← hl, List.take_length]
      have hO' : IntsAre ys ((ns.take vs.length).map fun c => (131072 - c).fmod 8380417) := hO
      rwa [this] at hO'
    walk_at "mzr"
    refine O.shl_ (by decide) (by decide) ?_
    walk_at "mzr"
    refine sp_bitpack (n := 18) (nb := 576) (cs := (ns.map fun c => (131072 - c).fmod 8380417)) (Fn.st (Fn.at (by with_reducible assumption) (by exact rfl))) ((hR' _).less (by decide)) (PlainList.toIs hpl) hi2 hc (by decide) (by rw [List.length_map, hl]; decide) (by rw [List.length_map, hl]) fun b t g4 s4 gr4 hb => ?_
    have f4 := Fn.gr (Fn.at (by with_reducible assumption) (by exact rfl)) gr4
    walk_at "mzr"
    exact h _ _ _ _ f4.done hb

theorem sp_pack_z19 {A : Around} {g : Heap} {s : Shared} {y p : Addr} {ns : List Int} {u : Tok} {Q : Value → Shared → Prop} {E : Value → Shared → Prop} (st : St C (Mine.hd.K C.w.params) g s) (hR : Room A 6) (hy : PolyAt g y p ns) (hp : RingAt g p)
    (hl : ns.length = 256) (hc : ∀ c ∈ (ns.map fun c => (524288 - c).fmod 8380417), 0 ≤ c ∧ c < 2 ^ 20)
    (h : ∀ b t g' s', Gr C g s g' s' → KBw.bInts b = digits 256 640 (dig (2 ^ 20) (ns.map fun c => (524288 - c).fmod 8380417)) → Q (.bytes b t) s') : wpAny C.M A (call (.ref 490) [.ref y, .int 524288 u]) Q E s := by
  obtain ⟨l, vs, hf, hL, hi⟩ := hy
  have hlen : vs.length = 256 := by rw [hi.length]; exact hl
  (refine' call_fn (binds := [("self", .ref y), ("gamma_1", .int 524288 u)]) ?st ?ho ?hcd ?hroom ?hb ?hk ?hck ?_ ?h1 ?h2 ?h3)
  (case st => first | with_reducible assumption | exact (Fn.st (by with_reducible assumption)).at rfl); (case ho => k_is); (case hcd => k_is)
  (case hroom => exact Room.depth (by assumption)); (case hb => first | exact BindsTo.of_eq rfl | exact binds_K (St.kin' (by assumption)) rfl (by k_is) rfl rfl rfl)
  (case hk => exact rfl); (case hck => exact rfl); (case h1 => exact rfl); (case h2 => exact rfl); (case h3 => exact rfl)
  intro L1 s1 hk1 f
  have hR' := fun env => hR.deeper (n := 5) env
  walk_at "mzr"
  refine' comp1_name (C := C) ?fv ?_
  case fv => exact Fn.at f (by exact rfl)
  walk_at "mzr"
  refine list_itS (vs := vs) (Fn.st (Fn.at f (by exact rfl))) (hR' _).2.2 hL fun I g₂ s₂ it => ?_
  refine ⟨I, g₂, vs.length, _, fun i ys _ => IntsAre ys ((ns.take i).map fun c => (524288 - c).fmod 8380417), rfl, it.same_l (by exact rfl), by rw [hlen]; decide, .nil, (fun i ys ga gb _ h => by dsimp only at h ⊢; exact h), ?_, ?_⟩
  · intro Cc i v gk sk se ys E' hi' hP fe sube hlen' hO
    obtain ⟨c, tn, rfl, hin⟩ := intsAre_at hi hP
    have subk : Sub g gk := fun b o e => sube b o (it.gr.up b o e)
    have hf2 := hf.up subk
    have hp2 := hp.up subk
    have key : ∀ t, IntsAre (ys ++ [.int ((524288 - c).fmod 8380417) t]) ((ns.take (i + 1)).map fun c => (524288 - c).fmod 8380417) := by
      intro t
      rw [take_snoc hin, List.map_append]
      exact intsAre_snoc hO
    walk_at "mzr"
    refine sp_submod (p := p) (Fn.st (Fn.at fe (by exact rfl))) ((hR' _).less (by decide)) hf2 hp2 fun t6 s6 gr6 => ?_
    exact ⟨gk, Gr.same_l gr6 (by exact rfl), key _⟩
  · intro D2 ys g' s' fd subd hpl hlen' hO
    have hf3 := hf.up subd
    have hi2 : IntsAre ys (ns.map fun c => (524288 - c).fmod 8380417) := by
      have : ns.take vs.length = ns := by rw [hlen, ← hl, List.take_length]
      have hO' : IntsAre ys ((ns.take vs.length).map fun c => (524288 - c).fmod 8380417) := hO
      rwa [this] at hO'
    walk_at "mzr"
    refine O.shl_ (by decide) (by decide) ?_
    walk_at "mzr"
    refine O.shl_ (by decide) (by decide) ?_
    walk_at "mzr"
    refine sp_bitpack (n := 20) (nb := 640) (cs := (ns.map fun c => (524288 - c).fmod 8380417)) (Fn.st (Fn.at (by with_reducible assumption) (by exact rfl))) ((hR' _).less (by decide)) (PlainList.toIs hpl) hi2 hc (by decide) (by rw [List.length_map, hl]; decide) (by rw [List.length_map, hl]) fun b t g4 s4 gr4 hb => ?_
    have f4 := Fn.gr (Fn.at (by with_reducible assumption) (by exact rfl)) gr4
    walk_at "mzr"
    exact h _ _ _ _ f4.done hb

/-- vector.dim() -/
theorem sp_dim {A : Around} {g : Heap} {s : Shared} {y m : Addr} {es : List Addr} {Q : Value → Shared → Prop} {E : Value → Shared → Prop} (st : St C (Mine.hd.K C.w.params) g s) (hR : Room A 3) (hy : VecAt g y m es) (hz : es.length < 1000)
    (h : ∀ T t1 t2 g' s', Gr C g s g' s' → IsTup g' T #[.int es.length t1, .int 1 t2] → Q (.ref T) s') : wpAny C.M A (call (.ref 607) [.ref y]) Q E s := by
  obtain ⟨D, row, hf, hD, hr⟩ := hy
  (refine' call_fn (binds := [("self", .ref y)]) ?st ?ho ?hcd ?hroom ?hb ?hk ?hck ?_ ?h1 ?h2 ?h3)
  (case st => first | with_reducible assumption | exact (Fn.st (by with_reducible assumption)).at rfl); (case ho => k_is); (case hcd => k_is)
  (case hroom => exact Room.depth (by assumption)); (case hb => first | exact BindsTo.of_eq rfl | exact binds_K (St.kin' (by assumption)) rfl (by k_is) rfl rfl rfl)
  (case hk => exact rfl); (case hck => exact rfl); (case h1 => exact rfl); (case h2 => exact rfl); (case h3 => exact rfl)
  intro L1 s1 hk1 f
  walk_at "mzr"
  refine baseT ?_
  refine' itemF (x := .ref row) f ?hS hD ?h0 ?hfit ?hx ?_ ?hs ?hg
  case hS => exact rfl
  case h0 => decide
  case hfit => decide
  case hx => rfl
  case hs => with_unfolding_all rfl
  case hg => intro _; with_unfolding_all rfl
  walk_at "mzr"
  refine lenF f (by exact rfl) hr (by simp; omega) ?_
  walk_at "mzr"
  refine lenF (vs := [Value.ref row]) f (by exact rfl) hD (by show 1 < 2 ^ 62; decide) ?_
  walk_at "mzr"
  refine newTupleF f (by exact rfl) (by show 2 ≤ sizeLine; decide) fun T g2 s2 f2 gr2 up2 hT => ?_
  walk_at "mzr"
  rw [List.length_map] at hT
  exact h T _ _ _ _ f2.done hT

/-- vector[i, 0] -/
theorem sp_getitem {A : Around} {g : Heap} {s : Shared} {y m e T : Addr} {i : Nat} {t1 t2 : Tok} {es : List Addr} {Q : Value → Shared → Prop} {E : Value → Shared → Prop} (st : St C (Mine.hd.K C.w.params) g s) (hR : Room A 3) (hy : VecAt g y m es) (hz : es.length < 1000)
    (hT : IsTup g T #[.int i t1, .int 0 t2]) (he : es[i]? = some e)
    (h : ∀ g' s', Gr C g s g' s' → Q (.ref e) s') : wpAny C.M A (call (.ref 636) [.ref y, .ref T]) Q E s := by
  obtain ⟨D, row, hf, hD, hr⟩ := hy
  (refine' call_fn (binds := [("self", .ref y), ("idx", .ref T)]) ?st ?ho ?hcd ?hroom ?hb ?hk ?hck ?_ ?h1 ?h2 ?h3)
  (case st => first | with_reducible assumption | exact (Fn.st (by with_reducible assumption)).at rfl); (case ho => k_is); (case hcd => k_is)
  (case hroom => exact Room.depth (by assumption)); (case hb => first | exact BindsTo.of_eq rfl | exact binds_K (St.kin' (by assumption)) rfl (by k_is) rfl rfl rfl)
  (case hk => exact rfl); (case hck => exact rfl); (case h1 => exact rfl); (case h2 => exact rfl); (case h3 => exact rfl)
  intro L1 s1 hk1 f
  walk_at "mzr"
  refine isiTup f (by exact rfl) hT (by first | rfl | kit_is) fun tk1 => ?_
  walk_at "mzr"
  refine lenTupF f (by exact rfl) hT (by show (2 : Int) < 2 ^ 63; decide) ?_
  walk_at "mzr"
  refine itemTupF (x := .int 0 t2) f (by exact rfl) hT (by decide) ⟨by show (1 : Int) < 2; decide, by show (2 : Int) < 2 ^ 60; decide⟩ rfl ?_ (by with_unfolding_all rfl)
  walk_at "mzr"
  refine baseT ?_
  refine itemF (vs := [Value.ref row]) (x := .ref row) f (by exact rfl) hD (by decide) (by decide) rfl ?_ (by with_unfolding_all rfl) (by intro _; with_unfolding_all rfl)
  walk_at "mzr"
  refine itemTupF (x := .int i t1) f (by exact rfl) hT (by decide) ⟨by show (0 : Int) < 2; decide, by show (2 : Int) < 2 ^ 60; decide⟩ rfl ?_ (by with_unfolding_all rfl)
  refine baseT ?_
  have hi : i < es.length := (List.getElem?_eq_some_iff.mp he).1
  refine itemF (vs := es.map Value.ref) (x := .ref e) f (by exact rfl) hr (by omega) (by omega) (by rw [Int.toNat_natCast, List.getElem?_map, he]; rfl) ?_ (by with_unfolding_all rfl) (by intro _; with_unfolding_all rfl)
  walk_at "mzr"
  exact h _ _ (Fn.done (Fn.at f (by exact rfl)))

theorem sp_read_0 {A : Around} {g : Heap} {s : Shared} {m p : Addr} {b : Array UInt8} {k : Nat} {t0 t1 t2 t3 : Tok} {Q : Value → Shared → Prop} {E : Value → Shared → Prop} (hP : C.prog = PySem.Challenge.pw_bn0016_01) (st : St C (Mine.hd.K C.w.params) g s) (hR : Room A 17) (hm : ModAt g m p)
    (hk : k = 1 ∨ k = 2) (hb : b.size = 320 * k)
    (h : ∀ y g' s', Gr C g s g' s' → VecOf g' y m p k (fun j => (unpL (((KBw.bInts b).drop (320 * j)).take 320) 10)) → Q (.ref y) s') : wpAny C.M A (call (.ref 977) [.int 0 t0, .ref m, .bytes b t1, .int k t2, .int 0 t3]) Q E s := by
  have hm0 := hm.1
  (refine' call_fn (binds := [("kind", .int 0 t0), ("module", .ref m), ("octets", .bytes b t1), ("k", .int k t2), ("off", .int 0 t3)]) ?st ?ho ?hcd ?hroom ?hb ?hk ?hck ?_ ?h1 ?h2 ?h3)
  (case st => first | with_reducible assumption | exact (Fn.st (by with_reducible assumption)).at rfl); (case ho => k_is); (case hcd => k_is)
  (case hroom => exact Room.depth (by assumption)); (case hb => first | exact BindsTo.of_eq rfl | exact binds_K (St.kin' (by assumption)) rfl (by k_is) rfl rfl rfl)
  (case hk => exact rfl); (case hck => exact rfl); (case h1 => exact rfl); (case h2 => exact rfl); (case h3 => exact rfl)
  intro L1 s1 hk1 f
  have hR' := fun env => hR.deeper (n := 16) env
  walk_at "mzr"
  refine sp_munpack_t1 (u := 0) hP (Fn.st (Fn.at f (by exact rfl))) ((hR' _).less (by decide)) hm hk hb fun y g2 s2 gr2 hy => ?_
  have f2 := Fn.gr (Fn.at f (by exact rfl)) gr2
  walk_at "mzr"
  exact h _ _ _ f2.done hy

theorem sp_read_1 {A : Around} {g : Heap} {s : Shared} {m p : Addr} {b : Array UInt8} {k : Nat} {t0 t1 t2 t3 : Tok} {Q : Value → Shared → Prop} {E : Value → Shared → Prop} (hP : C.prog = PySem.Challenge.pw_bn0016_01) (st : St C (Mine.hd.K C.w.params) g s) (hR : Room A 17) (hm : ModAt g m p)
    (hk : k = 1 ∨ k = 2) (hb : b.size = 416 * k)
    (h : ∀ y g' s', Gr C g s g' s' → VecOf g' y m p k (fun j => (unpL (((KBw.bInts b).drop (416 * j)).take 416) 13).map fun c => 1 * 2 ^ (12 : Int).toNat - c) → Q (.ref y) s') : wpAny C.M A (call (.ref 977) [.int 1 t0, .ref m, .bytes b t1, .int k t2, .int 0 t3]) Q E s := by
  have hm0 := hm.1
  (refine' call_fn (binds := [("kind", .int 1 t0), ("module", .ref m), ("octets", .bytes b t1), ("k", .int k t2), ("off", .int 0 t3)]) ?st ?ho ?hcd ?hroom ?hb ?hk ?hck ?_ ?h1 ?h2 ?h3)
  (case st => first | with_reducible assumption | exact (Fn.st (by with_reducible assumption)).at rfl); (case ho => k_is); (case hcd => k_is)
  (case hroom => exact Room.depth (by assumption)); (case hb => first | exact BindsTo.of_eq rfl | exact binds_K (St.kin' (by assumption)) rfl (by k_is) rfl rfl rfl)
  (case hk => exact rfl); (case hck => exact rfl); (case h1 => exact rfl); (case h2 => exact rfl); (case h3 => exact rfl)
  intro L1 s1 hk1 f
  have hR' := fun env => hR.deeper (n := 16) env
  walk_at "mzr"
  refine sp_munpack_t0 (u := 0) hP (Fn.st (Fn.at f (by exact rfl))) ((hR' _).less (by decide)) hm hk hb fun y g2 s2 gr2 hy => ?_
  have f2 := Fn.gr (Fn.at f (by exact rfl)) gr2
  walk_at "mzr"
  exact h _ _ _ f2.done hy

theorem sp_read_2 {A : Around} {g : Heap} {s : Shared} {m p : Addr} {b : Array UInt8} {k : Nat} {t0 t1 t2 t3 : Tok} {Q : Value → Shared → Prop} {E : Value → Shared → Prop} (hP : C.prog = PySem.Challenge.pw_bn0016_01) (st : St C (Mine.hd.K C.w.params) g s) (hR : Room A 17) (hm : ModAt g m p)
    (hk : k = 1 ∨ k = 2) (hb : b.size = 96 * k)
    (h : ∀ y g' s', Gr C g s g' s' → VecOf g' y m p k (fun j => (unpL (((KBw.bInts b).drop (96 * j)).take 96) 3).map fun c => 2 - c) → Q (.ref y) s') : wpAny C.M A (call (.ref 977) [.int 2 t0, .ref m, .bytes b t1, .int k t2, .int 0 t3]) Q E s := by
  have hm0 := hm.1
  (refine' call_fn (binds := [("kind", .int 2 t0), ("module", .ref m), ("octets", .bytes b t1), ("k", .int k t2), ("off", .int 0 t3)]) ?st ?ho ?hcd ?hroom ?hb ?hk ?hck ?_ ?h1 ?h2 ?h3)
  (case st => first | with_reducible assumption | exact (Fn.st (by with_reducible assumption)).at rfl); (case ho => k_is); (case hcd => k_is)
  (case hroom => exact Room.depth (by assumption)); (case hb => first | exact BindsTo.of_eq rfl | exact binds_K (St.kin' (by assumption)) rfl (by k_is) rfl rfl rfl)
  (case hk => exact rfl); (case hck => exact rfl); (case h1 => exact rfl); (case h2 => exact rfl); (case h3 => exact rfl)
  intro L1 s1 hk1 f
  have hR' := fun env => hR.deeper (n := 16) env
  walk_at "mzr"
  refine sp_munpack_s2 (u := _) hP (Fn.st (Fn.at f (by exact rfl))) ((hR' _).less (by decide)) hm hk hb fun y g2 s2 gr2 hy => ?_
  have f2 := Fn.gr (Fn.at f (by exact rfl)) gr2
  walk_at "mzr"
  exact h _ _ _ f2.done hy

theorem sp_read_3 {A : Around} {g : Heap} {s : Shared} {m p : Addr} {b : Array UInt8} {k : Nat} {t0 t1 t2 t3 : Tok} {Q : Value → Shared → Prop} {E : Value → Shared → Prop} (hP : C.prog = PySem.Challenge.pw_bn0016_01) (st : St C (Mine.hd.K C.w.params) g s) (hR : Room A 17) (hm : ModAt g m p)
    (hk : k = 1 ∨ k = 2) (hb : b.size = 128 * k)
    (h : ∀ y g' s', Gr C g s g' s' → VecOf g' y m p k (fun j => (unpL (((KBw.bInts b).drop (128 * j)).take 128) 4).map fun c => 4 - c) → Q (.ref y) s') : wpAny C.M A (call (.ref 977) [.int 3 t0, .ref m, .bytes b t1, .int k t2, .int 0 t3]) Q E s := by
  have hm0 := hm.1
  (refine' call_fn (binds := [("kind", .int 3 t0), ("module", .ref m), ("octets", .bytes b t1), ("k", .int k t2), ("off", .int 0 t3)]) ?st ?ho ?hcd ?hroom ?hb ?hk ?hck ?_ ?h1 ?h2 ?h3)
  (case st => first | with_reducible assumption | exact (Fn.st (by with_reducible assumption)).at rfl); (case ho => k_is); (case hcd => k_is)
  (case hroom => exact Room.depth (by assumption)); (case hb => first | exact BindsTo.of_eq rfl | exact binds_K (St.kin' (by assumption)) rfl (by k_is) rfl rfl rfl)
  (case hk => exact rfl); (case hck => exact rfl); (case h1 => exact rfl); (case h2 => exact rfl); (case h3 => exact rfl)
  intro L1 s1 hk1 f
  have hR' := fun env => hR.deeper (n := 16) env
  walk_at "mzr"
  refine sp_munpack_s4 (u := _) hP (Fn.st (Fn.at f (by exact rfl))) ((hR' _).less (by decide)) hm hk hb fun y g2 s2 gr2 hy => ?_
  have f2 := Fn.gr (Fn.at f (by exact rfl)) gr2
  walk_at "mzr"
  exact h _ _ _ f2.done hy

theorem sp_read_4 {A : Around} {g : Heap} {s : Shared} {m p : Addr} {b : Array UInt8} {k : Nat} {t0 t1 t2 t3 : Tok} {Q : Value → Shared → Prop} {E : Value → Shared → Prop} (hP : C.prog = PySem.Challenge.pw_bn0016_01) (st : St C (Mine.hd.K C.w.params) g s) (hR : Room A 17) (hm : ModAt g m p)
    (hk : k = 1 ∨ k = 2) (hb : b.size = 192 * k)
    (h : ∀ y g' s', Gr C g s g' s' → VecOf g' y m p k (fun j => (unpL (((KBw.bInts b).drop (192 * j)).take 192) 6)) → Q (.ref y) s') : wpAny C.M A (call (.ref 977) [.int 4 t0, .ref m, .bytes b t1, .int k t2, .int 0 t3]) Q E s := by
  have hm0 := hm.1
  (refine' call_fn (binds := [("kind", .int 4 t0), ("module", .ref m), ("octets", .bytes b t1), ("k", .int k t2), ("off", .int 0 t3)]) ?st ?ho ?hcd ?hroom ?hb ?hk ?hck ?_ ?h1 ?h2 ?h3)
  (case st => first | with_reducible assumption | exact (Fn.st (by with_reducible assumption)).at rfl); (case ho => k_is); (case hcd => k_is)
  (case hroom => exact Room.depth (by assumption)); (case hb => first | exact BindsTo.of_eq rfl | exact binds_K (St.kin' (by assumption)) rfl (by k_is) rfl rfl rfl)
  (case hk => exact rfl); (case hck => exact rfl); (case h1 => exact rfl); (case h2 => exact rfl); (case h3 => exact rfl)
  intro L1 s1 hk1 f
  have hR' := fun env => hR.deeper (n := 16) env
  walk_at "mzr"
  refine sp_munpack_w6 (u := _) hP (Fn.st (Fn.at f (by exact rfl))) ((hR' _).less (by decide)) hm hk hb fun y g2 s2 gr2 hy => ?_
  have f2 := Fn.gr (Fn.at f (by exact rfl)) gr2
  walk_at "mzr"
  exact h _ _ _ f2.done hy

theorem sp_read_5 {A : Around} {g : Heap} {s : Shared} {m p : Addr} {b : Array UInt8} {k : Nat} {t0 t1 t2 t3 : Tok} {Q : Value → Shared → Prop} {E : Value → Shared → Prop} (hP : C.prog = PySem.Challenge.pw_bn0016_01) (st : St C (Mine.hd.K C.w.params) g s) (hR : Room A 17) (hm : ModAt g m p)
    (hk : k = 1 ∨ k = 2) (hb : b.size = 128 * k)
    (h : ∀ y g' s', Gr C g s g' s' → VecOf g' y m p k (fun j => (unpL (((KBw.bInts b).drop (128 * j)).take 128) 4)) → Q (.ref y) s') : wpAny C.M A (call (.ref 977) [.int 5 t0, .ref m, .bytes b t1, .int k t2, .int 0 t3]) Q E s := by
  have hm0 := hm.1
  (refine' call_fn (binds := [("kind", .int 5 t0), ("module", .ref m), ("octets", .bytes b t1), ("k", .int k t2), ("off", .int 0 t3)]) ?st ?ho ?hcd ?hroom ?hb ?hk ?hck ?_ ?h1 ?h2 ?h3)
  (case st => first | with_reducible assumption | exact (Fn.st (by with_reducible assumption)).at rfl); (case ho => k_is); (case hcd => k_is)
  (case hroom => exact Room.depth (by assumption)); (case hb => first | exact BindsTo.of_eq rfl | exact binds_K (St.kin' (by assumption)) rfl (by k_is) rfl rfl rfl)
  (case hk => exact rfl); (case hck => exact rfl); (case h1 => exact rfl); (case h2 => exact rfl); (case h3 => exact rfl)
  intro L1 s1 hk1 f
  have hR' := fun env => hR.deeper (n := 16) env
  walk_at "mzr"
  refine sp_munpack_w4 (u := _) hP (Fn.st (Fn.at f (by exact rfl))) ((hR' _).less (by decide)) hm hk hb fun y g2 s2 gr2 hy => ?_
  have f2 := Fn.gr (Fn.at f (by exact rfl)) gr2
  walk_at "mzr"
  exact h _ _ _ f2.done hy

theorem sp_read_6 {A : Around} {g : Heap} {s : Shared} {m p : Addr} {b : Array UInt8} {k : Nat} {t0 t1 t2 t3 : Tok} {Q : Value → Shared → Prop} {E : Value → Shared → Prop} (hP : C.prog = PySem.Challenge.pw_bn0016_01) (st : St C (Mine.hd.K C.w.params) g s) (hR : Room A 17) (hm : ModAt g m p)
    (hk : k = 1 ∨ k = 2) (hb : b.size = 576 * k)
    (h : ∀ y g' s', Gr C g s g' s' → VecOf g' y m p k (fun j => (unpL (((KBw.bInts b).drop (576 * j)).take 576) 18).map fun c => 131072 - c) → Q (.ref y) s') : wpAny C.M A (call (.ref 977) [.int 6 t0, .ref m, .bytes b t1, .int k t2, .int 0 t3]) Q E s := by
  have hm0 := hm.1
  (refine' call_fn (binds := [("kind", .int 6 t0), ("module", .ref m), ("octets", .bytes b t1), ("k", .int k t2), ("off", .int 0 t3)]) ?st ?ho ?hcd ?hroom ?hb ?hk ?hck ?_ ?h1 ?h2 ?h3)
  (case st => first | with_reducible assumption | exact (Fn.st (by with_reducible assumption)).at rfl); (case ho => k_is); (case hcd => k_is)
  (case hroom => exact Room.depth (by assumption)); (case hb => first | exact BindsTo.of_eq rfl | exact binds_K (St.kin' (by assumption)) rfl (by k_is) rfl rfl rfl)
  (case hk => exact rfl); (case hck => exact rfl); (case h1 => exact rfl); (case h2 => exact rfl); (case h3 => exact rfl)
  intro L1 s1 hk1 f
  have hR' := fun env => hR.deeper (n := 16) env
  walk_at "mzr"
  refine sp_munpack_z17 (u := _) hP (Fn.st (Fn.at f (by exact rfl))) ((hR' _).less (by decide)) hm hk hb fun y g2 s2 gr2 hy => ?_
  have f2 := Fn.gr (Fn.at f (by exact rfl)) gr2
  walk_at "mzr"
  exact h _ _ _ f2.done hy

theorem sp_read_7 {A : Around} {g : Heap} {s : Shared} {m p : Addr} {b : Array UInt8} {k : Nat} {t0 t1 t2 t3 : Tok} {Q : Value → Shared → Prop} {E : Value → Shared → Prop} (hP : C.prog = PySem.Challenge.pw_bn0016_01) (st : St C (Mine.hd.K C.w.params) g s) (hR : Room A 17) (hm : ModAt g m p)
    (hk : k = 1 ∨ k = 2) (hb : b.size = 640 * k)
    (h : ∀ y g' s', Gr C g s g' s' → VecOf g' y m p k (fun j => (unpL (((KBw.bInts b).drop (640 * j)).take 640) 20).map fun c => 524288 - c) → Q (.ref y) s') : wpAny C.M A (call (.ref 977) [.int 7 t0, .ref m, .bytes b t1, .int k t2, .int 0 t3]) Q E s := by
  have hm0 := hm.1
  (refine' call_fn (binds := [("kind", .int 7 t0), ("module", .ref m), ("octets", .bytes b t1), ("k", .int k t2), ("off", .int 0 t3)]) ?st ?ho ?hcd ?hroom ?hb ?hk ?hck ?_ ?h1 ?h2 ?h3)
  (case st => first | with_reducible assumption | exact (Fn.st (by with_reducible assumption)).at rfl); (case ho => k_is); (case hcd => k_is)
  (case hroom => exact Room.depth (by assumption)); (case hb => first | exact BindsTo.of_eq rfl | exact binds_K (St.kin' (by assumption)) rfl (by k_is) rfl rfl rfl)
  (case hk => exact rfl); (case hck => exact rfl); (case h1 => exact rfl); (case h2 => exact rfl); (case h3 => exact rfl)
  intro L1 s1 hk1 f
  have hR' := fun env => hR.deeper (n := 16) env
  walk_at "mzr"
  refine sp_munpack_z19 (u := _) hP (Fn.st (Fn.at f (by exact rfl))) ((hR' _).less (by decide)) hm hk hb fun y g2 s2 gr2 hy => ?_
  have f2 := Fn.gr (Fn.at f (by exact rfl)) gr2
  walk_at "mzr"
  exact h _ _ _ f2.done hy

/-- the tables of the defs with a generator expression -/
def ptabs : List Addr := [782, 789, 796, 803, 810]
theorem digits_len (B : Int) (m : Nat) (G : Int) : (digits B m G).length = m := by unfold digits; simp
/-- vector.rows() -/
theorem sp_rows {A : Around} {g : Heap} {s : Shared} {y m D : Addr} {Q : Value → Shared → Prop} {E : Value → Shared → Prop} (st : St C (Mine.hd.K C.w.params) g s) (hR : Room A 3) (hf : Fld g y 897 (matFs (.ref m) (.ref D) (.bool true)))
    (h : ∀ s', Gr C g s g s' → Q (.ref D) s') : wpAny C.M A (call (.ref 643) [.ref y]) Q E s := by
  (refine' call_fn (binds := [("self", .ref y)]) ?st ?ho ?hcd ?hroom ?hb ?hk ?hck ?_ ?h1 ?h2 ?h3)
  (case st => first | with_reducible assumption | exact (Fn.st (by with_reducible assumption)).at rfl); (case ho => k_is); (case hcd => k_is)
  (case hroom => exact Room.depth (by assumption)); (case hb => first | exact BindsTo.of_eq rfl | exact binds_K (St.kin' (by assumption)) rfl (by k_is) rfl rfl rfl)
  (case hk => exact rfl); (case hck => exact rfl); (case h1 => exact rfl); (case h2 => exact rfl); (case h3 => exact rfl)
  intro L1 s1 hk1 f
  walk_at "mzr"
  exact h _ (Fn.done (Fn.at f (by exact rfl)))

theorem sp_vpack_t1 {A : Around} {g : Heap} {s : Shared} {y m p : Addr} {k : Nat} {ns : Nat → List Int} {u : Tok} {Q : Value → Shared → Prop} {E : Value → Shared → Prop} (hts : ∀ P ∈ ptabs, P ∈ C.ts) (st : St C (Mine.hd.K C.w.params) g s) (hR : Room A 20) (hy : VecOf g y m p k ns) (hp : RingAt g p)
    (hk : k = 1 ∨ k = 2) (hl : ∀ j < k, (ns j).length = 256) (hc : ∀ j < k, ∀ c ∈ (ns j), 0 ≤ c ∧ c < 2 ^ 10)
    (h : ∀ b t g' s', Gr C g s g' s' → KBw.bInts b = (List.range k).flatMap (fun j => digits 256 320 (dig (2 ^ 10) (ns j))) → Q (.bytes b t) s') : wpAny C.M A (call (.ref 787) [.ref y]) Q E s := by
  obtain ⟨es, ⟨D, row, hf, hD, hr⟩, hes, hpoly⟩ := hy
  (refine' call_fn (binds := [("self", .ref y)]) ?st ?ho ?hcd ?hroom ?hb ?hk ?hck ?_ ?h1 ?h2 ?h3)
  (case st => first | with_reducible assumption | exact (Fn.st (by with_reducible assumption)).at rfl); (case ho => k_is); (case hcd => k_is)
  (case hroom => exact Room.depth (by assumption)); (case hb => first | exact BindsTo.of_eq rfl | exact binds_K (St.kin' (by assumption)) rfl (by k_is) rfl rfl rfl)
  (case hk => exact rfl); (case hck => exact rfl); (case h1 => exact rfl); (case h2 => exact rfl); (case h3 => exact rfl)
  intro L1 s1 hk1 f
  have hR' := fun env => hR.deeper (n := 19) env
  walk_at "mzr"
  with_reducible refine join_method ?_
  walk_at "mzr"
  refine' gen2 (C := C) 12 ?fv (hR' _).2.2 (hR' _).depth (by exact rfl) (P := 782) ?hK (hts _ (by decide)) ?_
  case fv => exact Fn.view (Fn.at (by with_reducible assumption) (by exact rfl))
  case hK => kernel_rfl
  walk_at "mzr"
  refine sp_rows (Fn.st (Fn.at (by with_reducible assumption) (by exact rfl))) ((hR' _).less (by decide)) hf fun s2 gr2 => ?_
  have st2 := Gr.st (Fn.st (Fn.at (by with_reducible assumption) (by exact rfl))) gr2
  refine list_itG (C := C) (K := (Mine.hd.K C.w.params)) (g := g) (vs := [Value.ref row]) (Sl := []) st2 hD (by simp) fun I g₂ s₂ it => ?_
  have it2 := ItG.trans (Fn.st (Fn.at (by with_reducible assumption) (by exact rfl))) gr2 it
  have up2 : Sub g g₂ := let ⟨_, _, _, _, _, _, _, e⟩ := it2; e.up
  refine ⟨I, g₂, 1, k, _, fun i j u => (es.map Value.ref)[j]? = some u, fun j v => ∃ b t, v = Value.bytes b t ∧ KBw.bInts b = (fun j => digits 256 320 (dig (2 ^ 10) (ns j))) j, rfl, it2, ?_, ?_, ?_⟩
  · intro L code A' Sl i v gk s' τ E' hRA hi hP fe hx1 hσ sube hSl
    have hi0 : i = 0 := by omega
    subst hi0
    have hv : v = .ref row := by simpa using hP.symm
    subst hv
    have hr' : gk.IsList row (es.map Value.ref).toArray := IsList.up hr (fun b o e => sube b o (up2 b o e))
    walk_at "mzr"
    refine list_itG (C := C) (K := (Mine.hd.K C.w.params)) (Sl := Sl) (Fn.st (Fn.at fe (by exact rfl))) hr' (fun q => ?_) fun J g3 s3 itj => ⟨J, g3, rfl, ?_⟩
    · obtain ⟨o, ho, _⟩ := IsList.up hr up2
      rw [hSl row q] at ho; cases ho
    · rw [List.length_map, hes] at itj
      exact itj.same_l (by exact rfl)
  · intro L code A' i j v u gk s' τ E' hRA hi hj hP1 hP2 fe hx2 hσ sube
    have hi0 : i = 0 := by omega
    subst hi0
    have subg : Sub g gk := fun b o e => sube b o (up2 b o e)
    obtain ⟨e, he, rfl⟩ : ∃ e, es[j]? = some e ∧ Value.ref e = u := by rw [List.getElem?_map] at hP2; exact Option.map_eq_some_iff.mp hP2
    have hpe : PolyAt gk e p (ns j) := (hpoly j e he).up subg
    have hpr := hp.up subg
    obtain ⟨l, vs, hfe, _⟩ := id hpe
    walk_at "mzr"
    refine sp_pack_t1 (u := u) (Fn.st (Fn.at fe (by exact rfl))) (hRA.less (by decide)) hpe hpr (hl j hj) (hc j hj) fun b t g4 s4 gr4 hb => ⟨g4, Gr.same_l gr4 (by exact rfl), ?_⟩
    rw [Nat.zero_mul, Nat.zero_add]
    exact ⟨b, t, rfl, hb⟩
  · intro cenv gn gZ a s5 fr upZ
    walk_at "mzr"
    rw [Nat.one_mul] at fr
    refine join_gen fr ((hR' _).less (by decide)) hk (fun j => by rw [digits_len]; decide) fun b t g6 s6 gr6 hb => ?_
    have f6 := (Fn.at f (by exact rfl)).gr gr6
    walk_at "mzr"
    exact h _ _ _ _ f6.done hb

theorem sp_vpack_t0 {A : Around} {g : Heap} {s : Shared} {y m p : Addr} {k : Nat} {ns : Nat → List Int} {u : Tok} {Q : Value → Shared → Prop} {E : Value → Shared → Prop} (hts : ∀ P ∈ ptabs, P ∈ C.ts) (st : St C (Mine.hd.K C.w.params) g s) (hR : Room A 20) (hy : VecOf g y m p k ns) (hp : RingAt g p)
    (hk : k = 1 ∨ k = 2) (hl : ∀ j < k, (ns j).length = 256) (hc : ∀ j < k, ∀ c ∈ ((ns j).map fun c => 1 * 2 ^ (12 : Int).toNat - c), 0 ≤ c ∧ c < 2 ^ 13)
    (h : ∀ b t g' s', Gr C g s g' s' → KBw.bInts b = (List.range k).flatMap (fun j => digits 256 416 (dig (2 ^ 13) ((ns j).map fun c => 1 * 2 ^ (12 : Int).toNat - c))) → Q (.bytes b t) s') : wpAny C.M A (call (.ref 794) [.ref y]) Q E s := by
  obtain ⟨es, ⟨D, row, hf, hD, hr⟩, hes, hpoly⟩ := hy
  (refine' call_fn (binds := [("self", .ref y)]) ?st ?ho ?hcd ?hroom ?hb ?hk ?hck ?_ ?h1 ?h2 ?h3)
  (case st => first | with_reducible assumption | exact (Fn.st (by with_reducible assumption)).at rfl); (case ho => k_is); (case hcd => k_is)
  (case hroom => exact Room.depth (by assumption)); (case hb => first | exact BindsTo.of_eq rfl | exact binds_K (St.kin' (by assumption)) rfl (by k_is) rfl rfl rfl)
  (case hk => exact rfl); (case hck => exact rfl); (case h1 => exact rfl); (case h2 => exact rfl); (case h3 => exact rfl)
  intro L1 s1 hk1 f
  have hR' := fun env => hR.deeper (n := 19) env
  walk_at "mzr"
  with_reducible refine join_method ?_
  walk_at "mzr"
  refine' gen2 (C := C) 12 ?fv (hR' _).2.2 (hR' _).depth (by exact rfl) (P := 789) ?hK (hts _ (by decide)) ?_
  case fv => exact Fn.view (Fn.at (by with_reducible assumption) (by exact rfl))
  case hK => kernel_rfl
  walk_at "mzr"
  refine sp_rows (Fn.st (Fn.at (by with_reducible assumption) (by exact rfl))) ((hR' _).less (by decide)) hf fun s2 gr2 => ?_
  have st2 := Gr.st (Fn.st (Fn.at (by with_reducible assumption) (by exact rfl))) gr2
  refine list_itG (C := C) (K := (Mine.hd.K C.w.params)) (g := g) (vs := [Value.ref row]) (Sl := []) st2 hD (by simp) fun I g₂ s₂ it => ?_
  have it2 := ItG.trans (Fn.st (Fn.at (by with_reducible assumption) (by exact rfl))) gr2 it
  have up2 : Sub g g₂ := let ⟨_, _, _, _, _, _, _, e⟩ := it2; e.up
  refine ⟨I, g₂, 1, k, _, fun i j u => (es.map Value.ref)[j]? = some u, fun j v => ∃ b t, v = Value.bytes b t ∧ KBw.bInts b = (fun j => digits 256 416 (dig (2 ^ 13) ((ns j).map fun c => 1 * 2 ^ (12 : Int).toNat - c))) j, rfl, it2, ?_, ?_, ?_⟩
  · intro L code A' Sl i v gk s' τ E' hRA hi hP fe hx1 hσ sube hSl
    have hi0 : i = 0 := by omega
    subst hi0
    have hv : v = .ref row := by simpa using hP.symm
    subst hv
    have hr' : gk.IsList row (es.map Value.ref).toArray := IsList.up hr (fun b o e => sube b o (up2 b o e))
    walk_at "mzr"
    refine list_itG (C := C) (K := (Mine.hd.K C.w.params)) (Sl := Sl) (Fn.st (Fn.at fe (by exact rfl))) hr' (fun q => ?_) fun J g3 s3 itj => ⟨J, g3, rfl, ?_⟩
    · obtain ⟨o, ho, _⟩ := IsList.up hr up2
      rw [hSl row q] at ho; cases ho
    · rw [List.length_map, hes] at itj
      exact itj.same_l (by exact rfl)
  · intro L code A' i j v u gk s' τ E' hRA hi hj hP1 hP2 fe hx2 hσ sube
    have hi0 : i = 0 := by omega
    subst hi0
    have subg : Sub g gk := fun b o e => sube b o (up2 b o e)
    obtain ⟨e, he, rfl⟩ : ∃ e, es[j]? = some e ∧ Value.ref e = u := by rw [List.getElem?_map] at hP2; exact Option.map_eq_some_iff.mp hP2
    have hpe : PolyAt gk e p (ns j) := (hpoly j e he).up subg
    have hpr := hp.up subg
    obtain ⟨l, vs, hfe, _⟩ := id hpe
    walk_at "mzr"
    refine sp_pack_t0 (u := u) (Fn.st (Fn.at fe (by exact rfl))) (hRA.less (by decide)) hpe hpr (hl j hj) (hc j hj) fun b t g4 s4 gr4 hb => ⟨g4, Gr.same_l gr4 (by exact rfl), ?_⟩
    rw [Nat.zero_mul, Nat.zero_add]
    exact ⟨b, t, rfl, hb⟩
  · intro cenv gn gZ a s5 fr upZ
    walk_at "mzr"
    rw [Nat.one_mul] at fr
    refine join_gen fr ((hR' _).less (by decide)) hk (fun j => by rw [digits_len]; decide) fun b t g6 s6 gr6 hb => ?_
    have f6 := (Fn.at f (by exact rfl)).gr gr6
    walk_at "mzr"
    exact h _ _ _ _ f6.done hb

theorem sp_vpack_s2 {A : Around} {g : Heap} {s : Shared} {y m p : Addr} {k : Nat} {ns : Nat → List Int} {u : Tok} {Q : Value → Shared → Prop} {E : Value → Shared → Prop} (hts : ∀ P ∈ ptabs, P ∈ C.ts) (st : St C (Mine.hd.K C.w.params) g s) (hR : Room A 20) (hy : VecOf g y m p k ns) (hp : RingAt g p)
    (hk : k = 1 ∨ k = 2) (hl : ∀ j < k, (ns j).length = 256) (hc : ∀ j < k, ∀ c ∈ ((ns j).map fun c => (2 - c).fmod 8380417), 0 ≤ c ∧ c < 2 ^ 3)
    (h : ∀ b t g' s', Gr C g s g' s' → KBw.bInts b = (List.range k).flatMap (fun j => digits 256 96 (dig (2 ^ 3) ((ns j).map fun c => (2 - c).fmod 8380417))) → Q (.bytes b t) s') : wpAny C.M A (call (.ref 801) [.ref y, .int 2 u]) Q E s := by
  obtain ⟨es, ⟨D, row, hf, hD, hr⟩, hes, hpoly⟩ := hy
  (refine' call_fn (binds := [("self", .ref y), ("eta", .int 2 u)]) ?st ?ho ?hcd ?hroom ?hb ?hk ?hck ?_ ?h1 ?h2 ?h3)
  (case st => first | with_reducible assumption | exact (Fn.st (by with_reducible assumption)).at rfl); (case ho => k_is); (case hcd => k_is)
  (case hroom => exact Room.depth (by assumption)); (case hb => first | exact BindsTo.of_eq rfl | exact binds_K (St.kin' (by assumption)) rfl (by k_is) rfl rfl rfl)
  (case hk => exact rfl); (case hck => exact rfl); (case h1 => exact rfl); (case h2 => exact rfl); (case h3 => exact rfl)
  intro L1 s1 hk1 f
  have hR' := fun env => hR.deeper (n := 19) env
  walk_at "mzr"
  with_reducible refine join_method ?_
  walk_at "mzr"
  refine' gen2 (C := C) 12 ?fv (hR' _).2.2 (hR' _).depth (by exact rfl) (P := 796) ?hK (hts _ (by decide)) ?_
  case fv => exact Fn.view (Fn.at (by with_reducible assumption) (by exact rfl))
  case hK => kernel_rfl
  walk_at "mzr"
  refine sp_rows (Fn.st (Fn.at (by with_reducible assumption) (by exact rfl))) ((hR' _).less (by decide)) hf fun s2 gr2 => ?_
  have st2 := Gr.st (Fn.st (Fn.at (by with_reducible assumption) (by exact rfl))) gr2
  refine list_itG (C := C) (K := (Mine.hd.K C.w.params)) (g := g) (vs := [Value.ref row]) (Sl := []) st2 hD (by simp) fun I g₂ s₂ it => ?_
  have it2 := ItG.trans (Fn.st (Fn.at (by with_reducible assumption) (by exact rfl))) gr2 it
  have up2 : Sub g g₂ := let ⟨_, _, _, _, _, _, _, e⟩ := it2; e.up
  refine ⟨I, g₂, 1, k, _, fun i j u => (es.map Value.ref)[j]? = some u, fun j v => ∃ b t, v = Value.bytes b t ∧ KBw.bInts b = (fun j => digits 256 96 (dig (2 ^ 3) ((ns j).map fun c => (2 - c).fmod 8380417))) j, rfl, it2, ?_, ?_, ?_⟩
  · intro L code A' Sl i v gk s' τ E' hRA hi hP fe hx1 hσ sube hSl
    have hi0 : i = 0 := by omega
    subst hi0
    have hv : v = .ref row := by simpa using hP.symm
    subst hv
    have hr' : gk.IsList row (es.map Value.ref).toArray := IsList.up hr (fun b o e => sube b o (up2 b o e))
    walk_at "mzr"
    refine list_itG (C := C) (K := (Mine.hd.K C.w.params)) (Sl := Sl) (Fn.st (Fn.at fe (by exact rfl))) hr' (fun q => ?_) fun J g3 s3 itj => ⟨J, g3, rfl, ?_⟩
    · obtain ⟨o, ho, _⟩ := IsList.up hr up2
      rw [hSl row q] at ho; cases ho
    · rw [List.length_map, hes] at itj
      exact itj.same_l (by exact rfl)
  · intro L code A' i j v u gk s' τ E' hRA hi hj hP1 hP2 fe hx2 hσ sube
    have hi0 : i = 0 := by omega
    subst hi0
    have subg : Sub g gk := fun b o e => sube b o (up2 b o e)
    obtain ⟨e, he, rfl⟩ : ∃ e, es[j]? = some e ∧ Value.ref e = u := by rw [List.getElem?_map] at hP2; exact Option.map_eq_some_iff.mp hP2
    have hpe : PolyAt gk e p (ns j) := (hpoly j e he).up subg
    have hpr := hp.up subg
    obtain ⟨l, vs, hfe, _⟩ := id hpe
    have heta : τ "eta" = some (.int 2 u) := (hσ _ (by decide)).trans rfl
    walk_at "mzr"
    refine sp_pack_s2 (u := u) (Fn.st (Fn.at fe (by exact rfl))) (hRA.less (by decide)) hpe hpr (hl j hj) (hc j hj) fun b t g4 s4 gr4 hb => ⟨g4, Gr.same_l gr4 (by exact rfl), ?_⟩
    rw [Nat.zero_mul, Nat.zero_add]
    exact ⟨b, t, rfl, hb⟩
  · intro cenv gn gZ a s5 fr upZ
    walk_at "mzr"
    rw [Nat.one_mul] at fr
    refine join_gen fr ((hR' _).less (by decide)) hk (fun j => by rw [digits_len]; decide) fun b t g6 s6 gr6 hb => ?_
    have f6 := (Fn.at f (by exact rfl)).gr gr6
    walk_at "mzr"
    exact h _ _ _ _ f6.done hb

theorem sp_vpack_s4 {A : Around} {g : Heap} {s : Shared} {y m p : Addr} {k : Nat} {ns : Nat → List Int} {u : Tok} {Q : Value → Shared → Prop} {E : Value → Shared → Prop} (hts : ∀ P ∈ ptabs, P ∈ C.ts) (st : St C (Mine.hd.K C.w.params) g s) (hR : Room A 20) (hy : VecOf g y m p k ns) (hp : RingAt g p)
    (hk : k = 1 ∨ k = 2) (hl : ∀ j < k, (ns j).length = 256) (hc : ∀ j < k, ∀ c ∈ ((ns j).map fun c => (4 - c).fmod 8380417), 0 ≤ c ∧ c < 2 ^ 4)
    (h : ∀ b t g' s', Gr C g s g' s' → KBw.bInts b = (List.range k).flatMap (fun j => digits 256 128 (dig (2 ^ 4) ((ns j).map fun c => (4 - c).fmod 8380417))) → Q (.bytes b t) s') : wpAny C.M A (call (.ref 801) [.ref y, .int 4 u]) Q E s := by
  obtain ⟨es, ⟨D, row, hf, hD, hr⟩, hes, hpoly⟩ := hy
  (refine' call_fn (binds := [("self", .ref y), ("eta", .int 4 u)]) ?st ?ho ?hcd ?hroom ?hb ?hk ?hck ?_ ?h1 ?h2 ?h3)
  (case st => first | with_reducible assumption | exact (Fn.st (by with_reducible assumption)).at rfl); (case ho => k_is); (case hcd => k_is)
  (case hroom => exact Room.depth (by assumption)); (case hb => first | exact BindsTo.of_eq rfl | exact binds_K (St.kin' (by assumption)) rfl (by k_is) rfl rfl rfl)
  (case hk => exact rfl); (case hck => exact rfl); (case h1 => exact rfl); (case h2 => exact rfl); (case h3 => exact rfl)
  intro L1 s1 hk1 f
  have hR' := fun env => hR.deeper (n := 19) env
  walk_at "mzr"
  with_reducible refine join_method ?_
  walk_at "mzr"
  refine' gen2 (C := C) 12 ?fv (hR' _).2.2 (hR' _).depth (by exact rfl) (P := 796) ?hK (hts _ (by decide)) ?_
  case fv => exact Fn.view (Fn.at (by with_reducible assumption) (by exact rfl))
  case hK => kernel_rfl
  walk_at "mzr"
  refine sp_rows (Fn.st (Fn.at (by with_reducible assumption) (by exact rfl))) ((hR' _).less (by decide)) hf fun s2 gr2 => ?_
  have st2 := Gr.st (Fn.st (Fn.at (by with_reducible assumption) (by exact rfl))) gr2
  refine list_itG (C := C) (K := (Mine.hd.K C.w.params)) (g := g) (vs := [Value.ref row]) (Sl := []) st2 hD (by simp) fun I g₂ s₂ it => ?_
  have it2 := ItG.trans (Fn.st (Fn.at (by with_reducible assumption) (by exact rfl))) gr2 it
  have up2 : Sub g g₂ := let ⟨_, _, _, _, _, _, _, e⟩ := it2; e.up
  refine ⟨I, g₂, 1, k, _, fun i j u => (es.map Value.ref)[j]? = some u, fun j v => ∃ b t, v = Value.bytes b t ∧ KBw.bInts b = (fun j => digits 256 128 (dig (2 ^ 4) ((ns j).map fun c => (4 - c).fmod 8380417))) j, rfl, it2, ?_, ?_, ?_⟩
  · intro L code A' Sl i v gk s' τ E' hRA hi hP fe hx1 hσ sube hSl
    have hi0 : i = 0 := by omega
    subst hi0
    have hv : v = .ref row := by simpa using hP.symm
    subst hv
    have hr' : gk.IsList row (es.map Value.ref).toArray := IsList.up hr (fun b o e => sube b o (up2 b o e))
    walk_at "mzr"
    refine list_itG (C := C) (K := (Mine.hd.K C.w.params)) (Sl := Sl) (Fn.st (Fn.at fe (by exact rfl))) hr' (fun q => ?_) fun J g3 s3 itj => ⟨J, g3, rfl, ?_⟩
    · obtain ⟨o, ho, _⟩ := IsList.up hr up2
      rw [hSl row q] at ho; cases ho
    · rw [List.length_map, hes] at itj
      exact itj.same_l (by exact rfl)
  · intro L code A' i j v u gk s' τ E' hRA hi hj hP1 hP2 fe hx2 hσ sube
    have hi0 : i = 0 := by omega
    subst hi0
    have subg : Sub g gk := fun b o e => sube b o (up2 b o e)
    obtain ⟨e, he, rfl⟩ : ∃ e, es[j]? = some e ∧ Value.ref e = u := by rw [List.getElem?_map] at hP2; exact Option.map_eq_some_iff.mp hP2
    have hpe : PolyAt gk e p (ns j) := (hpoly j e he).up subg
    have hpr := hp.up subg
    obtain ⟨l, vs, hfe, _⟩ := id hpe
    have heta : τ "eta" = some (.int 4 u) := (hσ _ (by decide)).trans rfl
    walk_at "mzr"
    refine sp_pack_s4 (u := u) (Fn.st (Fn.at fe (by exact rfl))) (hRA.less (by decide)) hpe hpr (hl j hj) (hc j hj) fun b t g4 s4 gr4 hb => ⟨g4, Gr.same_l gr4 (by exact rfl), ?_⟩
    rw [Nat.zero_mul, Nat.zero_add]
    exact ⟨b, t, rfl, hb⟩
  · intro cenv gn gZ a s5 fr upZ
    walk_at "mzr"
    rw [Nat.one_mul] at fr
    refine join_gen fr ((hR' _).less (by decide)) hk (fun j => by rw [digits_len]; decide) fun b t g6 s6 gr6 hb => ?_
    have f6 := (Fn.at f (by exact rfl)).gr gr6
    walk_at "mzr"
    exact h _ _ _ _ f6.done hb

theorem sp_vpack_w6 {A : Around} {g : Heap} {s : Shared} {y m p : Addr} {k : Nat} {ns : Nat → List Int} {u : Tok} {Q : Value → Shared → Prop} {E : Value → Shared → Prop} (hts : ∀ P ∈ ptabs, P ∈ C.ts) (st : St C (Mine.hd.K C.w.params) g s) (hR : Room A 20) (hy : VecOf g y m p k ns) (hp : RingAt g p)
    (hk : k = 1 ∨ k = 2) (hl : ∀ j < k, (ns j).length = 256) (hc : ∀ j < k, ∀ c ∈ (ns j), 0 ≤ c ∧ c < 2 ^ 6)
    (h : ∀ b t g' s', Gr C g s g' s' → KBw.bInts b = (List.range k).flatMap (fun j => digits 256 192 (dig (2 ^ 6) (ns j))) → Q (.bytes b t) s') : wpAny C.M A (call (.ref 808) [.ref y, .int 95232 u]) Q E s := by
  obtain ⟨es, ⟨D, row, hf, hD, hr⟩, hes, hpoly⟩ := hy
  (refine' call_fn (binds := [("self", .ref y), ("gamma_2", .int 95232 u)]) ?st ?ho ?hcd ?hroom ?hb ?hk ?hck ?_ ?h1 ?h2 ?h3)
  (case st => first | with_reducible assumption | exact (Fn.st (by with_reducible assumption)).at rfl); (case ho => k_is); (case hcd => k_is)
  (case hroom => exact Room.depth (by assumption)); (case hb => first | exact BindsTo.of_eq rfl | exact binds_K (St.kin' (by assumption)) rfl (by k_is) rfl rfl rfl)
  (case hk => exact rfl); (case hck => exact rfl); (case h1 => exact rfl); (case h2 => exact rfl); (case h3 => exact rfl)
  intro L1 s1 hk1 f
  have hR' := fun env => hR.deeper (n := 19) env
  walk_at "mzr"
  with_reducible refine join_method ?_
  walk_at "mzr"
  refine' gen2 (C := C) 12 ?fv (hR' _).2.2 (hR' _).depth (by exact rfl) (P := 803) ?hK (hts _ (by decide)) ?_
  case fv => exact Fn.view (Fn.at (by with_reducible assumption) (by exact rfl))
  case hK => kernel_rfl
  walk_at "mzr"
  refine sp_rows (Fn.st (Fn.at (by with_reducible assumption) (by exact rfl))) ((hR' _).less (by decide)) hf fun s2 gr2 => ?_
  have st2 := Gr.st (Fn.st (Fn.at (by with_reducible assumption) (by exact rfl))) gr2
  refine list_itG (C := C) (K := (Mine.hd.K C.w.params)) (g := g) (vs := [Value.ref row]) (Sl := []) st2 hD (by simp) fun I g₂ s₂ it => ?_
  have it2 := ItG.trans (Fn.st (Fn.at (by with_reducible assumption) (by exact rfl))) gr2 it
  have up2 : Sub g g₂ := let ⟨_, _, _, _, _, _, _, e⟩ := it2; e.up
  refine ⟨I, g₂, 1, k, _, fun i j u => (es.map Value.ref)[j]? = some u, fun j v => ∃ b t, v = Value.bytes b t ∧ KBw.bInts b = (fun j => digits 256 192 (dig (2 ^ 6) (ns j))) j, rfl, it2, ?_, ?_, ?_⟩
  · intro L code A' Sl i v gk s' τ E' hRA hi hP fe hx1 hσ sube hSl
    have hi0 : i = 0 := by omega
    subst hi0
    have hv : v = .ref row := by simpa using hP.symm
    subst hv
    have hr' : gk.IsList row (es.map Value.ref).toArray := IsList.up hr (fun b o e => sube b o (up2 b o e))
    walk_at "mzr"
    refine list_itG (C := C) (K := (Mine.hd.K C.w.params)) (Sl := Sl) (Fn.st (Fn.at fe (by exact rfl))) hr' (fun q => ?_) fun J g3 s3 itj => ⟨J, g3, rfl, ?_⟩
    · obtain ⟨o, ho, _⟩ := IsList.up hr up2
      rw [hSl row q] at ho; cases ho
    · rw [List.length_map, hes] at itj
      exact itj.same_l (by exact rfl)
  · intro L code A' i j v u gk s' τ E' hRA hi hj hP1 hP2 fe hx2 hσ sube
    have hi0 : i = 0 := by omega
    subst hi0
    have subg : Sub g gk := fun b o e => sube b o (up2 b o e)
    obtain ⟨e, he, rfl⟩ : ∃ e, es[j]? = some e ∧ Value.ref e = u := by rw [List.getElem?_map] at hP2; exact Option.map_eq_some_iff.mp hP2
    have hpe : PolyAt gk e p (ns j) := (hpoly j e he).up subg
    have hpr := hp.up subg
    obtain ⟨l, vs, hfe, _⟩ := id hpe
    have heta : τ "gamma_2" = some (.int 95232 u) := (hσ _ (by decide)).trans rfl
    walk_at "mzr"
    refine sp_pack_w6 (u := u) (Fn.st (Fn.at fe (by exact rfl))) (hRA.less (by decide)) hpe hpr (hl j hj) (hc j hj) fun b t g4 s4 gr4 hb => ⟨g4, Gr.same_l gr4 (by exact rfl), ?_⟩
    rw [Nat.zero_mul, Nat.zero_add]
    exact ⟨b, t, rfl, hb⟩
  · intro cenv gn gZ a s5 fr upZ
    walk_at "mzr"
    rw [Nat.one_mul] at fr
    refine join_gen fr ((hR' _).less (by decide)) hk (fun j => by rw [digits_len]; decide) fun b t g6 s6 gr6 hb => ?_
    have f6 := (Fn.at f (by exact rfl)).gr gr6
    walk_at "mzr"
    exact h _ _ _ _ f6.done hb

theorem sp_vpack_w4 {A : Around} {g : Heap} {s : Shared} {y m p : Addr} {k : Nat} {ns : Nat → List Int} {u : Tok} {Q : Value → Shared → Prop} {E : Value → Shared → Prop} (hts : ∀ P ∈ ptabs, P ∈ C.ts) (st : St C (Mine.hd.K C.w.params) g s) (hR : Room A 20) (hy : VecOf g y m p k ns) (hp : RingAt g p)
    (hk : k = 1 ∨ k = 2) (hl : ∀ j < k, (ns j).length = 256) (hc : ∀ j < k, ∀ c ∈ (ns j), 0 ≤ c ∧ c < 2 ^ 4)
    (h : ∀ b t g' s', Gr C g s g' s' → KBw.bInts b = (List.range k).flatMap (fun j => digits 256 128 (dig (2 ^ 4) (ns j))) → Q (.bytes b t) s') : wpAny C.M A (call (.ref 808) [.ref y, .int 261888 u]) Q E s := by
  obtain ⟨es, ⟨D, row, hf, hD, hr⟩, hes, hpoly⟩ := hy
  (refine' call_fn (binds := [("self", .ref y), ("gamma_2", .int 261888 u)]) ?st ?ho ?hcd ?hroom ?hb ?hk ?hck ?_ ?h1 ?h2 ?h3)
  (case st => first | with_reducible assumption | exact (Fn.st (by with_reducible assumption)).at rfl); (case ho => k_is); (case hcd => k_is)
  (case hroom => exact Room.depth (by assumption)); (case hb => first | exact BindsTo.of_eq rfl | exact binds_K (St.kin' (by assumption)) rfl (by k_is) rfl rfl rfl)
  (case hk => exact rfl); (case hck => exact rfl); (case h1 => exact rfl); (case h2 => exact rfl); (case h3 => exact rfl)
  intro L1 s1 hk1 f
  have hR' := fun env => hR.deeper (n := 19) env
  walk_at "mzr"
  with_reducible refine join_method ?_
  walk_at "mzr"
  refine' gen2 (C := C) 12 ?fv (hR' _).2.2 (hR' _).depth (by exact rfl) (P := 803) ?hK (hts _ (by decide)) ?_
  case fv => exact Fn.view (Fn.at (by with_reducible assumption) (by exact rfl))
  case hK => kernel_rfl
  walk_at "mzr"
  refine sp_rows (Fn.st (Fn.at (by with_reducible assumption) (by exact rfl))) ((hR' _).less (by decide)) hf fun s2 gr2 => ?_
  have st2 := Gr.st (Fn.st (Fn.at (by with_reducible assumption) (by exact rfl))) gr2
  refine list_itG (C := C) (K := (Mine.hd.K C.w.params)) (g := g) (vs := [Value.ref row]) (Sl := []) st2 hD (by simp) fun I g₂ s₂ it => ?_
  have it2 := ItG.trans (Fn.st (Fn.at (by with_reducible assumption) (by exact rfl))) gr2 it
  have up2 : Sub g g₂ := let ⟨_, _, _, _, _, _, _, e⟩ := it2; e.up
  refine ⟨I, g₂, 1, k, _, fun i j u => (es.map Value.ref)[j]? = some u, fun j v => ∃ b t, v = Value.bytes b t ∧ KBw.bInts b = (fun j => digits 256 128 (dig (2 ^ 4) (ns j))) j, rfl, it2, ?_, ?_, ?_⟩
  · intro L code A' Sl i v gk s' τ E' hRA hi hP fe hx1 hσ sube hSl
    have hi0 : i = 0 := by omega
    subst hi0
    have hv : v = .ref row := by simpa using hP.symm
    subst hv
    have hr' : gk.IsList row (es.map Value.ref).toArray := IsList.up hr (fun b o e => sube b o (up2 b o e))
    walk_at "mzr"
    refine list_itG (C := C) (K := (Mine.hd.K C.w.params)) (Sl := Sl) (Fn.st (Fn.at fe (by exact rfl))) hr' (fun q => ?_) fun J g3 s3 itj => ⟨J, g3, rfl, ?_⟩
    · obtain ⟨o, ho, _⟩ := IsList.up hr up2
      rw [hSl row q] at ho; cases ho
    · rw [List.length_map, hes] at itj
      exact itj.same_l (by exact rfl)
  · intro L code A' i j v u gk s' τ E' hRA hi hj hP1 hP2 fe hx2 hσ sube
    have hi0 : i = 0 := by omega
    subst hi0
    have subg : Sub g gk := fun b o e => sube b o (up2 b o e)
    obtain ⟨e, he, rfl⟩ : ∃ e, es[j]? = some e ∧ Value.ref e = u := by rw [List.getElem?_map] at hP2; exact Option.map_eq_some_iff.mp hP2
    have hpe : PolyAt gk e p (ns j) := (hpoly j e he).up subg
    have hpr := hp.up subg
    obtain ⟨l, vs, hfe, _⟩ := id hpe
    have heta : τ "gamma_2" = some (.int 261888 u) := (hσ _ (by decide)).trans rfl
    walk_at "mzr"
    refine sp_pack_w4 (u := u) (Fn.st (Fn.at fe (by exact rfl))) (hRA.less (by decide)) hpe hpr (hl j hj) (hc j hj) fun b t g4 s4 gr4 hb => ⟨g4, Gr.same_l gr4 (by exact rfl), ?_⟩
    rw [Nat.zero_mul, Nat.zero_add]
    exact ⟨b, t, rfl, hb⟩
  · intro cenv gn gZ a s5 fr upZ
    walk_at "mzr"
    rw [Nat.one_mul] at fr
    refine join_gen fr ((hR' _).less (by decide)) hk (fun j => by rw [digits_len]; decide) fun b t g6 s6 gr6 hb => ?_
    have f6 := (Fn.at f (by exact rfl)).gr gr6
    walk_at "mzr"
    exact h _ _ _ _ f6.done hb

theorem sp_vpack_z17 {A : Around} {g : Heap} {s : Shared} {y m p : Addr} {k : Nat} {ns : Nat → List Int} {u : Tok} {Q : Value → Shared → Prop} {E : Value → Shared → Prop} (hts : ∀ P ∈ ptabs, P ∈ C.ts) (st : St C (Mine.hd.K C.w.params) g s) (hR : Room A 20) (hy : VecOf g y m p k ns) (hp : RingAt g p)
    (hk : k = 1 ∨ k = 2) (hl : ∀ j < k, (ns j).length = 256) (hc : ∀ j < k, ∀ c ∈ ((ns j).map fun c => (131072 - c).fmod 8380417), 0 ≤ c ∧ c < 2 ^ 18)
    (h : ∀ b t g' s', Gr C g s g' s' → KBw.bInts b = (List.range k).flatMap (fun j => digits 256 576 (dig (2 ^ 18) ((ns j).map fun c => (131072 - c).fmod 8380417))) → Q (.bytes b t) s') : wpAny C.M A (call (.ref 815) [.ref y, .int 131072 u]) Q E s := by
  obtain ⟨es, ⟨D, row, hf, hD, hr⟩, hes, hpoly⟩ := hy
  (refine' call_fn (binds := [("self", .ref y), ("gamma_1", .int 131072 u)]) ?st ?ho ?hcd ?hroom ?hb ?hk ?hck ?_ ?h1 ?h2 ?h3)
  (case st => first | with_reducible assumption | exact (Fn.st (by with_reducible assumption)).at rfl); (case ho => k_is); (case hcd => k_is)
  (case hroom => exact Room.depth (by assumption)); (case hb => first | exact BindsTo.of_eq rfl | exact binds_K (St.kin' (by assumption)) rfl (by k_is) rfl rfl rfl)
  (case hk => exact rfl); (case hck => exact rfl); (case h1 => exact rfl); (case h2 => exact rfl); (case h3 => exact rfl)
  intro L1 s1 hk1 f
  have hR' := fun env => hR.deeper (n := 19) env
  walk_at "mzr"
  with_reducible refine join_method ?_
  walk_at "mzr"
  refine' gen2 (C := C) 12 ?fv (hR' _).2.2 (hR' _).depth (by exact rfl) (P := 810) ?hK (hts _ (by decide)) ?_
  case fv => exact Fn.view (Fn.at (by with_reducible assumption) (by exact rfl))
  case hK => kernel_rfl
  walk_at "mzr"
  refine sp_rows (Fn.st (Fn.at (by with_reducible assumption) (by exact rfl))) ((hR' _).less (by decide)) hf fun s2 gr2 => ?_
  have st2 := Gr.st (Fn.st (Fn.at (by with_reducible assumption) (by exact rfl))) gr2
  refine list_itG (C := C) (K := (Mine.hd.K C.w.params)) (g := g) (vs := [Value.ref row]) (Sl := []) st2 hD (by simp) fun I g₂ s₂ it => ?_
  have it2 := ItG.trans (Fn.st (Fn.at (by with_reducible assumption) (by exact rfl))) gr2 it
  have up2 : Sub g g₂ := let ⟨_, _, _, _, _, _, _, e⟩ := it2; e.up
  refine ⟨I, g₂, 1, k, _, fun i j u => (es.map Value.ref)[j]? = some u, fun j v => ∃ b t, v = Value.bytes b t ∧ KBw.bInts b = (fun j => digits 256 576 (dig (2 ^ 18) ((ns j).map fun c => (131072 - c).fmod 8380417))) j, rfl, it2, ?_, ?_, ?_⟩
  · intro L code A' Sl i v gk s' τ E' hRA hi hP fe hx1 hσ sube hSl
    have hi0 : i = 0 := by omega
    subst hi0
    have hv : v = .ref row := by simpa using hP.symm
    subst hv
    have hr' : gk.IsList row (es.map Value.ref).toArray := IsList.up hr (fun b o e => sube b o (up2 b o e))
    walk_at "mzr"
    refine list_itG (C := C) (K := (Mine.hd.K C.w.params)) (Sl := Sl) (Fn.st (Fn.at fe (by exact rfl))) hr' (fun q => ?_) fun J g3 s3 itj => ⟨J, g3, rfl, ?_⟩
    · obtain ⟨o, ho, _⟩ := IsList.up hr up2
      rw [hSl row q] at ho; cases ho
    · rw [List.length_map, hes] at itj
      exact itj.same_l (by exact rfl)
  · intro L code A' i j v u gk s' τ E' hRA hi hj hP1 hP2 fe hx2 hσ sube
    have hi0 : i = 0 := by omega
    subst hi0
    have subg : Sub g gk := fun b o e => sube b o (up2 b o e)
    obtain ⟨e, he, rfl⟩ : ∃ e, es[j]? = some e ∧ Value.ref e = u := by rw [List.getElem?_map] at hP2; exact Option.map_eq_some_iff.mp hP2
    have hpe : PolyAt gk e p (ns j) := (hpoly j e he).up subg
    have hpr := hp.up subg
    obtain ⟨l, vs, hfe, _⟩ := id hpe
    have heta : τ "gamma_1" = some (.int 131072 u) := (hσ _ (by decide)).trans rfl
    walk_at "mzr"
    refine sp_pack_z17 (u := u) (Fn.st (Fn.at fe (by exact rfl))) (hRA.less (by decide)) hpe hpr (hl j hj) (hc j hj) fun b t g4 s4 gr4 hb => ⟨g4, Gr.same_l gr4 (by exact rfl), ?_⟩
    rw [Nat.zero_mul, Nat.zero_add]
    exact ⟨b, t, rfl, hb⟩
  · intro cenv gn gZ a s5 fr upZ
    walk_at "mzr"
    rw [Nat.one_mul] at fr
    refine join_gen fr ((hR' _).less (by decide)) hk (fun j => by rw [digits_len]; decide) fun b t g6 s6 gr6 hb => ?_
    have f6 := (Fn.at f (by exact rfl)).gr gr6
    walk_at "mzr"
    exact h _ _ _ _ f6.done hb

theorem sp_vpack_z19 {A : Around} {g : Heap} {s : Shared} {y m p : Addr} {k : Nat} {ns : Nat → List Int} {u : Tok} {Q : Value → Shared → Prop} {E : Value → Shared → Prop} (hts : ∀ P ∈ ptabs, P ∈ C.ts) (st : St C (Mine.hd.K C.w.params) g s) (hR : Room A 20) (hy : VecOf g y m p k ns) (hp : RingAt g p)
    (hk : k = 1 ∨ k = 2) (hl : ∀ j < k, (ns j).length = 256) (hc : ∀ j < k, ∀ c ∈ ((ns j).map fun c => (524288 - c).fmod 8380417), 0 ≤ c ∧ c < 2 ^ 20)
    (h : ∀ b t g' s', Gr C g s g' s' → KBw.bInts b = (List.range k).flatMap (fun j => digits 256 640 (dig (2 ^ 20) ((ns j).map fun c => (524288 - c).fmod 8380417))) → Q (.bytes b t) s') : wpAny C.M A (call (.ref 815) [.ref y, .int 524288 u]) Q E s := by
  obtain ⟨es, ⟨D, row, hf, hD, hr⟩, hes, hpoly⟩ := hy
  (refine' call_fn (binds := [("self", .ref y), ("gamma_1", .int 524288 u)]) ?st ?ho ?hcd ?hroom ?hb ?hk ?hck ?_ ?h1 ?h2 ?h3)
  (case st => first | with_reducible assumption | exact (Fn.st (by with_reducible assumption)).at rfl); (case ho => k_is); (case hcd => k_is)
  (case hroom => exact Room.depth (by assumption)); (case hb => first | exact BindsTo.of_eq rfl | exact binds_K (St.kin' (by assumption)) rfl (by k_is) rfl rfl rfl)
  (case hk => exact rfl); (case hck => exact rfl); (case h1 => exact rfl); (case h2 => exact rfl); (case h3 => exact rfl)
  intro L1 s1 hk1 f
  have hR' := fun env => hR.deeper (n := 19) env
  walk_at "mzr"
  with_reducible refine join_method ?_
  walk_at "mzr"
  refine' gen2 (C := C) 12 ?fv (hR' _).2.2 (hR' _).depth (by exact rfl) (P := 810) ?hK (hts _ (by decide)) ?_
  case fv => exact Fn.view (Fn.at (by with_reducible assumption) (by exact rfl))
  case hK => kernel_rfl
  walk_at "mzr"
  refine sp_rows (Fn.st (Fn.at (by with_reducible assumption) (by exact rfl))) ((hR' _).less (by decide)) hf fun s2 gr2 => ?_
  have st2 := Gr.st (Fn.st (Fn.at (by with_reducible assumption) (by exact rfl))) gr2
  refine list_itG (C := C) (K := (Mine.hd.K C.w.params)) (g := g) (vs := [Value.ref row]) (Sl := []) st2 hD (by simp) fun I g₂ s₂ it => ?_
  have it2 := ItG.trans (Fn.st (Fn.at (by with_reducible assumption) (by exact rfl))) gr2 it
  have up2 : Sub g g₂ := let ⟨_, _, _, _, _, _, _, e⟩ := it2; e.up
  refine ⟨I, g₂, 1, k, _, fun i j u => (es.map Value.ref)[j]? = some u, fun j v => ∃ b t, v = Value.bytes b t ∧ KBw.bInts b = (fun j => digits 256 640 (dig (2 ^ 20) ((ns j).map fun c => (524288 - c).fmod 8380417))) j, rfl, it2, ?_, ?_, ?_⟩
  · intro L code A' Sl i v gk s' τ E' hRA hi hP fe hx1 hσ sube hSl
    have hi0 : i = 0 := by omega
    subst hi0
    have hv : v = .ref row := by simpa using hP.symm
    subst hv
    have hr' : gk.IsList row (es.map Value.ref).toArray := IsList.up hr (fun b o e => sube b o (up2 b o e))
    walk_at "mzr"
    refine list_itG (C := C) (K := (Mine.hd.K C.w.params)) (Sl := Sl) (Fn.st (Fn.at fe (by exact rfl))) hr' (fun q => ?_) fun J g3 s3 itj => ⟨J, g3, rfl, ?_⟩
    · obtain ⟨o, ho, _⟩ := IsList.up hr up2
      rw [hSl row q] at ho; cases ho
    · rw [List.length_map, hes] at itj
      exact itj.same_l (by exact rfl)
  · intro L code A' i j v u gk s' τ E' hRA hi hj hP1 hP2 fe hx2 hσ sube
    have hi0 : i = 0 := by omega
    subst hi0
    have subg : Sub g gk := fun b o e => sube b o (up2 b o e)
    obtain ⟨e, he, rfl⟩ : ∃ e, es[j]? = some e ∧ Value.ref e = u := by rw [List.getElem?_map] at hP2; exact Option.map_eq_some_iff.mp hP2
    have hpe : PolyAt gk e p (ns j) := (hpoly j e he).up subg
    have hpr := hp.up subg
    obtain ⟨l, vs, hfe, _⟩ := id hpe
    have heta : τ "gamma_1" = some (.int 524288 u) := (hσ _ (by decide)).trans rfl
    walk_at "mzr"
    refine sp_pack_z19 (u := u) (Fn.st (Fn.at fe (by exact rfl))) (hRA.less (by decide)) hpe hpr (hl j hj) (hc j hj) fun b t g4 s4 gr4 hb => ⟨g4, Gr.same_l gr4 (by exact rfl), ?_⟩
    rw [Nat.zero_mul, Nat.zero_add]
    exact ⟨b, t, rfl, hb⟩
  · intro cenv gn gZ a s5 fr upZ
    walk_at "mzr"
    rw [Nat.one_mul] at fr
    refine join_gen fr ((hR' _).less (by decide)) hk (fun j => by rw [digits_len]; decide) fun b t g6 s6 gr6 hb => ?_
    have f6 := (Fn.at f (by exact rfl)).gr gr6
    walk_at "mzr"
    exact h _ _ _ _ f6.done hb

theorem sp_packed_0 {A : Around} {g : Heap} {s : Shared} {y m p : Addr} {k : Nat} {ns : Nat → List Int} {t0 : Tok} {Q : Value → Shared → Prop} {E : Value → Shared → Prop} (hts : ∀ P ∈ ptabs, P ∈ C.ts) (st : St C (Mine.hd.K C.w.params) g s) (hR : Room A 22) (hy : VecOf g y m p k ns) (hp : RingAt g p)
    (hk : k = 1 ∨ k = 2) (hl : ∀ j < k, (ns j).length = 256) (hc : ∀ j < k, ∀ c ∈ (ns j), 0 ≤ c ∧ c < 2 ^ 10)
    (h : ∀ b t g' s', Gr C g s g' s' → KBw.bInts b = (List.range k).flatMap (fun j => digits 256 320 (dig (2 ^ 10) (ns j))) → Q (.bytes b t) s') : wpAny C.M A (call (.ref 970) [.int 0 t0, .ref y]) Q E s := by
  obtain ⟨es, ⟨D, row, hf, hD, hr⟩, hes, hpoly⟩ := id hy
  (refine' call_fn (binds := [("kind", .int 0 t0), ("vector", .ref y)]) ?st ?ho ?hcd ?hroom ?hb ?hk ?hck ?_ ?h1 ?h2 ?h3)
  (case st => first | with_reducible assumption | exact (Fn.st (by with_reducible assumption)).at rfl); (case ho => k_is); (case hcd => k_is)
  (case hroom => exact Room.depth (by assumption)); (case hb => first | exact BindsTo.of_eq rfl | exact binds_K (St.kin' (by assumption)) rfl (by k_is) rfl rfl rfl)
  (case hk => exact rfl); (case hck => exact rfl); (case h1 => exact rfl); (case h2 => exact rfl); (case h3 => exact rfl)
  intro L1 s1 hk1 f
  have hR' := fun env => hR.deeper (n := 21) env
  walk_at "mzr"
  refine sp_vpack_t1 (u := 0) hts (Fn.st (Fn.at f (by exact rfl))) ((hR' _).less (by decide)) hy hp hk hl hc fun b t g6 s6 gr6 hb => ?_
  have f6 := (Fn.at f (by exact rfl)).gr gr6
  walk_at "mzr"
  exact h _ _ _ _ f6.done hb

theorem sp_packed_1 {A : Around} {g : Heap} {s : Shared} {y m p : Addr} {k : Nat} {ns : Nat → List Int} {t0 : Tok} {Q : Value → Shared → Prop} {E : Value → Shared → Prop} (hts : ∀ P ∈ ptabs, P ∈ C.ts) (st : St C (Mine.hd.K C.w.params) g s) (hR : Room A 22) (hy : VecOf g y m p k ns) (hp : RingAt g p)
    (hk : k = 1 ∨ k = 2) (hl : ∀ j < k, (ns j).length = 256) (hc : ∀ j < k, ∀ c ∈ ((ns j).map fun c => 1 * 2 ^ (12 : Int).toNat - c), 0 ≤ c ∧ c < 2 ^ 13)
    (h : ∀ b t g' s', Gr C g s g' s' → KBw.bInts b = (List.range k).flatMap (fun j => digits 256 416 (dig (2 ^ 13) ((ns j).map fun c => 1 * 2 ^ (12 : Int).toNat - c))) → Q (.bytes b t) s') : wpAny C.M A (call (.ref 970) [.int 1 t0, .ref y]) Q E s := by
  obtain ⟨es, ⟨D, row, hf, hD, hr⟩, hes, hpoly⟩ := id hy
  (refine' call_fn (binds := [("kind", .int 1 t0), ("vector", .ref y)]) ?st ?ho ?hcd ?hroom ?hb ?hk ?hck ?_ ?h1 ?h2 ?h3)
  (case st => first | with_reducible assumption | exact (Fn.st (by with_reducible assumption)).at rfl); (case ho => k_is); (case hcd => k_is)
  (case hroom => exact Room.depth (by assumption)); (case hb => first | exact BindsTo.of_eq rfl | exact binds_K (St.kin' (by assumption)) rfl (by k_is) rfl rfl rfl)
  (case hk => exact rfl); (case hck => exact rfl); (case h1 => exact rfl); (case h2 => exact rfl); (case h3 => exact rfl)
  intro L1 s1 hk1 f
  have hR' := fun env => hR.deeper (n := 21) env
  walk_at "mzr"
  refine sp_vpack_t0 (u := 0) hts (Fn.st (Fn.at f (by exact rfl))) ((hR' _).less (by decide)) hy hp hk hl hc fun b t g6 s6 gr6 hb => ?_
  have f6 := (Fn.at f (by exact rfl)).gr gr6
  walk_at "mzr"
  exact h _ _ _ _ f6.done hb

theorem sp_packed_2 {A : Around} {g : Heap} {s : Shared} {y m p : Addr} {k : Nat} {ns : Nat → List Int} {t0 : Tok} {Q : Value → Shared → Prop} {E : Value → Shared → Prop} (hts : ∀ P ∈ ptabs, P ∈ C.ts) (st : St C (Mine.hd.K C.w.params) g s) (hR : Room A 22) (hy : VecOf g y m p k ns) (hp : RingAt g p)
    (hk : k = 1 ∨ k = 2) (hl : ∀ j < k, (ns j).length = 256) (hc : ∀ j < k, ∀ c ∈ ((ns j).map fun c => (2 - c).fmod 8380417), 0 ≤ c ∧ c < 2 ^ 3)
    (h : ∀ b t g' s', Gr C g s g' s' → KBw.bInts b = (List.range k).flatMap (fun j => digits 256 96 (dig (2 ^ 3) ((ns j).map fun c => (2 - c).fmod 8380417))) → Q (.bytes b t) s') : wpAny C.M A (call (.ref 970) [.int 2 t0, .ref y]) Q E s := by
  obtain ⟨es, ⟨D, row, hf, hD, hr⟩, hes, hpoly⟩ := id hy
  (refine' call_fn (binds := [("kind", .int 2 t0), ("vector", .ref y)]) ?st ?ho ?hcd ?hroom ?hb ?hk ?hck ?_ ?h1 ?h2 ?h3)
  (case st => first | with_reducible assumption | exact (Fn.st (by with_reducible assumption)).at rfl); (case ho => k_is); (case hcd => k_is)
  (case hroom => exact Room.depth (by assumption)); (case hb => first | exact BindsTo.of_eq rfl | exact binds_K (St.kin' (by assumption)) rfl (by k_is) rfl rfl rfl)
  (case hk => exact rfl); (case hck => exact rfl); (case h1 => exact rfl); (case h2 => exact rfl); (case h3 => exact rfl)
  intro L1 s1 hk1 f
  have hR' := fun env => hR.deeper (n := 21) env
  walk_at "mzr"
  refine sp_vpack_s2 (u := _) hts (Fn.st (Fn.at f (by exact rfl))) ((hR' _).less (by decide)) hy hp hk hl hc fun b t g6 s6 gr6 hb => ?_
  have f6 := (Fn.at f (by exact rfl)).gr gr6
  walk_at "mzr"
  exact h _ _ _ _ f6.done hb

theorem sp_packed_3 {A : Around} {g : Heap} {s : Shared} {y m p : Addr} {k : Nat} {ns : Nat → List Int} {t0 : Tok} {Q : Value → Shared → Prop} {E : Value → Shared → Prop} (hts : ∀ P ∈ ptabs, P ∈ C.ts) (st : St C (Mine.hd.K C.w.params) g s) (hR : Room A 22) (hy : VecOf g y m p k ns) (hp : RingAt g p)
    (hk : k = 1 ∨ k = 2) (hl : ∀ j < k, (ns j).length = 256) (hc : ∀ j < k, ∀ c ∈ ((ns j).map fun c => (4 - c).fmod 8380417), 0 ≤ c ∧ c < 2 ^ 4)
    (h : ∀ b t g' s', Gr C g s g' s' → KBw.bInts b = (List.range k).flatMap (fun j => digits 256 128 (dig (2 ^ 4) ((ns j).map fun c => (4 - c).fmod 8380417))) → Q (.bytes b t) s') : wpAny C.M A (call (.ref 970) [.int 3 t0, .ref y]) Q E s := by
  obtain ⟨es, ⟨D, row, hf, hD, hr⟩, hes, hpoly⟩ := id hy
  (refine' call_fn (binds := [("kind", .int 3 t0), ("vector", .ref y)]) ?st ?ho ?hcd ?hroom ?hb ?hk ?hck ?_ ?h1 ?h2 ?h3)
  (case st => first | with_reducible assumption | exact (Fn.st (by with_reducible assumption)).at rfl); (case ho => k_is); (case hcd => k_is)
  (case hroom => exact Room.depth (by assumption)); (case hb => first | exact BindsTo.of_eq rfl | exact binds_K (St.kin' (by assumption)) rfl (by k_is) rfl rfl rfl)
  (case hk => exact rfl); (case hck => exact rfl); (case h1 => exact rfl); (case h2 => exact rfl); (case h3 => exact rfl)
  intro L1 s1 hk1 f
  have hR' := fun env => hR.deeper (n := 21) env
  walk_at "mzr"
  refine sp_vpack_s4 (u := _) hts (Fn.st (Fn.at f (by exact rfl))) ((hR' _).less (by decide)) hy hp hk hl hc fun b t g6 s6 gr6 hb => ?_
  have f6 := (Fn.at f (by exact rfl)).gr gr6
  walk_at "mzr"
  exact h _ _ _ _ f6.done hb

theorem sp_packed_4 {A : Around} {g : Heap} {s : Shared} {y m p : Addr} {k : Nat} {ns : Nat → List Int} {t0 : Tok} {Q : Value → Shared → Prop} {E : Value → Shared → Prop} (hts : ∀ P ∈ ptabs, P ∈ C.ts) (st : St C (Mine.hd.K C.w.params) g s) (hR : Room A 22) (hy : VecOf g y m p k ns) (hp : RingAt g p)
    (hk : k = 1 ∨ k = 2) (hl : ∀ j < k, (ns j).length = 256) (hc : ∀ j < k, ∀ c ∈ (ns j), 0 ≤ c ∧ c < 2 ^ 6)
    (h : ∀ b t g' s', Gr C g s g' s' → KBw.bInts b = (List.range k).flatMap (fun j => digits 256 192 (dig (2 ^ 6) (ns j))) → Q (.bytes b t) s') : wpAny C.M A (call (.ref 970) [.int 4 t0, .ref y]) Q E s := by
  obtain ⟨es, ⟨D, row, hf, hD, hr⟩, hes, hpoly⟩ := id hy
  (refine' call_fn (binds := [("kind", .int 4 t0), ("vector", .ref y)]) ?st ?ho ?hcd ?hroom ?hb ?hk ?hck ?_ ?h1 ?h2 ?h3)
  (case st => first | with_reducible assumption | exact (Fn.st (by with_reducible assumption)).at rfl); (case ho => k_is); (case hcd => k_is)
  (case hroom => exact Room.depth (by assumption)); (case hb => first | exact BindsTo.of_eq rfl | exact binds_K (St.kin' (by assumption)) rfl (by k_is) rfl rfl rfl)
  (case hk => exact rfl); (case hck => exact rfl); (case h1 => exact rfl); (case h2 => exact rfl); (case h3 => exact rfl)
  intro L1 s1 hk1 f
  have hR' := fun env => hR.deeper (n := 21) env
  walk_at "mzr"
  refine sp_vpack_w6 (u := _) hts (Fn.st (Fn.at f (by exact rfl))) ((hR' _).less (by decide)) hy hp hk hl hc fun b t g6 s6 gr6 hb => ?_
  have f6 := (Fn.at f (by exact rfl)).gr gr6
  walk_at "mzr"
  exact h _ _ _ _ f6.done hb

theorem sp_packed_5 {A : Around} {g : Heap} {s : Shared} {y m p : Addr} {k : Nat} {ns : Nat → List Int} {t0 : Tok} {Q : Value → Shared → Prop} {E : Value → Shared → Prop} (hts : ∀ P ∈ ptabs, P ∈ C.ts) (st : St C (Mine.hd.K C.w.params) g s) (hR : Room A 22) (hy : VecOf g y m p k ns) (hp : RingAt g p)
    (hk : k = 1 ∨ k = 2) (hl : ∀ j < k, (ns j).length = 256) (hc : ∀ j < k, ∀ c ∈ (ns j), 0 ≤ c ∧ c < 2 ^ 4)
    (h : ∀ b t g' s', Gr C g s g' s' → KBw.bInts b = (List.range k).flatMap (fun j => digits 256 128 (dig (2 ^ 4) (ns j))) → Q (.bytes b t) s') : wpAny C.M A (call (.ref 970) [.int 5 t0, .ref y]) Q E s := by
  obtain ⟨es, ⟨D, row, hf, hD, hr⟩, hes, hpoly⟩ := id hy
  (refine' call_fn (binds := [("kind", .int 5 t0), ("vector", .ref y)]) ?st ?ho ?hcd ?hroom ?hb ?hk ?hck ?_ ?h1 ?h2 ?h3)
  (case st => first | with_reducible assumption | exact (Fn.st (by with_reducible assumption)).at rfl); (case ho => k_is); (case hcd => k_is)
  (case hroom => exact Room.depth (by assumption)); (case hb => first | exact BindsTo.of_eq rfl | exact binds_K (St.kin' (by assumption)) rfl (by k_is) rfl rfl rfl)
  (case hk => exact rfl); (case hck => exact rfl); (case h1 => exact rfl); (case h2 => exact rfl); (case h3 => exact rfl)
  intro L1 s1 hk1 f
  have hR' := fun env => hR.deeper (n := 21) env
  walk_at "mzr"
  refine sp_vpack_w4 (u := _) hts (Fn.st (Fn.at f (by exact rfl))) ((hR' _).less (by decide)) hy hp hk hl hc fun b t g6 s6 gr6 hb => ?_
  have f6 := (Fn.at f (by exact rfl)).gr gr6
  walk_at "mzr"
  exact h _ _ _ _ f6.done hb

theorem sp_packed_6 {A : Around} {g : Heap} {s : Shared} {y m p : Addr} {k : Nat} {ns : Nat → List Int} {t0 : Tok} {Q : Value → Shared → Prop} {E : Value → Shared → Prop} (hts : ∀ P ∈ ptabs, P ∈ C.ts) (st : St C (Mine.hd.K C.w.params) g s) (hR : Room A 22) (hy : VecOf g y m p k ns) (hp : RingAt g p)
    (hk : k = 1 ∨ k = 2) (hl : ∀ j < k, (ns j).length = 256) (hc : ∀ j < k, ∀ c ∈ ((ns j).map fun c => (131072 - c).fmod 8380417), 0 ≤ c ∧ c < 2 ^ 18)
    (h : ∀ b t g' s', Gr C g s g' s' → KBw.bInts b = (List.range k).flatMap (fun j => digits 256 576 (dig (2 ^ 18) ((ns j).map fun c => (131072 - c).fmod 8380417))) → Q (.bytes b t) s') : wpAny C.M A (call (.ref 970) [.int 6 t0, .ref y]) Q E s := by
  obtain ⟨es, ⟨D, row, hf, hD, hr⟩, hes, hpoly⟩ := id hy
  (refine' call_fn (binds := [("kind", .int 6 t0), ("vector", .ref y)]) ?st ?ho ?hcd ?hroom ?hb ?hk ?hck ?_ ?h1 ?h2 ?h3)
  (case st => first | with_reducible assumption | exact (Fn.st (by with_reducible assumption)).at rfl); (case ho => k_is); (case hcd => k_is)
  (case hroom => exact Room.depth (by assumption)); (case hb => first | exact BindsTo.of_eq rfl | exact binds_K (St.kin' (by assumption)) rfl (by k_is) rfl rfl rfl)
  (case hk => exact rfl); (case hck => exact rfl); (case h1 => exact rfl); (case h2 => exact rfl); (case h3 => exact rfl)
  intro L1 s1 hk1 f
  have hR' := fun env => hR.deeper (n := 21) env
  walk_at "mzr"
  refine sp_vpack_z17 (u := _) hts (Fn.st (Fn.at f (by exact rfl))) ((hR' _).less (by decide)) hy hp hk hl hc fun b t g6 s6 gr6 hb => ?_
  have f6 := (Fn.at f (by exact rfl)).gr gr6
  walk_at "mzr"
  exact h _ _ _ _ f6.done hb

theorem sp_packed_7 {A : Around} {g : Heap} {s : Shared} {y m p : Addr} {k : Nat} {ns : Nat → List Int} {t0 : Tok} {Q : Value → Shared → Prop} {E : Value → Shared → Prop} (hts : ∀ P ∈ ptabs, P ∈ C.ts) (st : St C (Mine.hd.K C.w.params) g s) (hR : Room A 22) (hy : VecOf g y m p k ns) (hp : RingAt g p)
    (hk : k = 1 ∨ k = 2) (hl : ∀ j < k, (ns j).length = 256) (hc : ∀ j < k, ∀ c ∈ ((ns j).map fun c => (524288 - c).fmod 8380417), 0 ≤ c ∧ c < 2 ^ 20)
    (h : ∀ b t g' s', Gr C g s g' s' → KBw.bInts b = (List.range k).flatMap (fun j => digits 256 640 (dig (2 ^ 20) ((ns j).map fun c => (524288 - c).fmod 8380417))) → Q (.bytes b t) s') : wpAny C.M A (call (.ref 970) [.int 7 t0, .ref y]) Q E s := by
  obtain ⟨es, ⟨D, row, hf, hD, hr⟩, hes, hpoly⟩ := id hy
  (refine' call_fn (binds := [("kind", .int 7 t0), ("vector", .ref y)]) ?st ?ho ?hcd ?hroom ?hb ?hk ?hck ?_ ?h1 ?h2 ?h3)
  (case st => first | with_reducible assumption | exact (Fn.st (by with_reducible assumption)).at rfl); (case ho => k_is); (case hcd => k_is)
  (case hroom => exact Room.depth (by assumption)); (case hb => first | exact BindsTo.of_eq rfl | exact binds_K (St.kin' (by assumption)) rfl (by k_is) rfl rfl rfl)
  (case hk => exact rfl); (case hck => exact rfl); (case h1 => exact rfl); (case h2 => exact rfl); (case h3 => exact rfl)
  intro L1 s1 hk1 f
  have hR' := fun env => hR.deeper (n := 21) env
  walk_at "mzr"
  refine sp_vpack_z19 (u := _) hts (Fn.st (Fn.at f (by exact rfl))) ((hR' _).less (by decide)) hy hp hk hl hc fun b t g6 s6 gr6 hb => ?_
  have f6 := (Fn.at f (by exact rfl)).gr gr6
  walk_at "mzr"
  exact h _ _ _ _ f6.done hb

/-- ring._bit_unpack, octets that do not fit -/
theorem sp_rbu_x {A : Around} {base g : Heap} {fl : List Env} {s : Shared} {p : Addr} {b : Array UInt8} {n : Int} {t u : Tok} {Q : Value → Shared → Prop} {E : Value → Shared → Prop} (st : St C (Mine.hd.K C.w.params) g s) (hts : C.ts = []) (hex : C.ex = []) (KB : Below A base fl s.heap) (hR : Room A 4) (hp : RingAt g p)
    (hb : b.size ≤ 10000) (hn : 0 < n ∧ n < 100) (h8 : ((b.size : Int) * n).fmod 8 ≠ 0)
    (h : ∀ e s', Rz base fl e [] s s' → E (.ref e) s') : wpAny C.M A (call (.ref 337) [.ref p, .bytes b t, .int n u]) Q E s := by
  obtain ⟨t1, t2, v1, v2, v3, v4, hp⟩ := hp
  (refine' call_fn (binds := [("self", .ref p), ("input_bytes", .bytes b t), ("n_bits", .int n u)]) ?st ?ho ?hcd ?hroom ?hb ?hk ?hck ?_ ?h1 ?h2 ?h3)
  (case st => first | with_reducible assumption | exact (Fn.st (by with_reducible assumption)).at rfl); (case ho => k_is); (case hcd => k_is)
  (case hroom => exact Room.depth (by assumption)); (case hb => first | exact BindsTo.of_eq rfl | exact binds_K (St.kin' (by assumption)) rfl (by k_is) rfl rfl rfl)
  (case hk => exact rfl); (case hck => exact rfl); (case h1 => exact rfl); (case h2 => exact rfl); (case h3 => exact rfl)
  intro L1 s1 hk1 f
  have hR' := fun env => hR.deeper (n := 3) env
  walk_at "mzr"
  refine len_bytes (by omega) ?_
  walk_at "mzr"
  refine O.mul_ ?hm ?_
  case hm => exact mulOkR (by omega)
  walk_at "mzr"
  rw [if_pos (by simpa using h8)]
  walk_at "mzr"
  refine Raise_new (hR' _).2.2 ?_
  walk_at "mzr"
  refine call_exc_raise excClass_ValueError fun h' e hx => ?_
  refine exit_new KB (Fn.at f (by exact rfl)) hts (by rw [hex]; exact fun b hb => nomatch hb) rfl hx ⟨rfl, rfl, fun _ _ q => q⟩ rfl fun s' hr => h e s' (by rw [hex] at hr; exact hr)

theorem sp_unpack_t1_x {A : Around} {base g : Heap} {fl : List Env} {s : Shared} {p : Addr} {b : Array UInt8} {t u : Tok} {Q : Value → Shared → Prop} {E : Value → Shared → Prop} (st : St C (Mine.hd.K C.w.params) g s) (hts : C.ts = []) (hex : C.ex = []) (KB : Below A base fl s.heap) (hR : Room A 10) (hp : RingAt g p)
    (hb : b.size ≤ 10000) (h8 : ((b.size : Int) * 10).fmod 8 ≠ 0)
    (h : ∀ e s', Rz base fl e [] s s' → E (.ref e) s') : wpAny C.M A (call (.ref 349) [.ref p, .bytes b t]) Q E s := by
  have hp0 := hp
  obtain ⟨t1, t2, v1, v2, v3, v4, hp⟩ := hp
  (refine' call_fn (binds := [("self", .ref p), ("input_bytes", .bytes b t)]) ?st ?ho ?hcd ?hroom ?hb ?hk ?hck ?_ ?h1 ?h2 ?h3)
  (case st => first | with_reducible assumption | exact (Fn.st (by with_reducible assumption)).at rfl); (case ho => k_is); (case hcd => k_is)
  (case hroom => exact Room.depth (by assumption)); (case hb => first | exact BindsTo.of_eq rfl | exact binds_K (St.kin' (by assumption)) rfl (by k_is) rfl rfl rfl)
  (case hk => exact rfl); (case hck => exact rfl); (case h1 => exact rfl); (case h2 => exact rfl); (case h3 => exact rfl)
  intro L1 s1 hk1 f
  have hR' := fun env => hR.deeper (n := 9) env
  walk_at "mzr"
  refine sp_rbu_x (Fn.st (Fn.at f (by exact rfl))) hts hex (below_push KB (Fn.at f (by exact rfl)) hts (by rw [hex]; exact fun b hb => nomatch hb) rfl) ((hR' _).less (by decide)) hp0 hb (by decide) h8 fun e s2 r => ?_
  exact exit_on KB (Fn.at f (by exact rfl)) hts rfl r.x (fun b hb => nomatch hb) fun s' r2 => h e s' (by rw [hex] at r2; exact r2)

theorem sp_unpack_t0_x {A : Around} {base g : Heap} {fl : List Env} {s : Shared} {p : Addr} {b : Array UInt8} {t u : Tok} {Q : Value → Shared → Prop} {E : Value → Shared → Prop} (st : St C (Mine.hd.K C.w.params) g s) (hts : C.ts = []) (hex : C.ex = []) (KB : Below A base fl s.heap) (hR : Room A 10) (hp : RingAt g p)
    (hb : b.size ≤ 10000) (h8 : ((b.size : Int) * 13).fmod 8 ≠ 0)
    (h : ∀ e s', Rz base fl e [] s s' → E (.ref e) s') : wpAny C.M A (call (.ref 342) [.ref p, .bytes b t]) Q E s := by
  have hp0 := hp
  obtain ⟨t1, t2, v1, v2, v3, v4, hp⟩ := hp
  (refine' call_fn (binds := [("self", .ref p), ("input_bytes", .bytes b t)]) ?st ?ho ?hcd ?hroom ?hb ?hk ?hck ?_ ?h1 ?h2 ?h3)
  (case st => first | with_reducible assumption | exact (Fn.st (by with_reducible assumption)).at rfl); (case ho => k_is); (case hcd => k_is)
  (case hroom => exact Room.depth (by assumption)); (case hb => first | exact BindsTo.of_eq rfl | exact binds_K (St.kin' (by assumption)) rfl (by k_is) rfl rfl rfl)
  (case hk => exact rfl); (case hck => exact rfl); (case h1 => exact rfl); (case h2 => exact rfl); (case h3 => exact rfl)
  intro L1 s1 hk1 f
  have hR' := fun env => hR.deeper (n := 9) env
  walk_at "mzr"
  refine sp_rbu_x (Fn.st (Fn.at f (by exact rfl))) hts hex (below_push KB (Fn.at f (by exact rfl)) hts (by rw [hex]; exact fun b hb => nomatch hb) rfl) ((hR' _).less (by decide)) hp0 hb (by decide) h8 fun e s2 r => ?_
  exact exit_on KB (Fn.at f (by exact rfl)) hts rfl r.x (fun b hb => nomatch hb) fun s' r2 => h e s' (by rw [hex] at r2; exact r2)

theorem sp_unpack_s2_x {A : Around} {base g : Heap} {fl : List Env} {s : Shared} {p : Addr} {b : Array UInt8} {t u : Tok} {Q : Value → Shared → Prop} {E : Value → Shared → Prop} (st : St C (Mine.hd.K C.w.params) g s) (hts : C.ts = []) (hex : C.ex = []) (KB : Below A base fl s.heap) (hR : Room A 10) (hp : RingAt g p)
    (hb : b.size ≤ 10000) (h8 : ((b.size : Int) * 3).fmod 8 ≠ 0)
    (h : ∀ e s', Rz base fl e [] s s' → E (.ref e) s') : wpAny C.M A (call (.ref 354) [.ref p, .bytes b t, .int 2 u]) Q E s := by
  have hp0 := hp
  obtain ⟨t1, t2, v1, v2, v3, v4, hp⟩ := hp
  (refine' call_fn (binds := [("self", .ref p), ("input_bytes", .bytes b t), ("eta", .int 2 u)]) ?st ?ho ?hcd ?hroom ?hb ?hk ?hck ?_ ?h1 ?h2 ?h3)
  (case st => first | with_reducible assumption | exact (Fn.st (by with_reducible assumption)).at rfl); (case ho => k_is); (case hcd => k_is)
  (case hroom => exact Room.depth (by assumption)); (case hb => first | exact BindsTo.of_eq rfl | exact binds_K (St.kin' (by assumption)) rfl (by k_is) rfl rfl rfl)
  (case hk => exact rfl); (case hck => exact rfl); (case h1 => exact rfl); (case h2 => exact rfl); (case h3 => exact rfl)
  intro L1 s1 hk1 f
  have hR' := fun env => hR.deeper (n := 9) env
  walk_at "mzr"
  refine sp_rbu_x (Fn.st (Fn.at f (by exact rfl))) hts hex (below_push KB (Fn.at f (by exact rfl)) hts (by rw [hex]; exact fun b hb => nomatch hb) rfl) ((hR' _).less (by decide)) hp0 hb (by decide) h8 fun e s2 r => ?_
  exact exit_on KB (Fn.at f (by exact rfl)) hts rfl r.x (fun b hb => nomatch hb) fun s' r2 => h e s' (by rw [hex] at r2; exact r2)

theorem sp_unpack_s4_x {A : Around} {base g : Heap} {fl : List Env} {s : Shared} {p : Addr} {b : Array UInt8} {t u : Tok} {Q : Value → Shared → Prop} {E : Value → Shared → Prop} (st : St C (Mine.hd.K C.w.params) g s) (hts : C.ts = []) (hex : C.ex = []) (KB : Below A base fl s.heap) (hR : Room A 10) (hp : RingAt g p)
    (hb : b.size ≤ 10000) (h8 : ((b.size : Int) * 4).fmod 8 ≠ 0)
    (h : ∀ e s', Rz base fl e [] s s' → E (.ref e) s') : wpAny C.M A (call (.ref 354) [.ref p, .bytes b t, .int 4 u]) Q E s := by
  have hp0 := hp
  obtain ⟨t1, t2, v1, v2, v3, v4, hp⟩ := hp
  (refine' call_fn (binds := [("self", .ref p), ("input_bytes", .bytes b t), ("eta", .int 4 u)]) ?st ?ho ?hcd ?hroom ?hb ?hk ?hck ?_ ?h1 ?h2 ?h3)
  (case st => first | with_reducible assumption | exact (Fn.st (by with_reducible assumption)).at rfl); (case ho => k_is); (case hcd => k_is)
  (case hroom => exact Room.depth (by assumption)); (case hb => first | exact BindsTo.of_eq rfl | exact binds_K (St.kin' (by assumption)) rfl (by k_is) rfl rfl rfl)
  (case hk => exact rfl); (case hck => exact rfl); (case h1 => exact rfl); (case h2 => exact rfl); (case h3 => exact rfl)
  intro L1 s1 hk1 f
  have hR' := fun env => hR.deeper (n := 9) env
  walk_at "mzr"
  refine sp_rbu_x (Fn.st (Fn.at f (by exact rfl))) hts hex (below_push KB (Fn.at f (by exact rfl)) hts (by rw [hex]; exact fun b hb => nomatch hb) rfl) ((hR' _).less (by decide)) hp0 hb (by decide) h8 fun e s2 r => ?_
  exact exit_on KB (Fn.at f (by exact rfl)) hts rfl r.x (fun b hb => nomatch hb) fun s' r2 => h e s' (by rw [hex] at r2; exact r2)

theorem sp_unpack_w6_x {A : Around} {base g : Heap} {fl : List Env} {s : Shared} {p : Addr} {b : Array UInt8} {t u : Tok} {Q : Value → Shared → Prop} {E : Value → Shared → Prop} (st : St C (Mine.hd.K C.w.params) g s) (hts : C.ts = []) (hex : C.ex = []) (KB : Below A base fl s.heap) (hR : Room A 10) (hp : RingAt g p)
    (hb : b.size ≤ 10000) (h8 : ((b.size : Int) * 6).fmod 8 ≠ 0)
    (h : ∀ e s', Rz base fl e [] s s' → E (.ref e) s') : wpAny C.M A (call (.ref 361) [.ref p, .bytes b t, .int 95232 u]) Q E s := by
  have hp0 := hp
  obtain ⟨t1, t2, v1, v2, v3, v4, hp⟩ := hp
  (refine' call_fn (binds := [("self", .ref p), ("input_bytes", .bytes b t), ("gamma_2", .int 95232 u)]) ?st ?ho ?hcd ?hroom ?hb ?hk ?hck ?_ ?h1 ?h2 ?h3)
  (case st => first | with_reducible assumption | exact (Fn.st (by with_reducible assumption)).at rfl); (case ho => k_is); (case hcd => k_is)
  (case hroom => exact Room.depth (by assumption)); (case hb => first | exact BindsTo.of_eq rfl | exact binds_K (St.kin' (by assumption)) rfl (by k_is) rfl rfl rfl)
  (case hk => exact rfl); (case hck => exact rfl); (case h1 => exact rfl); (case h2 => exact rfl); (case h3 => exact rfl)
  intro L1 s1 hk1 f
  have hR' := fun env => hR.deeper (n := 9) env
  walk_at "mzr"
  refine sp_rbu_x (Fn.st (Fn.at f (by exact rfl))) hts hex (below_push KB (Fn.at f (by exact rfl)) hts (by rw [hex]; exact fun b hb => nomatch hb) rfl) ((hR' _).less (by decide)) hp0 hb (by decide) h8 fun e s2 r => ?_
  exact exit_on KB (Fn.at f (by exact rfl)) hts rfl r.x (fun b hb => nomatch hb) fun s' r2 => h e s' (by rw [hex] at r2; exact r2)

theorem sp_unpack_w4_x {A : Around} {base g : Heap} {fl : List Env} {s : Shared} {p : Addr} {b : Array UInt8} {t u : Tok} {Q : Value → Shared → Prop} {E : Value → Shared → Prop} (st : St C (Mine.hd.K C.w.params) g s) (hts : C.ts = []) (hex : C.ex = []) (KB : Below A base fl s.heap) (hR : Room A 10) (hp : RingAt g p)
    (hb : b.size ≤ 10000) (h8 : ((b.size : Int) * 4).fmod 8 ≠ 0)
    (h : ∀ e s', Rz base fl e [] s s' → E (.ref e) s') : wpAny C.M A (call (.ref 361) [.ref p, .bytes b t, .int 261888 u]) Q E s := by
  have hp0 := hp
  obtain ⟨t1, t2, v1, v2, v3, v4, hp⟩ := hp
  (refine' call_fn (binds := [("self", .ref p), ("input_bytes", .bytes b t), ("gamma_2", .int 261888 u)]) ?st ?ho ?hcd ?hroom ?hb ?hk ?hck ?_ ?h1 ?h2 ?h3)
  (case st => first | with_reducible assumption | exact (Fn.st (by with_reducible assumption)).at rfl); (case ho => k_is); (case hcd => k_is)
  (case hroom => exact Room.depth (by assumption)); (case hb => first | exact BindsTo.of_eq rfl | exact binds_K (St.kin' (by assumption)) rfl (by k_is) rfl rfl rfl)
  (case hk => exact rfl); (case hck => exact rfl); (case h1 => exact rfl); (case h2 => exact rfl); (case h3 => exact rfl)
  intro L1 s1 hk1 f
  have hR' := fun env => hR.deeper (n := 9) env
  walk_at "mzr"
  refine sp_rbu_x (Fn.st (Fn.at f (by exact rfl))) hts hex (below_push KB (Fn.at f (by exact rfl)) hts (by rw [hex]; exact fun b hb => nomatch hb) rfl) ((hR' _).less (by decide)) hp0 hb (by decide) h8 fun e s2 r => ?_
  exact exit_on KB (Fn.at f (by exact rfl)) hts rfl r.x (fun b hb => nomatch hb) fun s' r2 => h e s' (by rw [hex] at r2; exact r2)

theorem sp_unpack_z17_x {A : Around} {base g : Heap} {fl : List Env} {s : Shared} {p : Addr} {b : Array UInt8} {t u : Tok} {Q : Value → Shared → Prop} {E : Value → Shared → Prop} (st : St C (Mine.hd.K C.w.params) g s) (hts : C.ts = []) (hex : C.ex = []) (KB : Below A base fl s.heap) (hR : Room A 10) (hp : RingAt g p)
    (hb : b.size ≤ 10000) (h8 : ((b.size : Int) * 18).fmod 8 ≠ 0)
    (h : ∀ e s', Rz base fl e [] s s' → E (.ref e) s') : wpAny C.M A (call (.ref 366) [.ref p, .bytes b t, .int 131072 u]) Q E s := by
  have hp0 := hp
  obtain ⟨t1, t2, v1, v2, v3, v4, hp⟩ := hp
  (refine' call_fn (binds := [("self", .ref p), ("input_bytes", .bytes b t), ("gamma_1", .int 131072 u)]) ?st ?ho ?hcd ?hroom ?hb ?hk ?hck ?_ ?h1 ?h2 ?h3)
  (case st => first | with_reducible assumption | exact (Fn.st (by with_reducible assumption)).at rfl); (case ho => k_is); (case hcd => k_is)
  (case hroom => exact Room.depth (by assumption)); (case hb => first | exact BindsTo.of_eq rfl | exact binds_K (St.kin' (by assumption)) rfl (by k_is) rfl rfl rfl)
  (case hk => exact rfl); (case hck => exact rfl); (case h1 => exact rfl); (case h2 => exact rfl); (case h3 => exact rfl)
  intro L1 s1 hk1 f
  have hR' := fun env => hR.deeper (n := 9) env
  walk_at "mzr"
  refine O.shl_ (by decide) (by decide) ?_
  walk_at "mzr"
  refine sp_rbu_x (Fn.st (Fn.at f (by exact rfl))) hts hex (below_push KB (Fn.at f (by exact rfl)) hts (by rw [hex]; exact fun b hb => nomatch hb) rfl) ((hR' _).less (by decide)) hp0 hb (by decide) h8 fun e s2 r => ?_
  exact exit_on KB (Fn.at f (by exact rfl)) hts rfl r.x (fun b hb => nomatch hb) fun s' r2 => h e s' (by rw [hex] at r2; exact r2)

theorem sp_unpack_z19_x {A : Around} {base g : Heap} {fl : List Env} {s : Shared} {p : Addr} {b : Array UInt8} {t u : Tok} {Q : Value → Shared → Prop} {E : Value → Shared → Prop} (st : St C (Mine.hd.K C.w.params) g s) (hts : C.ts = []) (hex : C.ex = []) (KB : Below A base fl s.heap) (hR : Room A 10) (hp : RingAt g p)
    (hb : b.size ≤ 10000) (h8 : ((b.size : Int) * 20).fmod 8 ≠ 0)
    (h : ∀ e s', Rz base fl e [] s s' → E (.ref e) s') : wpAny C.M A (call (.ref 366) [.ref p, .bytes b t, .int 524288 u]) Q E s := by
  have hp0 := hp
  obtain ⟨t1, t2, v1, v2, v3, v4, hp⟩ := hp
  (refine' call_fn (binds := [("self", .ref p), ("input_bytes", .bytes b t), ("gamma_1", .int 524288 u)]) ?st ?ho ?hcd ?hroom ?hb ?hk ?hck ?_ ?h1 ?h2 ?h3)
  (case st => first | with_reducible assumption | exact (Fn.st (by with_reducible assumption)).at rfl); (case ho => k_is); (case hcd => k_is)
  (case hroom => exact Room.depth (by assumption)); (case hb => first | exact BindsTo.of_eq rfl | exact binds_K (St.kin' (by assumption)) rfl (by k_is) rfl rfl rfl)
  (case hk => exact rfl); (case hck => exact rfl); (case h1 => exact rfl); (case h2 => exact rfl); (case h3 => exact rfl)
  intro L1 s1 hk1 f
  have hR' := fun env => hR.deeper (n := 9) env
  walk_at "mzr"
  refine O.shl_ (by decide) (by decide) ?_
  walk_at "mzr"
  refine O.shl_ (by decide) (by decide) ?_
  walk_at "mzr"
  refine sp_rbu_x (Fn.st (Fn.at f (by exact rfl))) hts hex (below_push KB (Fn.at f (by exact rfl)) hts (by rw [hex]; exact fun b hb => nomatch hb) rfl) ((hR' _).less (by decide)) hp0 hb (by decide) h8 fun e s2 r => ?_
  exact exit_on KB (Fn.at f (by exact rfl)) hts rfl r.x (fun b hb => nomatch hb) fun s' r2 => h e s' (by rw [hex] at r2; exact r2)

theorem sp_munpack_t1_x {A : Around} {base g : Heap} {fl : List Env} {s : Shared} {m p : Addr} {b : Array UInt8} {k : Nat} {t v u : Tok} {Q : Value → Shared → Prop} {E : Value → Shared → Prop} (hP : C.prog = PySem.Challenge.pw_bn0016_01) (st : St C (Mine.hd.K C.w.params) g s) (hts : C.ts = []) (hex : C.ex = []) (KB : Below A base fl s.heap) (hR : Room A 15) (hm : ModAt g m p)
    (hk : k = 1 ∨ k = 2) (hb : b.size = 320 * k - 1)
    (h : ∀ e s', Rz base fl e [] s s' → E (.ref e) s') : wpAny C.M A (call (.ref 943) [.ref m, .bytes b t, .int k v]) Q E s := by
  have hm0 := hm.1
  have hb1 : b.size ≤ 2000 := by omega
  (refine' call_fn (binds := [("self", .ref m), ("input_bytes", .bytes b t), ("k", .int k v)]) ?st ?ho ?hcd ?hroom ?hb ?hk ?hck ?_ ?h1 ?h2 ?h3)
  (case st => first | with_reducible assumption | exact (Fn.st (by with_reducible assumption)).at rfl); (case ho => k_is); (case hcd => k_is)
  (case hroom => exact Room.depth (by assumption)); (case hb => first | exact BindsTo.of_eq rfl | exact binds_K (St.kin' (by assumption)) rfl (by k_is) rfl rfl rfl)
  (case hk => exact rfl); (case hck => exact rfl); (case h1 => exact rfl); (case h2 => exact rfl); (case h3 => exact rfl)
  intro L1 s1 hk1 f
  have hR' := fun env => hR.deeper (n := 14) env
  walk_at "mzr"
  refine sp_mbu (p := 320) (N := k) (Fn.st (Fn.at (by with_reducible assumption) (by exact rfl))) ((hR' _).less (by decide)) (by omega) (by decide) (by rw [hb]; omega) fun D vs g2 s2 gr2 hD hB => ?_
  have f2 := Fn.gr (Fn.at (by with_reducible assumption) (by exact rfl)) gr2
  have hm2 := hm0.up gr2.up
  have hr2 := hm.2.up gr2.up
  have hvl : vs.length = k := by rw [hB.1]; unfold cutsOf; simp
  walk_at "mzr"
  refine' comp1_nameR (C := C) (base := base) (fl := fl) ?fv hts hex ?kb rfl ?_ ?err
  case fv => exact (by with_reducible assumption)
  case kb => exact below_push KB (by with_reducible assumption) hts (by rw [hex]; exact fun b hb => nomatch hb) rfl
  case err => exact fun e s' rx => exit_on KB (by with_reducible assumption) hts rfl rx (fun b hb => nomatch hb) fun s' r2 => h e s' (by rw [hex] at r2; exact r2)
  walk_at "mzr"
  refine rangeGo1 (C := C) (k := k) (Fn.st (by with_reducible assumption)) (by exact rfl) (hR' _).2.2 rfl (small_of (by omega) (by omega) (by omega)) fun I g₂ s₂ it => ?_
  refine ⟨I, g₂, k, _, fun i ys g => i < k ∧ PolysAre g p (fun j => (unpL (((KBw.bInts b).drop (320 * j)).take 320) 10)) i ys, rfl, it.same_l (by exact rfl), by rw [sizeLine_eq]; omega, ⟨by omega, [], rfl, rfl, fun j e he => by cases he⟩, fun _ _ _ _ k h => ⟨h.1, h.2.up k⟩, ?_, fun D ys g' s' _ _ _ _ hO => absurd hO.1 (Nat.lt_irrefl _)⟩
  intro Cc i v gk sk se ys hi hP fe sube hlen hO KBe
  obtain ⟨ti, rfl⟩ := hP
  have subk : Sub g2 gk := fun b o e => sube b o (it.gr.up b o e)
  have hm3 := hm2.up subk
  have hr3 := hr2.up subk
  have hD3 := IsList.up hD subk
  obtain ⟨t1, t2, v1, v2, v3, v4, hp3⟩ := hr3
  obtain ⟨w, hw⟩ : ∃ w, vs[i]? = some w := ⟨vs[i]'(by omega), List.getElem?_eq_getElem _⟩
  obtain ⟨bi, tb, rfl, hbi⟩ := hB.2 i w hw
  have hcut : KBw.bInts bi = ((KBw.bInts b).drop (320 * i)).take 320 := by
    unfold cutsOf at hbi
    rw [List.getElem?_map, List.getElem?_range hi] at hbi
    exact (Option.some.inj hbi).symm
  have hbs : bi.size = min 320 (320 * k - 1 - 320 * i) := by
    rw [← KBw.ints_length, hcut, List.length_take, List.length_drop, KBw.ints_length, hb]
  walk_at "mzr"
  refine' itemF (x := .bytes bi tb) fe ?hS hD3 ?h0 ?hfit ?hx ?_ ?hs ?hg
  case hS => exact rfl
  case h0 => omega
  case hfit => omega
  case hx => rw [Int.toNat_natCast]; exact hw
  case hs => with_unfolding_all rfl
  case hg => intro _; with_unfolding_all rfl
  walk_at "mzr"
  by_cases hlast : i + 1 < k
  · have hi0 : i = 0 := by omega
    have hk2 : k = 2 := by omega
    have hbs2 : bi.size = 320 := by rw [hbs, hi0, hk2]; rfl
    refine sp_unpack_t1 (Fn.st (Fn.at fe (by exact rfl))) ((hR' _).less (by decide)) ⟨t1, t2, v1, v2, v3, v4, hp3⟩ (by omega) (by rw [hbs2]; decide) fun y g4 s4 gr4 hy => ?_
    refine ⟨g4, Gr.same_l gr4 (by exact rfl), hlast, ?_⟩
    refine PolysAre.snoc (PolysAre.up gr4.up hO.2) ?_
    rw [← hcut]; exact hy
  · have hbs2 : bi.size = 320 - 1 := by
      have : k = i + 1 := by omega
      rw [hbs, this]; omega
    have KBe' : Below (A.deeper _) base _ ({ se with toks := _ } : Shared).heap := KBe
    refine sp_unpack_t1_x (base := base) (u := 0) (Fn.st (Fn.at fe (by exact rfl))) hts hex KBe ((hR' _).less (by decide)) ⟨t1, t2, v1, v2, v3, v4, hp3⟩ (by omega) (by rw [hbs2]; decide) fun e s4 r => ⟨e, rfl, ?_⟩
    obtain ⟨r1, r2, r3, r4⟩ := r
    exact ⟨r1, r2, ⟨r3.1, r3.2, r3.3⟩, r4⟩

theorem sp_munpack_t0_x {A : Around} {base g : Heap} {fl : List Env} {s : Shared} {m p : Addr} {b : Array UInt8} {k : Nat} {t v u : Tok} {Q : Value → Shared → Prop} {E : Value → Shared → Prop} (hP : C.prog = PySem.Challenge.pw_bn0016_01) (st : St C (Mine.hd.K C.w.params) g s) (hts : C.ts = []) (hex : C.ex = []) (KB : Below A base fl s.heap) (hR : Room A 15) (hm : ModAt g m p)
    (hk : k = 1 ∨ k = 2) (hb : b.size = 416 * k - 1)
    (h : ∀ e s', Rz base fl e [] s s' → E (.ref e) s') : wpAny C.M A (call (.ref 938) [.ref m, .bytes b t, .int k v]) Q E s := by
  have hm0 := hm.1
  have hb1 : b.size ≤ 2000 := by omega
  (refine' call_fn (binds := [("self", .ref m), ("input_bytes", .bytes b t), ("k", .int k v)]) ?st ?ho ?hcd ?hroom ?hb ?hk ?hck ?_ ?h1 ?h2 ?h3)
  (case st => first | with_reducible assumption | exact (Fn.st (by with_reducible assumption)).at rfl); (case ho => k_is); (case hcd => k_is)
  (case hroom => exact Room.depth (by assumption)); (case hb => first | exact BindsTo.of_eq rfl | exact binds_K (St.kin' (by assumption)) rfl (by k_is) rfl rfl rfl)
  (case hk => exact rfl); (case hck => exact rfl); (case h1 => exact rfl); (case h2 => exact rfl); (case h3 => exact rfl)
  intro L1 s1 hk1 f
  have hR' := fun env => hR.deeper (n := 14) env
  walk_at "mzr"
  refine sp_mbu (p := 416) (N := k) (Fn.st (Fn.at (by with_reducible assumption) (by exact rfl))) ((hR' _).less (by decide)) (by omega) (by decide) (by rw [hb]; omega) fun D vs g2 s2 gr2 hD hB => ?_
  have f2 := Fn.gr (Fn.at (by with_reducible assumption) (by exact rfl)) gr2
  have hm2 := hm0.up gr2.up
  have hr2 := hm.2.up gr2.up
  have hvl : vs.length = k := by rw [hB.1]; unfold cutsOf; simp
  walk_at "mzr"
  refine' comp1_nameR (C := C) (base := base) (fl := fl) ?fv hts hex ?kb rfl ?_ ?err
  case fv => exact (by with_reducible assumption)
  case kb => exact below_push KB (by with_reducible assumption) hts (by rw [hex]; exact fun b hb => nomatch hb) rfl
  case err => exact fun e s' rx => exit_on KB (by with_reducible assumption) hts rfl rx (fun b hb => nomatch hb) fun s' r2 => h e s' (by rw [hex] at r2; exact r2)
  walk_at "mzr"
  refine rangeGo1 (C := C) (k := k) (Fn.st (by with_reducible assumption)) (by exact rfl) (hR' _).2.2 rfl (small_of (by omega) (by omega) (by omega)) fun I g₂ s₂ it => ?_
  refine ⟨I, g₂, k, _, fun i ys g => i < k ∧ PolysAre g p (fun j => (unpL (((KBw.bInts b).drop (416 * j)).take 416) 13).map fun c => 1 * 2 ^ (12 : Int).toNat - c) i ys, rfl, it.same_l (by exact rfl), by rw [sizeLine_eq]; omega, ⟨by omega, [], rfl, rfl, fun j e he => by cases he⟩, fun _ _ _ _ k h => ⟨h.1, h.2.up k⟩, ?_, fun D ys g' s' _ _ _ _ hO => absurd hO.1 (Nat.lt_irrefl _)⟩
  intro Cc i v gk sk se ys hi hP fe sube hlen hO KBe
  obtain ⟨ti, rfl⟩ := hP
  have subk : Sub g2 gk := fun b o e => sube b o (it.gr.up b o e)
  have hm3 := hm2.up subk
  have hr3 := hr2.up subk
  have hD3 := IsList.up hD subk
  obtain ⟨t1, t2, v1, v2, v3, v4, hp3⟩ := hr3
  obtain ⟨w, hw⟩ : ∃ w, vs[i]? = some w := ⟨vs[i]'(by omega), List.getElem?_eq_getElem _⟩
  obtain ⟨bi, tb, rfl, hbi⟩ := hB.2 i w hw
  have hcut : KBw.bInts bi = ((KBw.bInts b).drop (416 * i)).take 416 := by
    unfold cutsOf at hbi
    rw [List.getElem?_map, List.getElem?_range hi] at hbi
    exact (Option.some.inj hbi).symm
  have hbs : bi.size = min 416 (416 * k - 1 - 416 * i) := by
    rw [← KBw.ints_length, hcut, List.length_take, List.length_drop, KBw.ints_length, hb]
  walk_at "mzr"
  refine' itemF (x := .bytes bi tb) fe ?hS hD3 ?h0 ?hfit ?hx ?_ ?hs ?hg
  case hS => exact rfl
  case h0 => omega
  case hfit => omega
  case hx => rw [Int.toNat_natCast]; exact hw
  case hs => with_unfolding_all rfl
  case hg => intro _; with_unfolding_all rfl
  walk_at "mzr"
  by_cases hlast : i + 1 < k
  · have hi0 : i = 0 := by omega
    have hk2 : k = 2 := by omega
    have hbs2 : bi.size = 416 := by rw [hbs, hi0, hk2]; rfl
    refine sp_unpack_t0 (Fn.st (Fn.at fe (by exact rfl))) ((hR' _).less (by decide)) ⟨t1, t2, v1, v2, v3, v4, hp3⟩ (by omega) (by rw [hbs2]; decide) fun y g4 s4 gr4 hy => ?_
    refine ⟨g4, Gr.same_l gr4 (by exact rfl), hlast, ?_⟩
    refine PolysAre.snoc (PolysAre.up gr4.up hO.2) ?_
    rw [← hcut]; exact hy
  · have hbs2 : bi.size = 416 - 1 := by
      have : k = i + 1 := by omega
      rw [hbs, this]; omega
    have KBe' : Below (A.deeper _) base _ ({ se with toks := _ } : Shared).heap := KBe
    refine sp_unpack_t0_x (base := base) (u := 0) (Fn.st (Fn.at fe (by exact rfl))) hts hex KBe ((hR' _).less (by decide)) ⟨t1, t2, v1, v2, v3, v4, hp3⟩ (by omega) (by rw [hbs2]; decide) fun e s4 r => ⟨e, rfl, ?_⟩
    obtain ⟨r1, r2, r3, r4⟩ := r
    exact ⟨r1, r2, ⟨r3.1, r3.2, r3.3⟩, r4⟩

theorem sp_munpack_s2_x {A : Around} {base g : Heap} {fl : List Env} {s : Shared} {m p : Addr} {b : Array UInt8} {k : Nat} {t v u : Tok} {Q : Value → Shared → Prop} {E : Value → Shared → Prop} (hP : C.prog = PySem.Challenge.pw_bn0016_01) (st : St C (Mine.hd.K C.w.params) g s) (hts : C.ts = []) (hex : C.ex = []) (KB : Below A base fl s.heap) (hR : Room A 15) (hm : ModAt g m p)
    (hk : k = 1 ∨ k = 2) (hb : b.size = 96 * k - 1)
    (h : ∀ e s', Rz base fl e [] s s' → E (.ref e) s') : wpAny C.M A (call (.ref 948) [.ref m, .bytes b t, .int k v, .int 2 u]) Q E s := by
  have hm0 := hm.1
  have hb1 : b.size ≤ 2000 := by omega
  (refine' call_fn (binds := [("self", .ref m), ("input_bytes", .bytes b t), ("k", .int k v), ("eta", .int 2 u)]) ?st ?ho ?hcd ?hroom ?hb ?hk ?hck ?_ ?h1 ?h2 ?h3)
  (case st => first | with_reducible assumption | exact (Fn.st (by with_reducible assumption)).at rfl); (case ho => k_is); (case hcd => k_is)
  (case hroom => exact Room.depth (by assumption)); (case hb => first | exact BindsTo.of_eq rfl | exact binds_K (St.kin' (by assumption)) rfl (by k_is) rfl rfl rfl)
  (case hk => exact rfl); (case hck => exact rfl); (case h1 => exact rfl); (case h2 => exact rfl); (case h3 => exact rfl)
  intro L1 s1 hk1 f
  have hR' := fun env => hR.deeper (n := 14) env
  walk_at "mzr"
  refine sp_mbu (p := 96) (N := k) (Fn.st (Fn.at (by with_reducible assumption) (by exact rfl))) ((hR' _).less (by decide)) (by omega) (by decide) (by rw [hb]; omega) fun D vs g2 s2 gr2 hD hB => ?_
  have f2 := Fn.gr (Fn.at (by with_reducible assumption) (by exact rfl)) gr2
  have hm2 := hm0.up gr2.up
  have hr2 := hm.2.up gr2.up
  have hvl : vs.length = k := by rw [hB.1]; unfold cutsOf; simp
  walk_at "mzr"
  refine' comp1_nameR (C := C) (base := base) (fl := fl) ?fv hts hex ?kb rfl ?_ ?err
  case fv => exact (by with_reducible assumption)
  case kb => exact below_push KB (by with_reducible assumption) hts (by rw [hex]; exact fun b hb => nomatch hb) rfl
  case err => exact fun e s' rx => exit_on KB (by with_reducible assumption) hts rfl rx (fun b hb => nomatch hb) fun s' r2 => h e s' (by rw [hex] at r2; exact r2)
  walk_at "mzr"
  refine rangeGo1 (C := C) (k := k) (Fn.st (by with_reducible assumption)) (by exact rfl) (hR' _).2.2 rfl (small_of (by omega) (by omega) (by omega)) fun I g₂ s₂ it => ?_
  refine ⟨I, g₂, k, _, fun i ys g => i < k ∧ PolysAre g p (fun j => (unpL (((KBw.bInts b).drop (96 * j)).take 96) 3).map fun c => 2 - c) i ys, rfl, it.same_l (by exact rfl), by rw [sizeLine_eq]; omega, ⟨by omega, [], rfl, rfl, fun j e he => by cases he⟩, fun _ _ _ _ k h => ⟨h.1, h.2.up k⟩, ?_, fun D ys g' s' _ _ _ _ hO => absurd hO.1 (Nat.lt_irrefl _)⟩
  intro Cc i v gk sk se ys hi hP fe sube hlen hO KBe
  obtain ⟨ti, rfl⟩ := hP
  have subk : Sub g2 gk := fun b o e => sube b o (it.gr.up b o e)
  have hm3 := hm2.up subk
  have hr3 := hr2.up subk
  have hD3 := IsList.up hD subk
  obtain ⟨t1, t2, v1, v2, v3, v4, hp3⟩ := hr3
  obtain ⟨w, hw⟩ : ∃ w, vs[i]? = some w := ⟨vs[i]'(by omega), List.getElem?_eq_getElem _⟩
  obtain ⟨bi, tb, rfl, hbi⟩ := hB.2 i w hw
  have hcut : KBw.bInts bi = ((KBw.bInts b).drop (96 * i)).take 96 := by
    unfold cutsOf at hbi
    rw [List.getElem?_map, List.getElem?_range hi] at hbi
    exact (Option.some.inj hbi).symm
  have hbs : bi.size = min 96 (96 * k - 1 - 96 * i) := by
    rw [← KBw.ints_length, hcut, List.length_take, List.length_drop, KBw.ints_length, hb]
  walk_at "mzr"
  refine' itemF (x := .bytes bi tb) fe ?hS hD3 ?h0 ?hfit ?hx ?_ ?hs ?hg
  case hS => exact rfl
  case h0 => omega
  case hfit => omega
  case hx => rw [Int.toNat_natCast]; exact hw
  case hs => with_unfolding_all rfl
  case hg => intro _; with_unfolding_all rfl
  walk_at "mzr"
  by_cases hlast : i + 1 < k
  · have hi0 : i = 0 := by omega
    have hk2 : k = 2 := by omega
    have hbs2 : bi.size = 96 := by rw [hbs, hi0, hk2]; rfl
    refine sp_unpack_s2 (Fn.st (Fn.at fe (by exact rfl))) ((hR' _).less (by decide)) ⟨t1, t2, v1, v2, v3, v4, hp3⟩ (by omega) (by rw [hbs2]; decide) fun y g4 s4 gr4 hy => ?_
    refine ⟨g4, Gr.same_l gr4 (by exact rfl), hlast, ?_⟩
    refine PolysAre.snoc (PolysAre.up gr4.up hO.2) ?_
    rw [← hcut]; exact hy
  · have hbs2 : bi.size = 96 - 1 := by
      have : k = i + 1 := by omega
      rw [hbs, this]; omega
    have KBe' : Below (A.deeper _) base _ ({ se with toks := _ } : Shared).heap := KBe
    refine sp_unpack_s2_x (base := base) (Fn.st (Fn.at fe (by exact rfl))) hts hex KBe ((hR' _).less (by decide)) ⟨t1, t2, v1, v2, v3, v4, hp3⟩ (by omega) (by rw [hbs2]; decide) fun e s4 r => ⟨e, rfl, ?_⟩
    obtain ⟨r1, r2, r3, r4⟩ := r
    exact ⟨r1, r2, ⟨r3.1, r3.2, r3.3⟩, r4⟩

theorem sp_munpack_s4_x {A : Around} {base g : Heap} {fl : List Env} {s : Shared} {m p : Addr} {b : Array UInt8} {k : Nat} {t v u : Tok} {Q : Value → Shared → Prop} {E : Value → Shared → Prop} (hP : C.prog = PySem.Challenge.pw_bn0016_01) (st : St C (Mine.hd.K C.w.params) g s) (hts : C.ts = []) (hex : C.ex = []) (KB : Below A base fl s.heap) (hR : Room A 15) (hm : ModAt g m p)
    (hk : k = 1 ∨ k = 2) (hb : b.size = 128 * k - 1)
    (h : ∀ e s', Rz base fl e [] s s' → E (.ref e) s') : wpAny C.M A (call (.ref 948) [.ref m, .bytes b t, .int k v, .int 4 u]) Q E s := by
  have hm0 := hm.1
  have hb1 : b.size ≤ 2000 := by omega
  (refine' call_fn (binds := [("self", .ref m), ("input_bytes", .bytes b t), ("k", .int k v), ("eta", .int 4 u)]) ?st ?ho ?hcd ?hroom ?hb ?hk ?hck ?_ ?h1 ?h2 ?h3)
  (case st => first | with_reducible assumption | exact (Fn.st (by with_reducible assumption)).at rfl); (case ho => k_is); (case hcd => k_is)
  (case hroom => exact Room.depth (by assumption)); (case hb => first | exact BindsTo.of_eq rfl | exact binds_K (St.kin' (by assumption)) rfl (by k_is) rfl rfl rfl)
  (case hk => exact rfl); (case hck => exact rfl); (case h1 => exact rfl); (case h2 => exact rfl); (case h3 => exact rfl)
  intro L1 s1 hk1 f
  have hR' := fun env => hR.deeper (n := 14) env
  walk_at "mzr"
  refine sp_mbu (p := 128) (N := k) (Fn.st (Fn.at (by with_reducible assumption) (by exact rfl))) ((hR' _).less (by decide)) (by omega) (by decide) (by rw [hb]; omega) fun D vs g2 s2 gr2 hD hB => ?_
  have f2 := Fn.gr (Fn.at (by with_reducible assumption) (by exact rfl)) gr2
  have hm2 := hm0.up gr2.up
  have hr2 := hm.2.up gr2.up
  have hvl : vs.length = k := by rw [hB.1]; unfold cutsOf; simp
  walk_at "mzr"
  refine' comp1_nameR (C := C) (base := base) (fl := fl) ?fv hts hex ?kb rfl ?_ ?err
  case fv => exact (by with_reducible assumption)
  case kb => exact below_push KB (by with_reducible assumption) hts (by rw [hex]; exact fun b hb => nomatch hb) rfl
  case err => exact fun e s' rx => exit_on KB (by with_reducible assumption) hts rfl rx (fun b hb => nomatch hb) fun s' r2 => h e s' (by rw [hex] at r2; exact r2)
  walk_at "mzr"
  refine rangeGo1 (C := C) (k := k) (Fn.st (by with_reducible assumption)) (by exact rfl) (hR' _).2.2 rfl (small_of (by omega) (by omega) (by omega)) fun I g₂ s₂ it => ?_
  refine ⟨I, g₂, k, _, fun i ys g => i < k ∧ PolysAre g p (fun j => (unpL (((KBw.bInts b).drop (128 * j)).take 128) 4).map fun c => 4 - c) i ys, rfl, it.same_l (by exact rfl), by rw [sizeLine_eq]; omega, ⟨by omega, [], rfl, rfl, fun j e he => by cases he⟩, fun _ _ _ _ k h => ⟨h.1, h.2.up k⟩, ?_, fun D ys g' s' _ _ _ _ hO => absurd hO.1 (Nat.lt_irrefl _)⟩
  intro Cc i v gk sk se ys hi hP fe sube hlen hO KBe
  obtain ⟨ti, rfl⟩ := hP
  have subk : Sub g2 gk := fun b o e => sube b o (it.gr.up b o e)
  have hm3 := hm2.up subk
  have hr3 := hr2.up subk
  have hD3 := IsList.up hD subk
  obtain ⟨t1, t2, v1, v2, v3, v4, hp3⟩ := hr3
  obtain ⟨w, hw⟩ : ∃ w, vs[i]? = some w := ⟨vs[i]'(by omega), List.getElem?_eq_getElem _⟩
  obtain ⟨bi, tb, rfl, hbi⟩ := hB.2 i w hw
  have hcut : KBw.bInts bi = ((KBw.bInts b).drop (128 * i)).take 128 := by
    unfold cutsOf at hbi
    rw [List.getElem?_map, List.getElem?_range hi] at hbi
    exact (Option.some.inj hbi).symm
  have hbs : bi.size = min 128 (128 * k - 1 - 128 * i) := by
    rw [← KBw.ints_length, hcut, List.length_take, List.length_drop, KBw.ints_length, hb]
  walk_at "mzr"
  refine' itemF (x := .bytes bi tb) fe ?hS hD3 ?h0 ?hfit ?hx ?_ ?hs ?hg
  case hS => exact rfl
  case h0 => omega
  case hfit => omega
  case hx => rw [Int.toNat_natCast]; exact hw
  case hs => with_unfolding_all rfl
  case hg => intro _; with_unfolding_all rfl
  walk_at "mzr"
  by_cases hlast : i + 1 < k
  · have hi0 : i = 0 := by omega
    have hk2 : k = 2 := by omega
    have hbs2 : bi.size = 128 := by rw [hbs, hi0, hk2]; rfl
    refine sp_unpack_s4 (Fn.st (Fn.at fe (by exact rfl))) ((hR' _).less (by decide)) ⟨t1, t2, v1, v2, v3, v4, hp3⟩ (by omega) (by rw [hbs2]; decide) fun y g4 s4 gr4 hy => ?_
    refine ⟨g4, Gr.same_l gr4 (by exact rfl), hlast, ?_⟩
    refine PolysAre.snoc (PolysAre.up gr4.up hO.2) ?_
    rw [← hcut]; exact hy
  · have hbs2 : bi.size = 128 - 1 := by
      have : k = i + 1 := by omega
      rw [hbs, this]; omega
    have KBe' : Below (A.deeper _) base _ ({ se with toks := _ } : Shared).heap := KBe
    refine sp_unpack_s4_x (base := base) (Fn.st (Fn.at fe (by exact rfl))) hts hex KBe ((hR' _).less (by decide)) ⟨t1, t2, v1, v2, v3, v4, hp3⟩ (by omega) (by rw [hbs2]; decide) fun e s4 r => ⟨e, rfl, ?_⟩
    obtain ⟨r1, r2, r3, r4⟩ := r
    exact ⟨r1, r2, ⟨r3.1, r3.2, r3.3⟩, r4⟩

theorem sp_munpack_w6_x {A : Around} {base g : Heap} {fl : List Env} {s : Shared} {m p : Addr} {b : Array UInt8} {k : Nat} {t v u : Tok} {Q : Value → Shared → Prop} {E : Value → Shared → Prop} (hP : C.prog = PySem.Challenge.pw_bn0016_01) (st : St C (Mine.hd.K C.w.params) g s) (hts : C.ts = []) (hex : C.ex = []) (KB : Below A base fl s.heap) (hR : Room A 15) (hm : ModAt g m p)
    (hk : k = 1 ∨ k = 2) (hb : b.size = 192 * k - 1)
    (h : ∀ e s', Rz base fl e [] s s' → E (.ref e) s') : wpAny C.M A (call (.ref 953) [.ref m, .bytes b t, .int k v, .int 95232 u]) Q E s := by
  have hm0 := hm.1
  have hb1 : b.size ≤ 2000 := by omega
  (refine' call_fn (binds := [("self", .ref m), ("input_bytes", .bytes b t), ("k", .int k v), ("gamma_2", .int 95232 u)]) ?st ?ho ?hcd ?hroom ?hb ?hk ?hck ?_ ?h1 ?h2 ?h3)
  (case st => first | with_reducible assumption | exact (Fn.st (by with_reducible assumption)).at rfl); (case ho => k_is); (case hcd => k_is)
  (case hroom => exact Room.depth (by assumption)); (case hb => first | exact BindsTo.of_eq rfl | exact binds_K (St.kin' (by assumption)) rfl (by k_is) rfl rfl rfl)
  (case hk => exact rfl); (case hck => exact rfl); (case h1 => exact rfl); (case h2 => exact rfl); (case h3 => exact rfl)
  intro L1 s1 hk1 f
  have hR' := fun env => hR.deeper (n := 14) env
  walk_at "mzr"
  refine sp_mbu (p := 192) (N := k) (Fn.st (Fn.at (by with_reducible assumption) (by exact rfl))) ((hR' _).less (by decide)) (by omega) (by decide) (by rw [hb]; omega) fun D vs g2 s2 gr2 hD hB => ?_
  have f2 := Fn.gr (Fn.at (by with_reducible assumption) (by exact rfl)) gr2
  have hm2 := hm0.up gr2.up
  have hr2 := hm.2.up gr2.up
  have hvl : vs.length = k := by rw [hB.1]; unfold cutsOf; simp
  walk_at "mzr"
  refine' comp1_nameR (C := C) (base := base) (fl := fl) ?fv hts hex ?kb rfl ?_ ?err
  case fv => exact (by with_reducible assumption)
  case kb => exact below_push KB (by with_reducible assumption) hts (by rw [hex]; exact fun b hb => nomatch hb) rfl
  case err => exact fun e s' rx => exit_on KB (by with_reducible assumption) hts rfl rx (fun b hb => nomatch hb) fun s' r2 => h e s' (by rw [hex] at r2; exact r2)
  walk_at "mzr"
  refine rangeGo1 (C := C) (k := k) (Fn.st (by with_reducible assumption)) (by exact rfl) (hR' _).2.2 rfl (small_of (by omega) (by omega) (by omega)) fun I g₂ s₂ it => ?_
  refine ⟨I, g₂, k, _, fun i ys g => i < k ∧ PolysAre g p (fun j => (unpL (((KBw.bInts b).drop (192 * j)).take 192) 6)) i ys, rfl, it.same_l (by exact rfl), by rw [sizeLine_eq]; omega, ⟨by omega, [], rfl, rfl, fun j e he => by cases he⟩, fun _ _ _ _ k h => ⟨h.1, h.2.up k⟩, ?_, fun D ys g' s' _ _ _ _ hO => absurd hO.1 (Nat.lt_irrefl _)⟩
  intro Cc i v gk sk se ys hi hP fe sube hlen hO KBe
  obtain ⟨ti, rfl⟩ := hP
  have subk : Sub g2 gk := fun b o e => sube b o (it.gr.up b o e)
  have hm3 := hm2.up subk
  have hr3 := hr2.up subk
  have hD3 := IsList.up hD subk
  obtain ⟨t1, t2, v1, v2, v3, v4, hp3⟩ := hr3
  obtain ⟨w, hw⟩ : ∃ w, vs[i]? = some w := ⟨vs[i]'(by omega), List.getElem?_eq_getElem _⟩
  obtain ⟨bi, tb, rfl, hbi⟩ := hB.2 i w hw
  have hcut : KBw.bInts bi = ((KBw.bInts b).drop (192 * i)).take 192 := by
    unfold cutsOf at hbi
    rw [List.getElem?_map, List.getElem?_range hi] at hbi
    exact (Option.some.inj hbi).symm
  have hbs : bi.size = min 192 (192 * k - 1 - 192 * i) := by
    rw [← KBw.ints_length, hcut, List.length_take, List.length_drop, KBw.ints_length, hb]
  walk_at "mzr"
  refine' itemF (x := .bytes bi tb) fe ?hS hD3 ?h0 ?hfit ?hx ?_ ?hs ?hg
  case hS => exact rfl
  case h0 => omega
  case hfit => omega
  case hx => rw [Int.toNat_natCast]; exact hw
  case hs => with_unfolding_all rfl
  case hg => intro _; with_unfolding_all rfl
  walk_at "mzr"
  by_cases hlast : i + 1 < k
  · have hi0 : i = 0 := by omega
    have hk2 : k = 2 := by omega
    have hbs2 : bi.size = 192 := by rw [hbs, hi0, hk2]; rfl
    refine sp_unpack_w6 (Fn.st (Fn.at fe (by exact rfl))) ((hR' _).less (by decide)) ⟨t1, t2, v1, v2, v3, v4, hp3⟩ (by omega) (by rw [hbs2]; decide) fun y g4 s4 gr4 hy => ?_
    refine ⟨g4, Gr.same_l gr4 (by exact rfl), hlast, ?_⟩
    refine PolysAre.snoc (PolysAre.up gr4.up hO.2) ?_
    rw [← hcut]; exact hy
  · have hbs2 : bi.size = 192 - 1 := by
      have : k = i + 1 := by omega
      rw [hbs, this]; omega
    have KBe' : Below (A.deeper _) base _ ({ se with toks := _ } : Shared).heap := KBe
    refine sp_unpack_w6_x (base := base) (Fn.st (Fn.at fe (by exact rfl))) hts hex KBe ((hR' _).less (by decide)) ⟨t1, t2, v1, v2, v3, v4, hp3⟩ (by omega) (by rw [hbs2]; decide) fun e s4 r => ⟨e, rfl, ?_⟩
    obtain ⟨r1, r2, r3, r4⟩ := r
    exact ⟨r1, r2, ⟨r3.1, r3.2, r3.3⟩, r4⟩

theorem sp_munpack_w4_x {A : Around} {base g : Heap} {fl : List Env} {s : Shared} {m p : Addr} {b : Array UInt8} {k : Nat} {t v u : Tok} {Q : Value → Shared → Prop} {E : Value → Shared → Prop} (hP : C.prog = PySem.Challenge.pw_bn0016_01) (st : St C (Mine.hd.K C.w.params) g s) (hts : C.ts = []) (hex : C.ex = []) (KB : Below A base fl s.heap) (hR : Room A 15) (hm : ModAt g m p)
    (hk : k = 1 ∨ k = 2) (hb : b.size = 128 * k - 1)
    (h : ∀ e s', Rz base fl e [] s s' → E (.ref e) s') : wpAny C.M A (call (.ref 953) [.ref m, .bytes b t, .int k v, .int 261888 u]) Q E s := by
  have hm0 := hm.1
  have hb1 : b.size ≤ 2000 := by omega
  (refine' call_fn (binds := [("self", .ref m), ("input_bytes", .bytes b t), ("k", .int k v), ("gamma_2", .int 261888 u)]) ?st ?ho ?hcd ?hroom ?hb ?hk ?hck ?_ ?h1 ?h2 ?h3)
  (case st => first | with_reducible assumption | exact (Fn.st (by with_reducible assumption)).at rfl); (case ho => k_is); (case hcd => k_is)
  (case hroom => exact Room.depth (by assumption)); (case hb => first | exact BindsTo.of_eq rfl | exact binds_K (St.kin' (by assumption)) rfl (by k_is) rfl rfl rfl)
  (case hk => exact rfl); (case hck => exact rfl); (case h1 => exact rfl); (case h2 => exact rfl); (case h3 => exact rfl)
  intro L1 s1 hk1 f
  have hR' := fun env => hR.deeper (n := 14) env
  walk_at "mzr"
  refine sp_mbu (p := 128) (N := k) (Fn.st (Fn.at (by with_reducible assumption) (by exact rfl))) ((hR' _).less (by decide)) (by omega) (by decide) (by rw [hb]; omega) fun D vs g2 s2 gr2 hD hB => ?_
  have f2 := Fn.gr (Fn.at (by with_reducible assumption) (by exact rfl)) gr2
  have hm2 := hm0.up gr2.up
  have hr2 := hm.2.up gr2.up
  have hvl : vs.length = k := by rw [hB.1]; unfold cutsOf; simp
  walk_at "mzr"
  refine' comp1_nameR (C := C) (base := base) (fl := fl) ?fv hts hex ?kb rfl ?_ ?err
  case fv => exact (by with_reducible assumption)
  case kb => exact below_push KB (by with_reducible assumption) hts (by rw [hex]; exact fun b hb => nomatch hb) rfl
  case err => exact fun e s' rx => exit_on KB (by with_reducible assumption) hts rfl rx (fun b hb => nomatch hb) fun s' r2 => h e s' (by rw [hex] at r2; exact r2)
  walk_at "mzr"
  refine rangeGo1 (C := C) (k := k) (Fn.st (by with_reducible assumption)) (by exact rfl) (hR' _).2.2 rfl (small_of (by omega) (by omega) (by omega)) fun I g₂ s₂ it => ?_
  refine ⟨I, g₂, k, _, fun i ys g => i < k ∧ PolysAre g p (fun j => (unpL (((KBw.bInts b).drop (128 * j)).take 128) 4)) i ys, rfl, it.same_l (by exact rfl), by rw [sizeLine_eq]; omega, ⟨by omega, [], rfl, rfl, fun j e he => by cases he⟩, fun _ _ _ _ k h => ⟨h.1, h.2.up k⟩, ?_, fun D ys g' s' _ _ _ _ hO => absurd hO.1 (Nat.lt_irrefl _)⟩
  intro Cc i v gk sk se ys hi hP fe sube hlen hO KBe
  obtain ⟨ti, rfl⟩ := hP
  have subk : Sub g2 gk := fun b o e => sube b o (it.gr.up b o e)
  have hm3 := hm2.up subk
  have hr3 := hr2.up subk
  have hD3 := IsList.up hD subk
  obtain ⟨t1, t2, v1, v2, v3, v4, hp3⟩ := hr3
  obtain ⟨w, hw⟩ : ∃ w, vs[i]? = some w := ⟨vs[i]'(by omega), List.getElem?_eq_getElem _⟩
  obtain ⟨bi, tb, rfl, hbi⟩ := hB.2 i w hw
  have hcut : KBw.bInts bi = ((KBw.bInts b).drop (128 * i)).take 128 := by
    unfold cutsOf at hbi
    rw [List.getElem?_map, List.getElem?_range hi] at hbi
    exact (Option.some.inj hbi).symm
  have hbs : bi.size = min 128 (128 * k - 1 - 128 * i) := by
    rw [← KBw.ints_length, hcut, List.length_take, List.length_drop, KBw.ints_length, hb]
  walk_at "mzr"
  refine' itemF (x := .bytes bi tb) fe ?hS hD3 ?h0 ?hfit ?hx ?_ ?hs ?hg
  case hS => exact rfl
  case h0 => omega
  case hfit => omega
  case hx => rw [Int.toNat_natCast]; exact hw
  case hs => with_unfolding_all rfl
  case hg => intro _; with_unfolding_all rfl
  walk_at "mzr"
  by_cases hlast : i + 1 < k
  · have hi0 : i = 0 := by omega
    have hk2 : k = 2 := by omega
    have hbs2 : bi.size = 128 := by rw [hbs, hi0, hk2]; rfl
    refine sp_unpack_w4 (Fn.st (Fn.at fe (by exact rfl))) ((hR' _).less (by decide)) ⟨t1, t2, v1, v2, v3, v4, hp3⟩ (by omega) (by rw [hbs2]; decide) fun y g4 s4 gr4 hy => ?_
    refine ⟨g4, Gr.same_l gr4 (by exact rfl), hlast, ?_⟩
    refine PolysAre.snoc (PolysAre.up gr4.up hO.2) ?_
    rw [← hcut]; exact hy
  · have hbs2 : bi.size = 128 - 1 := by
      have : k = i + 1 := by omega
      rw [hbs, this]; omega
    have KBe' : Below (A.deeper _) base _ ({ se with toks := _ } : Shared).heap := KBe
    refine sp_unpack_w4_x (base := base) (Fn.st (Fn.at fe (by exact rfl))) hts hex KBe ((hR' _).less (by decide)) ⟨t1, t2, v1, v2, v3, v4, hp3⟩ (by omega) (by rw [hbs2]; decide) fun e s4 r => ⟨e, rfl, ?_⟩
    obtain ⟨r1, r2, r3, r4⟩ := r
    exact ⟨r1, r2, ⟨r3.1, r3.2, r3.3⟩, r4⟩

theorem sp_munpack_z17_x {A : Around} {base g : Heap} {fl : List Env} {s : Shared} {m p : Addr} {b : Array UInt8} {k : Nat} {t v u : Tok} {Q : Value → Shared → Prop} {E : Value → Shared → Prop} (hP : C.prog = PySem.Challenge.pw_bn0016_01) (st : St C (Mine.hd.K C.w.params) g s) (hts : C.ts = []) (hex : C.ex = []) (KB : Below A base fl s.heap) (hR : Room A 15) (hm : ModAt g m p)
    (hk : k = 1 ∨ k = 2) (hb : b.size = 576 * k - 1)
    (h : ∀ e s', Rz base fl e [] s s' → E (.ref e) s') : wpAny C.M A (call (.ref 958) [.ref m, .bytes b t, .int k v, .int 131072 u]) Q E s := by
  have hm0 := hm.1
  have hb1 : b.size ≤ 2000 := by omega
  (refine' call_fn (binds := [("self", .ref m), ("input_bytes", .bytes b t), ("k", .int k v), ("gamma_1", .int 131072 u)]) ?st ?ho ?hcd ?hroom ?hb ?hk ?hck ?_ ?h1 ?h2 ?h3)
  (case st => first | with_reducible assumption | exact (Fn.st (by with_reducible assumption)).at rfl); (case ho => k_is); (case hcd => k_is)
  (case hroom => exact Room.depth (by assumption)); (case hb => first | exact BindsTo.of_eq rfl | exact binds_K (St.kin' (by assumption)) rfl (by k_is) rfl rfl rfl)
  (case hk => exact rfl); (case hck => exact rfl); (case h1 => exact rfl); (case h2 => exact rfl); (case h3 => exact rfl)
  intro L1 s1 hk1 f
  have hR' := fun env => hR.deeper (n := 14) env
  walk_at "mzr"
  refine O.shl_ (by decide) (by decide) ?_
  walk_at "mzr"
  refine sp_mbu (p := 576) (N := k) (Fn.st (Fn.at (by with_reducible assumption) (by exact rfl))) ((hR' _).less (by decide)) (by omega) (by decide) (by rw [hb]; omega) fun D vs g2 s2 gr2 hD hB => ?_
  have f2 := Fn.gr (Fn.at (by with_reducible assumption) (by exact rfl)) gr2
  have hm2 := hm0.up gr2.up
  have hr2 := hm.2.up gr2.up
  have hvl : vs.length = k := by rw [hB.1]; unfold cutsOf; simp
  walk_at "mzr"
  refine' comp1_nameR (C := C) (base := base) (fl := fl) ?fv hts hex ?kb rfl ?_ ?err
  case fv => exact (by with_reducible assumption)
  case kb => exact below_push KB (by with_reducible assumption) hts (by rw [hex]; exact fun b hb => nomatch hb) rfl
  case err => exact fun e s' rx => exit_on KB (by with_reducible assumption) hts rfl rx (fun b hb => nomatch hb) fun s' r2 => h e s' (by rw [hex] at r2; exact r2)
  walk_at "mzr"
  refine rangeGo1 (C := C) (k := k) (Fn.st (by with_reducible assumption)) (by exact rfl) (hR' _).2.2 rfl (small_of (by omega) (by omega) (by omega)) fun I g₂ s₂ it => ?_
  refine ⟨I, g₂, k, _, fun i ys g => i < k ∧ PolysAre g p (fun j => (unpL (((KBw.bInts b).drop (576 * j)).take 576) 18).map fun c => 131072 - c) i ys, rfl, it.same_l (by exact rfl), by rw [sizeLine_eq]; omega, ⟨by omega, [], rfl, rfl, fun j e he => by cases he⟩, fun _ _ _ _ k h => ⟨h.1, h.2.up k⟩, ?_, fun D ys g' s' _ _ _ _ hO => absurd hO.1 (Nat.lt_irrefl _)⟩
  intro Cc i v gk sk se ys hi hP fe sube hlen hO KBe
  obtain ⟨ti, rfl⟩ := hP
  have subk : Sub g2 gk := fun b o e => sube b o (it.gr.up b o e)
  have hm3 := hm2.up subk
  have hr3 := hr2.up subk
  have hD3 := IsList.up hD subk
  obtain ⟨t1, t2, v1, v2, v3, v4, hp3⟩ := hr3
  obtain ⟨w, hw⟩ : ∃ w, vs[i]? = some w := ⟨vs[i]'(by omega), List.getElem?_eq_getElem _⟩
  obtain ⟨bi, tb, rfl, hbi⟩ := hB.2 i w hw
  have hcut : KBw.bInts bi = ((KBw.bInts b).drop (576 * i)).take 576 := by
    unfold cutsOf at hbi
    rw [List.getElem?_map, List.getElem?_range hi] at hbi
    exact (Option.some.inj hbi).symm
  have hbs : bi.size = min 576 (576 * k - 1 - 576 * i) := by
    rw [← KBw.ints_length, hcut, List.length_take, List.length_drop, KBw.ints_length, hb]
  walk_at "mzr"
  refine' itemF (x := .bytes bi tb) fe ?hS hD3 ?h0 ?hfit ?hx ?_ ?hs ?hg
  case hS => exact rfl
  case h0 => omega
  case hfit => omega
  case hx => rw [Int.toNat_natCast]; exact hw
  case hs => with_unfolding_all rfl
  case hg => intro _; with_unfolding_all rfl
  walk_at "mzr"
  by_cases hlast : i + 1 < k
  · have hi0 : i = 0 := by omega
    have hk2 : k = 2 := by omega
    have hbs2 : bi.size = 576 := by rw [hbs, hi0, hk2]; rfl
    refine sp_unpack_z17 (Fn.st (Fn.at fe (by exact rfl))) ((hR' _).less (by decide)) ⟨t1, t2, v1, v2, v3, v4, hp3⟩ (by omega) (by rw [hbs2]; decide) fun y g4 s4 gr4 hy => ?_
    refine ⟨g4, Gr.same_l gr4 (by exact rfl), hlast, ?_⟩
    refine PolysAre.snoc (PolysAre.up gr4.up hO.2) ?_
    rw [← hcut]; exact hy
  · have hbs2 : bi.size = 576 - 1 := by
      have : k = i + 1 := by omega
      rw [hbs, this]; omega
    have KBe' : Below (A.deeper _) base _ ({ se with toks := _ } : Shared).heap := KBe
    refine sp_unpack_z17_x (base := base) (Fn.st (Fn.at fe (by exact rfl))) hts hex KBe ((hR' _).less (by decide)) ⟨t1, t2, v1, v2, v3, v4, hp3⟩ (by omega) (by rw [hbs2]; decide) fun e s4 r => ⟨e, rfl, ?_⟩
    obtain ⟨r1, r2, r3, r4⟩ := r
    exact ⟨r1, r2, ⟨r3.1, r3.2, r3.3⟩, r4⟩

theorem sp_munpack_z19_x {A : Around} {base g : Heap} {fl : List Env} {s : Shared} {m p : Addr} {b : Array UInt8} {k : Nat} {t v u : Tok} {Q : Value → Shared → Prop} {E : Value → Shared → Prop} (hP : C.prog = PySem.Challenge.pw_bn0016_01) (st : St C (Mine.hd.K C.w.params) g s) (hts : C.ts = []) (hex : C.ex = []) (KB : Below A base fl s.heap) (hR : Room A 15) (hm : ModAt g m p)
    (hk : k = 1 ∨ k = 2) (hb : b.size = 640 * k - 1)
    (h : ∀ e s', Rz base fl e [] s s' → E (.ref e) s') : wpAny C.M A (call (.ref 958) [.ref m, .bytes b t, .int k v, .int 524288 u]) Q E s := by
  have hm0 := hm.1
  have hb1 : b.size ≤ 2000 := by omega
  (refine' call_fn (binds := [("self", .ref m), ("input_bytes", .bytes b t), ("k", .int k v), ("gamma_1", .int 524288 u)]) ?st ?ho ?hcd ?hroom ?hb ?hk ?hck ?_ ?h1 ?h2 ?h3)
  (case st => first | with_reducible assumption | exact (Fn.st (by with_reducible assumption)).at rfl); (case ho => k_is); (case hcd => k_is)
  (case hroom => exact Room.depth (by assumption)); (case hb => first | exact BindsTo.of_eq rfl | exact binds_K (St.kin' (by assumption)) rfl (by k_is) rfl rfl rfl)
  (case hk => exact rfl); (case hck => exact rfl); (case h1 => exact rfl); (case h2 => exact rfl); (case h3 => exact rfl)
  intro L1 s1 hk1 f
  have hR' := fun env => hR.deeper (n := 14) env
  walk_at "mzr"
  refine O.shl_ (by decide) (by decide) ?_
  walk_at "mzr"
  refine O.shl_ (by decide) (by decide) ?_
  walk_at "mzr"
  refine sp_mbu (p := 640) (N := k) (Fn.st (Fn.at (by with_reducible assumption) (by exact rfl))) ((hR' _).less (by decide)) (by omega) (by decide) (by rw [hb]; omega) fun D vs g2 s2 gr2 hD hB => ?_
  have f2 := Fn.gr (Fn.at (by with_reducible assumption) (by exact rfl)) gr2
  have hm2 := hm0.up gr2.up
  have hr2 := hm.2.up gr2.up
  have hvl : vs.length = k := by rw [hB.1]; unfold cutsOf; simp
  walk_at "mzr"
  refine' comp1_nameR (C := C) (base := base) (fl := fl) ?fv hts hex ?kb rfl ?_ ?err
  case fv => exact (by with_reducible assumption)
  case kb => exact below_push KB (by with_reducible assumption) hts (by rw [hex]; exact fun b hb => nomatch hb) rfl
  case err => exact fun e s' rx => exit_on KB (by with_reducible assumption) hts rfl rx (fun b hb => nomatch hb) fun s' r2 => h e s' (by rw [hex] at r2; exact r2)
  walk_at "mzr"
  refine rangeGo1 (C := C) (k := k) (Fn.st (by with_reducible assumption)) (by exact rfl) (hR' _).2.2 rfl (small_of (by omega) (by omega) (by omega)) fun I g₂ s₂ it => ?_
  refine ⟨I, g₂, k, _, fun i ys g => i < k ∧ PolysAre g p (fun j => (unpL (((KBw.bInts b).drop (640 * j)).take 640) 20).map fun c => 524288 - c) i ys, rfl, it.same_l (by exact rfl), by rw [sizeLine_eq]; omega, ⟨by omega, [], rfl, rfl, fun j e he => by cases he⟩, fun _ _ _ _ k h => ⟨h.1, h.2.up k⟩, ?_, fun D ys g' s' _ _ _ _ hO => absurd hO.1 (Nat.lt_irrefl _)⟩
  intro Cc i v gk sk se ys hi hP fe sube hlen hO KBe
  obtain ⟨ti, rfl⟩ := hP
  have subk : Sub g2 gk := fun b o e => sube b o (it.gr.up b o e)
  have hm3 := hm2.up subk
  have hr3 := hr2.up subk
  have hD3 := IsList.up hD subk
  obtain ⟨t1, t2, v1, v2, v3, v4, hp3⟩ := hr3
  obtain ⟨w, hw⟩ : ∃ w, vs[i]? = some w := ⟨vs[i]'(by omega), List.getElem?_eq_getElem _⟩
  obtain ⟨bi, tb, rfl, hbi⟩ := hB.2 i w hw
  have hcut : KBw.bInts bi = ((KBw.bInts b).drop (640 * i)).take 640 := by
    unfold cutsOf at hbi
    rw [List.getElem?_map, List.getElem?_range hi] at hbi
    exact (Option.some.inj hbi).symm
  have hbs : bi.size = min 640 (640 * k - 1 - 640 * i) := by
    rw [← KBw.ints_length, hcut, List.length_take, List.length_drop, KBw.ints_length, hb]
  walk_at "mzr"
  refine' itemF (x := .bytes bi tb) fe ?hS hD3 ?h0 ?hfit ?hx ?_ ?hs ?hg
  case hS => exact rfl
  case h0 => omega
  case hfit => omega
  case hx => rw [Int.toNat_natCast]; exact hw
  case hs => with_unfolding_all rfl
  case hg => intro _; with_unfolding_all rfl
  walk_at "mzr"
  by_cases hlast : i + 1 < k
  · have hi0 : i = 0 := by omega
    have hk2 : k = 2 := by omega
    have hbs2 : bi.size = 640 := by rw [hbs, hi0, hk2]; rfl
    refine sp_unpack_z19 (Fn.st (Fn.at fe (by exact rfl))) ((hR' _).less (by decide)) ⟨t1, t2, v1, v2, v3, v4, hp3⟩ (by omega) (by rw [hbs2]; decide) fun y g4 s4 gr4 hy => ?_
    refine ⟨g4, Gr.same_l gr4 (by exact rfl), hlast, ?_⟩
    refine PolysAre.snoc (PolysAre.up gr4.up hO.2) ?_
    rw [← hcut]; exact hy
  · have hbs2 : bi.size = 640 - 1 := by
      have : k = i + 1 := by omega
      rw [hbs, this]; omega
    have KBe' : Below (A.deeper _) base _ ({ se with toks := _ } : Shared).heap := KBe
    refine sp_unpack_z19_x (base := base) (Fn.st (Fn.at fe (by exact rfl))) hts hex KBe ((hR' _).less (by decide)) ⟨t1, t2, v1, v2, v3, v4, hp3⟩ (by omega) (by rw [hbs2]; decide) fun e s4 r => ⟨e, rfl, ?_⟩
    obtain ⟨r1, r2, r3, r4⟩ := r
    exact ⟨r1, r2, ⟨r3.1, r3.2, r3.3⟩, r4⟩

theorem sp_munpack_s2_b {A : Around} {base g : Heap} {fl : List Env} {s : Shared} {m p : Addr} {b : Array UInt8} {k : Nat} {t v u : Tok} {Q : Value → Shared → Prop} {E : Value → Shared → Prop} (st : St C (Mine.hd.K C.w.params) g s) (hts : C.ts = []) (hex : C.ex = []) (KB : Below A base fl s.heap) (hR : Room A 15)
    (h : ∀ e s', Rz base fl e [] s s' → E (.ref e) s') : wpAny C.M A (call (.ref 948) [.ref m, .bytes b t, .int k v, .int 3 u]) Q E s := by
  (refine' call_fn (binds := [("self", .ref m), ("input_bytes", .bytes b t), ("k", .int k v), ("eta", .int 3 u)]) ?st ?ho ?hcd ?hroom ?hb ?hk ?hck ?_ ?h1 ?h2 ?h3)
  (case st => first | with_reducible assumption | exact (Fn.st (by with_reducible assumption)).at rfl); (case ho => k_is); (case hcd => k_is)
  (case hroom => exact Room.depth (by assumption)); (case hb => first | exact BindsTo.of_eq rfl | exact binds_K (St.kin' (by assumption)) rfl (by k_is) rfl rfl rfl)
  (case hk => exact rfl); (case hck => exact rfl); (case h1 => exact rfl); (case h2 => exact rfl); (case h3 => exact rfl)
  intro L1 s1 hk1 f
  have hR' := fun env => hR.deeper (n := 14) env
  walk_at "mzr"
  refine Raise_new (hR' _).2.2 ?_
  walk_at "mzr"
  refine call_exc_raise excClass_ValueError fun h' e hx => ?_
  refine exit_new KB (Fn.at f (by exact rfl)) hts (by rw [hex]; exact fun b hb => nomatch hb) rfl hx ⟨rfl, rfl, fun _ _ q => q⟩ rfl fun s' hr => h e s' (by rw [hex] at hr; exact hr)

theorem sp_munpack_s4_b {A : Around} {base g : Heap} {fl : List Env} {s : Shared} {m p : Addr} {b : Array UInt8} {k : Nat} {t v u : Tok} {Q : Value → Shared → Prop} {E : Value → Shared → Prop} (st : St C (Mine.hd.K C.w.params) g s) (hts : C.ts = []) (hex : C.ex = []) (KB : Below A base fl s.heap) (hR : Room A 15)
    (h : ∀ e s', Rz base fl e [] s s' → E (.ref e) s') : wpAny C.M A (call (.ref 948) [.ref m, .bytes b t, .int k v, .int 5 u]) Q E s := by
  (refine' call_fn (binds := [("self", .ref m), ("input_bytes", .bytes b t), ("k", .int k v), ("eta", .int 5 u)]) ?st ?ho ?hcd ?hroom ?hb ?hk ?hck ?_ ?h1 ?h2 ?h3)
  (case st => first | with_reducible assumption | exact (Fn.st (by with_reducible assumption)).at rfl); (case ho => k_is); (case hcd => k_is)
  (case hroom => exact Room.depth (by assumption)); (case hb => first | exact BindsTo.of_eq rfl | exact binds_K (St.kin' (by assumption)) rfl (by k_is) rfl rfl rfl)
  (case hk => exact rfl); (case hck => exact rfl); (case h1 => exact rfl); (case h2 => exact rfl); (case h3 => exact rfl)
  intro L1 s1 hk1 f
  have hR' := fun env => hR.deeper (n := 14) env
  walk_at "mzr"
  refine Raise_new (hR' _).2.2 ?_
  walk_at "mzr"
  refine call_exc_raise excClass_ValueError fun h' e hx => ?_
  refine exit_new KB (Fn.at f (by exact rfl)) hts (by rw [hex]; exact fun b hb => nomatch hb) rfl hx ⟨rfl, rfl, fun _ _ q => q⟩ rfl fun s' hr => h e s' (by rw [hex] at hr; exact hr)

theorem sp_munpack_w6_b {A : Around} {base g : Heap} {fl : List Env} {s : Shared} {m p : Addr} {b : Array UInt8} {k : Nat} {t v u : Tok} {Q : Value → Shared → Prop} {E : Value → Shared → Prop} (st : St C (Mine.hd.K C.w.params) g s) (hts : C.ts = []) (hex : C.ex = []) (KB : Below A base fl s.heap) (hR : Room A 15)
    (h : ∀ e s', Rz base fl e [] s s' → E (.ref e) s') : wpAny C.M A (call (.ref 953) [.ref m, .bytes b t, .int k v, .int 95233 u]) Q E s := by
  (refine' call_fn (binds := [("self", .ref m), ("input_bytes", .bytes b t), ("k", .int k v), ("gamma_2", .int 95233 u)]) ?st ?ho ?hcd ?hroom ?hb ?hk ?hck ?_ ?h1 ?h2 ?h3)
  (case st => first | with_reducible assumption | exact (Fn.st (by with_reducible assumption)).at rfl); (case ho => k_is); (case hcd => k_is)
  (case hroom => exact Room.depth (by assumption)); (case hb => first | exact BindsTo.of_eq rfl | exact binds_K (St.kin' (by assumption)) rfl (by k_is) rfl rfl rfl)
  (case hk => exact rfl); (case hck => exact rfl); (case h1 => exact rfl); (case h2 => exact rfl); (case h3 => exact rfl)
  intro L1 s1 hk1 f
  have hR' := fun env => hR.deeper (n := 14) env
  walk_at "mzr"
  refine Raise_new (hR' _).2.2 ?_
  walk_at "mzr"
  refine call_exc_raise excClass_ValueError fun h' e hx => ?_
  refine exit_new KB (Fn.at f (by exact rfl)) hts (by rw [hex]; exact fun b hb => nomatch hb) rfl hx ⟨rfl, rfl, fun _ _ q => q⟩ rfl fun s' hr => h e s' (by rw [hex] at hr; exact hr)

theorem sp_munpack_w4_b {A : Around} {base g : Heap} {fl : List Env} {s : Shared} {m p : Addr} {b : Array UInt8} {k : Nat} {t v u : Tok} {Q : Value → Shared → Prop} {E : Value → Shared → Prop} (st : St C (Mine.hd.K C.w.params) g s) (hts : C.ts = []) (hex : C.ex = []) (KB : Below A base fl s.heap) (hR : Room A 15)
    (h : ∀ e s', Rz base fl e [] s s' → E (.ref e) s') : wpAny C.M A (call (.ref 953) [.ref m, .bytes b t, .int k v, .int 261889 u]) Q E s := by
  (refine' call_fn (binds := [("self", .ref m), ("input_bytes", .bytes b t), ("k", .int k v), ("gamma_2", .int 261889 u)]) ?st ?ho ?hcd ?hroom ?hb ?hk ?hck ?_ ?h1 ?h2 ?h3)
  (case st => first | with_reducible assumption | exact (Fn.st (by with_reducible assumption)).at rfl); (case ho => k_is); (case hcd => k_is)
  (case hroom => exact Room.depth (by assumption)); (case hb => first | exact BindsTo.of_eq rfl | exact binds_K (St.kin' (by assumption)) rfl (by k_is) rfl rfl rfl)
  (case hk => exact rfl); (case hck => exact rfl); (case h1 => exact rfl); (case h2 => exact rfl); (case h3 => exact rfl)
  intro L1 s1 hk1 f
  have hR' := fun env => hR.deeper (n := 14) env
  walk_at "mzr"
  refine Raise_new (hR' _).2.2 ?_
  walk_at "mzr"
  refine call_exc_raise excClass_ValueError fun h' e hx => ?_
  refine exit_new KB (Fn.at f (by exact rfl)) hts (by rw [hex]; exact fun b hb => nomatch hb) rfl hx ⟨rfl, rfl, fun _ _ q => q⟩ rfl fun s' hr => h e s' (by rw [hex] at hr; exact hr)

theorem sp_munpack_z17_b {A : Around} {base g : Heap} {fl : List Env} {s : Shared} {m p : Addr} {b : Array UInt8} {k : Nat} {t v u : Tok} {Q : Value → Shared → Prop} {E : Value → Shared → Prop} (st : St C (Mine.hd.K C.w.params) g s) (hts : C.ts = []) (hex : C.ex = []) (KB : Below A base fl s.heap) (hR : Room A 15)
    (h : ∀ e s', Rz base fl e [] s s' → E (.ref e) s') : wpAny C.M A (call (.ref 958) [.ref m, .bytes b t, .int k v, .int 131073 u]) Q E s := by
  (refine' call_fn (binds := [("self", .ref m), ("input_bytes", .bytes b t), ("k", .int k v), ("gamma_1", .int 131073 u)]) ?st ?ho ?hcd ?hroom ?hb ?hk ?hck ?_ ?h1 ?h2 ?h3)
  (case st => first | with_reducible assumption | exact (Fn.st (by with_reducible assumption)).at rfl); (case ho => k_is); (case hcd => k_is)
  (case hroom => exact Room.depth (by assumption)); (case hb => first | exact BindsTo.of_eq rfl | exact binds_K (St.kin' (by assumption)) rfl (by k_is) rfl rfl rfl)
  (case hk => exact rfl); (case hck => exact rfl); (case h1 => exact rfl); (case h2 => exact rfl); (case h3 => exact rfl)
  intro L1 s1 hk1 f
  have hR' := fun env => hR.deeper (n := 14) env
  walk_at "mzr"
  refine O.shl_ (by decide) (by decide) ?_
  walk_at "mzr"
  refine O.shl_ (by decide) (by decide) ?_
  walk_at "mzr"
  refine Raise_new (hR' _).2.2 ?_
  walk_at "mzr"
  refine call_exc_raise excClass_ValueError fun h' e hx => ?_
  refine exit_new KB (Fn.at f (by exact rfl)) hts (by rw [hex]; exact fun b hb => nomatch hb) rfl hx ⟨rfl, rfl, fun _ _ q => q⟩ rfl fun s' hr => h e s' (by rw [hex] at hr; exact hr)

theorem sp_munpack_z19_b {A : Around} {base g : Heap} {fl : List Env} {s : Shared} {m p : Addr} {b : Array UInt8} {k : Nat} {t v u : Tok} {Q : Value → Shared → Prop} {E : Value → Shared → Prop} (st : St C (Mine.hd.K C.w.params) g s) (hts : C.ts = []) (hex : C.ex = []) (KB : Below A base fl s.heap) (hR : Room A 15)
    (h : ∀ e s', Rz base fl e [] s s' → E (.ref e) s') : wpAny C.M A (call (.ref 958) [.ref m, .bytes b t, .int k v, .int 524289 u]) Q E s := by
  (refine' call_fn (binds := [("self", .ref m), ("input_bytes", .bytes b t), ("k", .int k v), ("gamma_1", .int 524289 u)]) ?st ?ho ?hcd ?hroom ?hb ?hk ?hck ?_ ?h1 ?h2 ?h3)
  (case st => first | with_reducible assumption | exact (Fn.st (by with_reducible assumption)).at rfl); (case ho => k_is); (case hcd => k_is)
  (case hroom => exact Room.depth (by assumption)); (case hb => first | exact BindsTo.of_eq rfl | exact binds_K (St.kin' (by assumption)) rfl (by k_is) rfl rfl rfl)
  (case hk => exact rfl); (case hck => exact rfl); (case h1 => exact rfl); (case h2 => exact rfl); (case h3 => exact rfl)
  intro L1 s1 hk1 f
  have hR' := fun env => hR.deeper (n := 14) env
  walk_at "mzr"
  refine O.shl_ (by decide) (by decide) ?_
  walk_at "mzr"
  refine O.shl_ (by decide) (by decide) ?_
  walk_at "mzr"
  refine Raise_new (hR' _).2.2 ?_
  walk_at "mzr"
  refine call_exc_raise excClass_ValueError fun h' e hx => ?_
  refine exit_new KB (Fn.at f (by exact rfl)) hts (by rw [hex]; exact fun b hb => nomatch hb) rfl hx ⟨rfl, rfl, fun _ _ q => q⟩ rfl fun s' hr => h e s' (by rw [hex] at hr; exact hr)

/-- _parse_coefficients, one coefficient too many -/
theorem sp_parse_x {A : Around} {base g : Heap} {fl : List Env} {s : Shared} {x p l : Addr} {vs : List Value} {Q : Value → Shared → Prop} {E : Value → Shared → Prop} (st : St C (Mine.hd.K C.w.params) g s) (hts : C.ts = []) (hex : C.ex = []) (KB : Below A base fl s.heap) (hR : Room A 3)
    (hx : Fld g x 514 [("parent", .ref p)]) (hp : RingAt g p) (hl : g.IsList l vs.toArray) (hn : vs.length = 257)
    (h : ∀ e s', Rz base fl e [] s s' → E (.ref e) s') : wpAny C.M A (call (.ref 103) [.ref x, .ref l]) Q E s := by
  obtain ⟨t1, t2, v1, v2, v3, v4, hp⟩ := hp
  (refine' call_fn (binds := [("self", .ref x), ("coefficients", .ref l)]) ?st ?ho ?hcd ?hroom ?hb ?hk ?hck ?_ ?h1 ?h2 ?h3)
  (case st => first | with_reducible assumption | exact (Fn.st (by with_reducible assumption)).at rfl); (case ho => k_is); (case hcd => k_is)
  (case hroom => exact Room.depth (by assumption)); (case hb => first | exact BindsTo.of_eq rfl | exact binds_K (St.kin' (by assumption)) rfl (by k_is) rfl rfl rfl)
  (case hk => exact rfl); (case hck => exact rfl); (case h1 => exact rfl); (case h2 => exact rfl); (case h3 => exact rfl)
  intro L1 s1 hk1 f
  have hR' := fun env => hR.deeper (n := 2) env
  walk_at "mzr"
  refine lenF (by with_reducible assumption) rfl hl (by omega) ?_
  walk_at "mzr"
  rw [if_pos (by simp [hn])]
  walk_at "mzr"
  refine Raise_new (hR' _).2.2 ?_
  walk_at "mzr"
  refine JoinedStr_many ?_
  refine joinParts_cons ?_
  walk_at "mzr"
  refine ⟨by decide, joinParts_cons (FormattedValue_plain ?_)⟩
  walk_at "mzr"
  refine formatField_int_small (by decide) ⟨by decide +kernel, joinParts_nil ?_ (by decide +kernel)⟩
  walk_at "mzr"
  refine call_exc_raise excClass_ValueError fun h' e hx => ?_
  refine exit_new KB (Fn.at (by with_reducible assumption) (by exact rfl)) hts (by rw [hex]; exact fun b hb => nomatch hb) rfl hx ⟨rfl, rfl, fun _ _ q => q⟩ rfl fun s' hr => h e s' (by rw [hex] at hr; exact hr)

theorem sp_poly_init_x {A : Around} {base g : Heap} {fl : List Env} {s : Shared} {x dx p l : Addr} {vs : List Value} {R : Result → Shared → Prop} (st : St (C.x dx) (Mine.hd.K C.w.params) g s) (hts : C.ts = []) (hex : C.ex = []) (hdx : base.get? dx = none ∧ dx ∉ fl.filterMap (·.frame)) (KB : Below A base fl s.heap) (hR : Room A 5) (u : Und C g s.heap x 514 dx [])
    (hp : RingAt g p) (hl : g.IsList l vs.toArray) (hn : vs.length = 257)
    (h : ∀ e s', Rz base fl e [dx] s s' → R (.error (.ref e)) s') : codeAny C.M A (.call (.ref 400) ⟨[.ref x, .ref p, .ref l], []⟩) R s := by
  (refine' callFn (C := C.x dx) (binds := [("self", .ref x), ("parent", .ref p), ("coefficients", .ref l)]) ?st ?ho ?hcd ?hroom ?hb ?hk ?hck ?_ ?h1 ?h2 ?h3)
  (case st => first | with_reducible assumption | exact (Fn.st (by with_reducible assumption)).at rfl); (case ho => k_is); (case hcd => k_is)
  (case hroom => exact Room.depth (by assumption)); (case hb => first | exact BindsTo.of_eq rfl | exact binds_K (St.kin' (by assumption)) rfl (by k_is) rfl rfl rfl)
  (case hk => exact rfl); (case hck => exact rfl); (case h1 => exact rfl); (case h2 => exact rfl); (case h3 => exact rfl)
  intro L1 s1 hk1 f
  have u1 : Und C g s1.heap x 514 dx [] := u.keep (fun _ _ e => e) fun o e => hk1 _ _ e
  have hR' := fun env => hR.deeper (n := 4) env
  have hexx : ∀ b ∈ (C.x dx).ex, base.get? b = none ∧ b ∉ fl.filterMap (·.frame) := fun b hb => by
    rcases List.mem_cons.mp hb with rfl | hb
    · exact hdx
    · rw [hex] at hb; exact nomatch hb
  walk_at "mzr"
  refine sp_parse_x (C := C) (p := p) (vs := vs) (base := base) (St.opened (Fn.st (Fn.at (by with_reducible assumption) (by exact rfl))) (by with_reducible assumption)) hts hex (below_push (C := C.x dx) KB (Fn.at (by with_reducible assumption) (by exact rfl)) (by exact hts) hexx rfl) ((hR' _).less (by decide)) (Und.fld (C := C) (by assumption) (Fn.st (C := C.x dx) (by with_reducible assumption)).sub) ?_ ?_ hn fun e s2 r => ?_
  · obtain ⟨t1, t2, v1, v2, v3, v4, hp⟩ := hp
    exact ⟨t1, t2, v1, v2, v3, v4, hp.up (addG_up (Fn.st (C := C.x dx) (by with_reducible assumption)).sub)⟩
  · exact IsList.up hl (addG_up (Fn.st (C := C.x dx) (by with_reducible assumption)).sub)
  exact exit_on (C := C.x dx) KB (Fn.at (by with_reducible assumption) (by exact rfl)) (by exact hts) rfl r.x (fun b hb => nomatch hb) fun s' r2 => h e s' (by rw [show (C.x dx).ex = [dx] from by show dx :: C.ex = [dx]; rw [hex]] at r2; exact r2)
/-- Polynomial(parent, coefficients), one coefficient too many -/
theorem sp_poly_x {A : Around} {base g : Heap} {fl : List Env} {s : Shared} {p l : Addr} {vs : List Value} {Q : Value → Shared → Prop} {E : Value → Shared → Prop} (st : St C (Mine.hd.K C.w.params) g s) (hts : C.ts = []) (hex : C.ex = []) (KB : Below A base fl s.heap) (hR : Room A 6) (hp : RingAt g p) (hl : g.IsList l vs.toArray) (hn : vs.length = 257)
    (h : ∀ e s', Rz base fl e [] s s' → E (.ref e) s') : wpAny C.M A (call (.ref 514) [.ref p, .ref l]) Q E s := by
  refine mkInstR (fI := 400) st (by k_is) (by k_is) (by k_is) fun x dx g₁ s₁ st1 sub1 u1 old hdn ho => ?_
  have hp1 : RingAt g₁ p := let ⟨t1, t2, v1, v2, v3, v4, f⟩ := hp; ⟨t1, t2, v1, v2, v3, v4, f.up sub1⟩
  have hb0 : base.get? dx = none := by
    cases q : base.get? dx with
    | none => rfl
    | some o => have := KB.stays _ _ q; rw [hdn] at this; cases this
  have hf0 : dx ∉ fl.filterMap (·.frame) := fun q => by
    obtain ⟨_, o, ho', _⟩ := KB.frames.mem q
    rw [hdn] at ho'; cases ho'
  refine sp_poly_init_x (base := base) (fl := fl) st1 hts hex ⟨hb0, hf0⟩ (Below.at (Below.keeps KB old) rfl) (hR.under_call (m := 5)) u1 hp1 (IsList.up hl sub1) hn fun e s' r => ?_
  exact h e s' (Rz.base_of old ho (fun b hb => by rw [List.mem_singleton.mp hb]; exact hdn) r)
/-- ring(coefficients), one coefficient too many -/
theorem sp_ringcall_x {A : Around} {base g : Heap} {fl : List Env} {s : Shared} {p l : Addr} {vs : List Value} {R : Result → Shared → Prop} (st : St C (Mine.hd.K C.w.params) g s) (hts : C.ts = []) (hex : C.ex = []) (KB : Below A base fl s.heap) (hR : Room A 8) (hp : RingAt g p) (hl : g.IsList l vs.toArray) (hn : vs.length = 257)
    (h : ∀ e s', Rz base fl e [] s s' → R (.error (.ref e)) s') : codeAny C.M A (.call (.ref 374) ⟨[.ref p, .ref l], []⟩) R s := by
  (refine' callFn (C := C) (binds := [("self", .ref p), ("coefficients", .ref l), ("is_ntt", .bool false)]) ?st ?ho ?hcd ?hroom ?hb ?hk ?hck ?_ ?h1 ?h2 ?h3)
  (case st => first | with_reducible assumption | exact (Fn.st (by with_reducible assumption)).at rfl); (case ho => k_is); (case hcd => k_is)
  (case hroom => exact Room.depth (by assumption)); (case hb => first | exact BindsTo.of_eq rfl | exact binds_K (St.kin' (by assumption)) rfl (by k_is) rfl rfl rfl)
  (case hk => exact rfl); (case hck => exact rfl); (case h1 => exact rfl); (case h2 => exact rfl); (case h3 => exact rfl)
  intro L1 s1 hk1 f
  have hR' := fun env => hR.deeper (n := 7) env
  walk_at "mzr"
  refine sp_poly_x (base := base) (Fn.st (Fn.at (by with_reducible assumption) (by exact rfl))) hts hex (below_push KB (Fn.at (by with_reducible assumption) (by exact rfl)) hts (by rw [hex]; exact fun b hb => nomatch hb) rfl) ((hR' _).less (by decide)) hp hl hn fun e s2 r => ?_
  exact exit_on KB (Fn.at (by with_reducible assumption) (by exact rfl)) hts rfl r.x (fun b hb => nomatch hb) fun s' r2 => h e s' (by rw [hex] at r2; exact r2)

theorem sp_read_0_x {A : Around} {base g : Heap} {fl : List Env} {s : Shared} {m p : Addr} {b : Array UInt8} {k : Nat} {t0 t1 t2 t3 : Tok} {Q : Value → Shared → Prop} {E : Value → Shared → Prop} (hP : C.prog = PySem.Challenge.pw_bn0016_01) (st : St C (Mine.hd.K C.w.params) g s) (hts : C.ts = []) (hex : C.ex = []) (KB : Below A base fl s.heap) (hR : Room A 17) (hm : ModAt g m p)
    (hk : k = 1 ∨ k = 2) (hb : b.size = 320 * k - 1)
    (h : ∀ e s', Rz base fl e [] s s' → E (.ref e) s') : wpAny C.M A (call (.ref 977) [.int 0 t0, .ref m, .bytes b t1, .int k t2, .int 0 t3]) Q E s := by
  have hm0 := hm.1
  (refine' call_fn (binds := [("kind", .int 0 t0), ("module", .ref m), ("octets", .bytes b t1), ("k", .int k t2), ("off", .int 0 t3)]) ?st ?ho ?hcd ?hroom ?hb ?hk ?hck ?_ ?h1 ?h2 ?h3)
  (case st => first | with_reducible assumption | exact (Fn.st (by with_reducible assumption)).at rfl); (case ho => k_is); (case hcd => k_is)
  (case hroom => exact Room.depth (by assumption)); (case hb => first | exact BindsTo.of_eq rfl | exact binds_K (St.kin' (by assumption)) rfl (by k_is) rfl rfl rfl)
  (case hk => exact rfl); (case hck => exact rfl); (case h1 => exact rfl); (case h2 => exact rfl); (case h3 => exact rfl)
  intro L1 s1 hk1 f
  have hR' := fun env => hR.deeper (n := 16) env
  walk_at "mzr"
  refine sp_munpack_t1_x (u := 0) (base := base) hP (Fn.st (Fn.at f (by exact rfl))) hts hex (below_push KB (Fn.at f (by exact rfl)) hts (by rw [hex]; exact fun b hb => nomatch hb) rfl) ((hR' _).less (by decide)) hm hk hb fun e s2 r => ?_
  exact exit_on KB (Fn.at f (by exact rfl)) hts rfl r.x (fun b hb => nomatch hb) fun s' r2 => h e s' (by rw [hex] at r2; exact r2)

theorem sp_read_1_x {A : Around} {base g : Heap} {fl : List Env} {s : Shared} {m p : Addr} {b : Array UInt8} {k : Nat} {t0 t1 t2 t3 : Tok} {Q : Value → Shared → Prop} {E : Value → Shared → Prop} (hP : C.prog = PySem.Challenge.pw_bn0016_01) (st : St C (Mine.hd.K C.w.params) g s) (hts : C.ts = []) (hex : C.ex = []) (KB : Below A base fl s.heap) (hR : Room A 17) (hm : ModAt g m p)
    (hk : k = 1 ∨ k = 2) (hb : b.size = 416 * k - 1)
    (h : ∀ e s', Rz base fl e [] s s' → E (.ref e) s') : wpAny C.M A (call (.ref 977) [.int 1 t0, .ref m, .bytes b t1, .int k t2, .int 0 t3]) Q E s := by
  have hm0 := hm.1
  (refine' call_fn (binds := [("kind", .int 1 t0), ("module", .ref m), ("octets", .bytes b t1), ("k", .int k t2), ("off", .int 0 t3)]) ?st ?ho ?hcd ?hroom ?hb ?hk ?hck ?_ ?h1 ?h2 ?h3)
  (case st => first | with_reducible assumption | exact (Fn.st (by with_reducible assumption)).at rfl); (case ho => k_is); (case hcd => k_is)
  (case hroom => exact Room.depth (by assumption)); (case hb => first | exact BindsTo.of_eq rfl | exact binds_K (St.kin' (by assumption)) rfl (by k_is) rfl rfl rfl)
  (case hk => exact rfl); (case hck => exact rfl); (case h1 => exact rfl); (case h2 => exact rfl); (case h3 => exact rfl)
  intro L1 s1 hk1 f
  have hR' := fun env => hR.deeper (n := 16) env
  walk_at "mzr"
  refine sp_munpack_t0_x (u := 0) (base := base) hP (Fn.st (Fn.at f (by exact rfl))) hts hex (below_push KB (Fn.at f (by exact rfl)) hts (by rw [hex]; exact fun b hb => nomatch hb) rfl) ((hR' _).less (by decide)) hm hk hb fun e s2 r => ?_
  exact exit_on KB (Fn.at f (by exact rfl)) hts rfl r.x (fun b hb => nomatch hb) fun s' r2 => h e s' (by rw [hex] at r2; exact r2)

theorem sp_read_2_x {A : Around} {base g : Heap} {fl : List Env} {s : Shared} {m p : Addr} {b : Array UInt8} {k : Nat} {t0 t1 t2 t3 : Tok} {Q : Value → Shared → Prop} {E : Value → Shared → Prop} (hP : C.prog = PySem.Challenge.pw_bn0016_01) (st : St C (Mine.hd.K C.w.params) g s) (hts : C.ts = []) (hex : C.ex = []) (KB : Below A base fl s.heap) (hR : Room A 17) (hm : ModAt g m p)
    (hk : k = 1 ∨ k = 2) (hb : b.size = 96 * k - 1)
    (h : ∀ e s', Rz base fl e [] s s' → E (.ref e) s') : wpAny C.M A (call (.ref 977) [.int 2 t0, .ref m, .bytes b t1, .int k t2, .int 0 t3]) Q E s := by
  have hm0 := hm.1
  (refine' call_fn (binds := [("kind", .int 2 t0), ("module", .ref m), ("octets", .bytes b t1), ("k", .int k t2), ("off", .int 0 t3)]) ?st ?ho ?hcd ?hroom ?hb ?hk ?hck ?_ ?h1 ?h2 ?h3)
  (case st => first | with_reducible assumption | exact (Fn.st (by with_reducible assumption)).at rfl); (case ho => k_is); (case hcd => k_is)
  (case hroom => exact Room.depth (by assumption)); (case hb => first | exact BindsTo.of_eq rfl | exact binds_K (St.kin' (by assumption)) rfl (by k_is) rfl rfl rfl)
  (case hk => exact rfl); (case hck => exact rfl); (case h1 => exact rfl); (case h2 => exact rfl); (case h3 => exact rfl)
  intro L1 s1 hk1 f
  have hR' := fun env => hR.deeper (n := 16) env
  walk_at "mzr"
  refine sp_munpack_s2_x (u := _) (base := base) hP (Fn.st (Fn.at f (by exact rfl))) hts hex (below_push KB (Fn.at f (by exact rfl)) hts (by rw [hex]; exact fun b hb => nomatch hb) rfl) ((hR' _).less (by decide)) hm hk hb fun e s2 r => ?_
  exact exit_on KB (Fn.at f (by exact rfl)) hts rfl r.x (fun b hb => nomatch hb) fun s' r2 => h e s' (by rw [hex] at r2; exact r2)

theorem sp_read_2_b {A : Around} {base g : Heap} {fl : List Env} {s : Shared} {m p : Addr} {b : Array UInt8} {k : Nat} {t0 t1 t2 t3 : Tok} {Q : Value → Shared → Prop} {E : Value → Shared → Prop} (st : St C (Mine.hd.K C.w.params) g s) (hts : C.ts = []) (hex : C.ex = []) (KB : Below A base fl s.heap) (hR : Room A 17) (hm : ModAt g m p)
    (h : ∀ e s', Rz base fl e [] s s' → E (.ref e) s') : wpAny C.M A (call (.ref 977) [.int 2 t0, .ref m, .bytes b t1, .int k t2, .int 1 t3]) Q E s := by
  have hm0 := hm.1
  (refine' call_fn (binds := [("kind", .int 2 t0), ("module", .ref m), ("octets", .bytes b t1), ("k", .int k t2), ("off", .int 1 t3)]) ?st ?ho ?hcd ?hroom ?hb ?hk ?hck ?_ ?h1 ?h2 ?h3)
  (case st => first | with_reducible assumption | exact (Fn.st (by with_reducible assumption)).at rfl); (case ho => k_is); (case hcd => k_is)
  (case hroom => exact Room.depth (by assumption)); (case hb => first | exact BindsTo.of_eq rfl | exact binds_K (St.kin' (by assumption)) rfl (by k_is) rfl rfl rfl)
  (case hk => exact rfl); (case hck => exact rfl); (case h1 => exact rfl); (case h2 => exact rfl); (case h3 => exact rfl)
  intro L1 s1 hk1 f
  have hR' := fun env => hR.deeper (n := 16) env
  walk_at "mzr"
  refine sp_munpack_s2_b (p := p) (base := base) (Fn.st (Fn.at f (by exact rfl))) hts hex (below_push KB (Fn.at f (by exact rfl)) hts (by rw [hex]; exact fun b hb => nomatch hb) rfl) ((hR' _).less (by decide)) fun e s2 r => ?_
  exact exit_on KB (Fn.at f (by exact rfl)) hts rfl r.x (fun b hb => nomatch hb) fun s' r2 => h e s' (by rw [hex] at r2; exact r2)

theorem sp_read_3_x {A : Around} {base g : Heap} {fl : List Env} {s : Shared} {m p : Addr} {b : Array UInt8} {k : Nat} {t0 t1 t2 t3 : Tok} {Q : Value → Shared → Prop} {E : Value → Shared → Prop} (hP : C.prog = PySem.Challenge.pw_bn0016_01) (st : St C (Mine.hd.K C.w.params) g s) (hts : C.ts = []) (hex : C.ex = []) (KB : Below A base fl s.heap) (hR : Room A 17) (hm : ModAt g m p)
    (hk : k = 1 ∨ k = 2) (hb : b.size = 128 * k - 1)
    (h : ∀ e s', Rz base fl e [] s s' → E (.ref e) s') : wpAny C.M A (call (.ref 977) [.int 3 t0, .ref m, .bytes b t1, .int k t2, .int 0 t3]) Q E s := by
  have hm0 := hm.1
  (refine' call_fn (binds := [("kind", .int 3 t0), ("module", .ref m), ("octets", .bytes b t1), ("k", .int k t2), ("off", .int 0 t3)]) ?st ?ho ?hcd ?hroom ?hb ?hk ?hck ?_ ?h1 ?h2 ?h3)
  (case st => first | with_reducible assumption | exact (Fn.st (by with_reducible assumption)).at rfl); (case ho => k_is); (case hcd => k_is)
  (case hroom => exact Room.depth (by assumption)); (case hb => first | exact BindsTo.of_eq rfl | exact binds_K (St.kin' (by assumption)) rfl (by k_is) rfl rfl rfl)
  (case hk => exact rfl); (case hck => exact rfl); (case h1 => exact rfl); (case h2 => exact rfl); (case h3 => exact rfl)
  intro L1 s1 hk1 f
  have hR' := fun env => hR.deeper (n := 16) env
  walk_at "mzr"
  refine sp_munpack_s4_x (u := _) (base := base) hP (Fn.st (Fn.at f (by exact rfl))) hts hex (below_push KB (Fn.at f (by exact rfl)) hts (by rw [hex]; exact fun b hb => nomatch hb) rfl) ((hR' _).less (by decide)) hm hk hb fun e s2 r => ?_
  exact exit_on KB (Fn.at f (by exact rfl)) hts rfl r.x (fun b hb => nomatch hb) fun s' r2 => h e s' (by rw [hex] at r2; exact r2)

theorem sp_read_3_b {A : Around} {base g : Heap} {fl : List Env} {s : Shared} {m p : Addr} {b : Array UInt8} {k : Nat} {t0 t1 t2 t3 : Tok} {Q : Value → Shared → Prop} {E : Value → Shared → Prop} (st : St C (Mine.hd.K C.w.params) g s) (hts : C.ts = []) (hex : C.ex = []) (KB : Below A base fl s.heap) (hR : Room A 17) (hm : ModAt g m p)
    (h : ∀ e s', Rz base fl e [] s s' → E (.ref e) s') : wpAny C.M A (call (.ref 977) [.int 3 t0, .ref m, .bytes b t1, .int k t2, .int 1 t3]) Q E s := by
  have hm0 := hm.1
  (refine' call_fn (binds := [("kind", .int 3 t0), ("module", .ref m), ("octets", .bytes b t1), ("k", .int k t2), ("off", .int 1 t3)]) ?st ?ho ?hcd ?hroom ?hb ?hk ?hck ?_ ?h1 ?h2 ?h3)
  (case st => first | with_reducible assumption | exact (Fn.st (by with_reducible assumption)).at rfl); (case ho => k_is); (case hcd => k_is)
  (case hroom => exact Room.depth (by assumption)); (case hb => first | exact BindsTo.of_eq rfl | exact binds_K (St.kin' (by assumption)) rfl (by k_is) rfl rfl rfl)
  (case hk => exact rfl); (case hck => exact rfl); (case h1 => exact rfl); (case h2 => exact rfl); (case h3 => exact rfl)
  intro L1 s1 hk1 f
  have hR' := fun env => hR.deeper (n := 16) env
  walk_at "mzr"
  refine sp_munpack_s4_b (p := p) (base := base) (Fn.st (Fn.at f (by exact rfl))) hts hex (below_push KB (Fn.at f (by exact rfl)) hts (by rw [hex]; exact fun b hb => nomatch hb) rfl) ((hR' _).less (by decide)) fun e s2 r => ?_
  exact exit_on KB (Fn.at f (by exact rfl)) hts rfl r.x (fun b hb => nomatch hb) fun s' r2 => h e s' (by rw [hex] at r2; exact r2)

theorem sp_read_4_x {A : Around} {base g : Heap} {fl : List Env} {s : Shared} {m p : Addr} {b : Array UInt8} {k : Nat} {t0 t1 t2 t3 : Tok} {Q : Value → Shared → Prop} {E : Value → Shared → Prop} (hP : C.prog = PySem.Challenge.pw_bn0016_01) (st : St C (Mine.hd.K C.w.params) g s) (hts : C.ts = []) (hex : C.ex = []) (KB : Below A base fl s.heap) (hR : Room A 17) (hm : ModAt g m p)
    (hk : k = 1 ∨ k = 2) (hb : b.size = 192 * k - 1)
    (h : ∀ e s', Rz base fl e [] s s' → E (.ref e) s') : wpAny C.M A (call (.ref 977) [.int 4 t0, .ref m, .bytes b t1, .int k t2, .int 0 t3]) Q E s := by
  have hm0 := hm.1
  (refine' call_fn (binds := [("kind", .int 4 t0), ("module", .ref m), ("octets", .bytes b t1), ("k", .int k t2), ("off", .int 0 t3)]) ?st ?ho ?hcd ?hroom ?hb ?hk ?hck ?_ ?h1 ?h2 ?h3)
  (case st => first | with_reducible assumption | exact (Fn.st (by with_reducible assumption)).at rfl); (case ho => k_is); (case hcd => k_is)
  (case hroom => exact Room.depth (by assumption)); (case hb => first | exact BindsTo.of_eq rfl | exact binds_K (St.kin' (by assumption)) rfl (by k_is) rfl rfl rfl)
  (case hk => exact rfl); (case hck => exact rfl); (case h1 => exact rfl); (case h2 => exact rfl); (case h3 => exact rfl)
  intro L1 s1 hk1 f
  have hR' := fun env => hR.deeper (n := 16) env
  walk_at "mzr"
  refine sp_munpack_w6_x (u := _) (base := base) hP (Fn.st (Fn.at f (by exact rfl))) hts hex (below_push KB (Fn.at f (by exact rfl)) hts (by rw [hex]; exact fun b hb => nomatch hb) rfl) ((hR' _).less (by decide)) hm hk hb fun e s2 r => ?_
  exact exit_on KB (Fn.at f (by exact rfl)) hts rfl r.x (fun b hb => nomatch hb) fun s' r2 => h e s' (by rw [hex] at r2; exact r2)

theorem sp_read_4_b {A : Around} {base g : Heap} {fl : List Env} {s : Shared} {m p : Addr} {b : Array UInt8} {k : Nat} {t0 t1 t2 t3 : Tok} {Q : Value → Shared → Prop} {E : Value → Shared → Prop} (st : St C (Mine.hd.K C.w.params) g s) (hts : C.ts = []) (hex : C.ex = []) (KB : Below A base fl s.heap) (hR : Room A 17) (hm : ModAt g m p)
    (h : ∀ e s', Rz base fl e [] s s' → E (.ref e) s') : wpAny C.M A (call (.ref 977) [.int 4 t0, .ref m, .bytes b t1, .int k t2, .int 1 t3]) Q E s := by
  have hm0 := hm.1
  (refine' call_fn (binds := [("kind", .int 4 t0), ("module", .ref m), ("octets", .bytes b t1), ("k", .int k t2), ("off", .int 1 t3)]) ?st ?ho ?hcd ?hroom ?hb ?hk ?hck ?_ ?h1 ?h2 ?h3)
  (case st => first | with_reducible assumption | exact (Fn.st (by with_reducible assumption)).at rfl); (case ho => k_is); (case hcd => k_is)
  (case hroom => exact Room.depth (by assumption)); (case hb => first | exact BindsTo.of_eq rfl | exact binds_K (St.kin' (by assumption)) rfl (by k_is) rfl rfl rfl)
  (case hk => exact rfl); (case hck => exact rfl); (case h1 => exact rfl); (case h2 => exact rfl); (case h3 => exact rfl)
  intro L1 s1 hk1 f
  have hR' := fun env => hR.deeper (n := 16) env
  walk_at "mzr"
  refine sp_munpack_w6_b (p := p) (base := base) (Fn.st (Fn.at f (by exact rfl))) hts hex (below_push KB (Fn.at f (by exact rfl)) hts (by rw [hex]; exact fun b hb => nomatch hb) rfl) ((hR' _).less (by decide)) fun e s2 r => ?_
  exact exit_on KB (Fn.at f (by exact rfl)) hts rfl r.x (fun b hb => nomatch hb) fun s' r2 => h e s' (by rw [hex] at r2; exact r2)

theorem sp_read_5_x {A : Around} {base g : Heap} {fl : List Env} {s : Shared} {m p : Addr} {b : Array UInt8} {k : Nat} {t0 t1 t2 t3 : Tok} {Q : Value → Shared → Prop} {E : Value → Shared → Prop} (hP : C.prog = PySem.Challenge.pw_bn0016_01) (st : St C (Mine.hd.K C.w.params) g s) (hts : C.ts = []) (hex : C.ex = []) (KB : Below A base fl s.heap) (hR : Room A 17) (hm : ModAt g m p)
    (hk : k = 1 ∨ k = 2) (hb : b.size = 128 * k - 1)
    (h : ∀ e s', Rz base fl e [] s s' → E (.ref e) s') : wpAny C.M A (call (.ref 977) [.int 5 t0, .ref m, .bytes b t1, .int k t2, .int 0 t3]) Q E s := by
  have hm0 := hm.1
  (refine' call_fn (binds := [("kind", .int 5 t0), ("module", .ref m), ("octets", .bytes b t1), ("k", .int k t2), ("off", .int 0 t3)]) ?st ?ho ?hcd ?hroom ?hb ?hk ?hck ?_ ?h1 ?h2 ?h3)
  (case st => first | with_reducible assumption | exact (Fn.st (by with_reducible assumption)).at rfl); (case ho => k_is); (case hcd => k_is)
  (case hroom => exact Room.depth (by assumption)); (case hb => first | exact BindsTo.of_eq rfl | exact binds_K (St.kin' (by assumption)) rfl (by k_is) rfl rfl rfl)
  (case hk => exact rfl); (case hck => exact rfl); (case h1 => exact rfl); (case h2 => exact rfl); (case h3 => exact rfl)
  intro L1 s1 hk1 f
  have hR' := fun env => hR.deeper (n := 16) env
  walk_at "mzr"
  refine sp_munpack_w4_x (u := _) (base := base) hP (Fn.st (Fn.at f (by exact rfl))) hts hex (below_push KB (Fn.at f (by exact rfl)) hts (by rw [hex]; exact fun b hb => nomatch hb) rfl) ((hR' _).less (by decide)) hm hk hb fun e s2 r => ?_
  exact exit_on KB (Fn.at f (by exact rfl)) hts rfl r.x (fun b hb => nomatch hb) fun s' r2 => h e s' (by rw [hex] at r2; exact r2)

theorem sp_read_5_b {A : Around} {base g : Heap} {fl : List Env} {s : Shared} {m p : Addr} {b : Array UInt8} {k : Nat} {t0 t1 t2 t3 : Tok} {Q : Value → Shared → Prop} {E : Value → Shared → Prop} (st : St C (Mine.hd.K C.w.params) g s) (hts : C.ts = []) (hex : C.ex = []) (KB : Below A base fl s.heap) (hR : Room A 17) (hm : ModAt g m p)
    (h : ∀ e s', Rz base fl e [] s s' → E (.ref e) s') : wpAny C.M A (call (.ref 977) [.int 5 t0, .ref m, .bytes b t1, .int k t2, .int 1 t3]) Q E s := by
  have hm0 := hm.1
  (refine' call_fn (binds := [("kind", .int 5 t0), ("module", .ref m), ("octets", .bytes b t1), ("k", .int k t2), ("off", .int 1 t3)]) ?st ?ho ?hcd ?hroom ?hb ?hk ?hck ?_ ?h1 ?h2 ?h3)
  (case st => first | with_reducible assumption | exact (Fn.st (by with_reducible assumption)).at rfl); (case ho => k_is); (case hcd => k_is)
  (case hroom => exact Room.depth (by assumption)); (case hb => first | exact BindsTo.of_eq rfl | exact binds_K (St.kin' (by assumption)) rfl (by k_is) rfl rfl rfl)
  (case hk => exact rfl); (case hck => exact rfl); (case h1 => exact rfl); (case h2 => exact rfl); (case h3 => exact rfl)
  intro L1 s1 hk1 f
  have hR' := fun env => hR.deeper (n := 16) env
  walk_at "mzr"
  refine sp_munpack_w4_b (p := p) (base := base) (Fn.st (Fn.at f (by exact rfl))) hts hex (below_push KB (Fn.at f (by exact rfl)) hts (by rw [hex]; exact fun b hb => nomatch hb) rfl) ((hR' _).less (by decide)) fun e s2 r => ?_
  exact exit_on KB (Fn.at f (by exact rfl)) hts rfl r.x (fun b hb => nomatch hb) fun s' r2 => h e s' (by rw [hex] at r2; exact r2)

theorem sp_read_6_x {A : Around} {base g : Heap} {fl : List Env} {s : Shared} {m p : Addr} {b : Array UInt8} {k : Nat} {t0 t1 t2 t3 : Tok} {Q : Value → Shared → Prop} {E : Value → Shared → Prop} (hP : C.prog = PySem.Challenge.pw_bn0016_01) (st : St C (Mine.hd.K C.w.params) g s) (hts : C.ts = []) (hex : C.ex = []) (KB : Below A base fl s.heap) (hR : Room A 17) (hm : ModAt g m p)
    (hk : k = 1 ∨ k = 2) (hb : b.size = 576 * k - 1)
    (h : ∀ e s', Rz base fl e [] s s' → E (.ref e) s') : wpAny C.M A (call (.ref 977) [.int 6 t0, .ref m, .bytes b t1, .int k t2, .int 0 t3]) Q E s := by
  have hm0 := hm.1
  (refine' call_fn (binds := [("kind", .int 6 t0), ("module", .ref m), ("octets", .bytes b t1), ("k", .int k t2), ("off", .int 0 t3)]) ?st ?ho ?hcd ?hroom ?hb ?hk ?hck ?_ ?h1 ?h2 ?h3)
  (case st => first | with_reducible assumption | exact (Fn.st (by with_reducible assumption)).at rfl); (case ho => k_is); (case hcd => k_is)
  (case hroom => exact Room.depth (by assumption)); (case hb => first | exact BindsTo.of_eq rfl | exact binds_K (St.kin' (by assumption)) rfl (by k_is) rfl rfl rfl)
  (case hk => exact rfl); (case hck => exact rfl); (case h1 => exact rfl); (case h2 => exact rfl); (case h3 => exact rfl)
  intro L1 s1 hk1 f
  have hR' := fun env => hR.deeper (n := 16) env
  walk_at "mzr"
  refine sp_munpack_z17_x (u := _) (base := base) hP (Fn.st (Fn.at f (by exact rfl))) hts hex (below_push KB (Fn.at f (by exact rfl)) hts (by rw [hex]; exact fun b hb => nomatch hb) rfl) ((hR' _).less (by decide)) hm hk hb fun e s2 r => ?_
  exact exit_on KB (Fn.at f (by exact rfl)) hts rfl r.x (fun b hb => nomatch hb) fun s' r2 => h e s' (by rw [hex] at r2; exact r2)

theorem sp_read_6_b {A : Around} {base g : Heap} {fl : List Env} {s : Shared} {m p : Addr} {b : Array UInt8} {k : Nat} {t0 t1 t2 t3 : Tok} {Q : Value → Shared → Prop} {E : Value → Shared → Prop} (st : St C (Mine.hd.K C.w.params) g s) (hts : C.ts = []) (hex : C.ex = []) (KB : Below A base fl s.heap) (hR : Room A 17) (hm : ModAt g m p)
    (h : ∀ e s', Rz base fl e [] s s' → E (.ref e) s') : wpAny C.M A (call (.ref 977) [.int 6 t0, .ref m, .bytes b t1, .int k t2, .int 1 t3]) Q E s := by
  have hm0 := hm.1
  (refine' call_fn (binds := [("kind", .int 6 t0), ("module", .ref m), ("octets", .bytes b t1), ("k", .int k t2), ("off", .int 1 t3)]) ?st ?ho ?hcd ?hroom ?hb ?hk ?hck ?_ ?h1 ?h2 ?h3)
  (case st => first | with_reducible assumption | exact (Fn.st (by with_reducible assumption)).at rfl); (case ho => k_is); (case hcd => k_is)
  (case hroom => exact Room.depth (by assumption)); (case hb => first | exact BindsTo.of_eq rfl | exact binds_K (St.kin' (by assumption)) rfl (by k_is) rfl rfl rfl)
  (case hk => exact rfl); (case hck => exact rfl); (case h1 => exact rfl); (case h2 => exact rfl); (case h3 => exact rfl)
  intro L1 s1 hk1 f
  have hR' := fun env => hR.deeper (n := 16) env
  walk_at "mzr"
  refine sp_munpack_z17_b (p := p) (base := base) (Fn.st (Fn.at f (by exact rfl))) hts hex (below_push KB (Fn.at f (by exact rfl)) hts (by rw [hex]; exact fun b hb => nomatch hb) rfl) ((hR' _).less (by decide)) fun e s2 r => ?_
  exact exit_on KB (Fn.at f (by exact rfl)) hts rfl r.x (fun b hb => nomatch hb) fun s' r2 => h e s' (by rw [hex] at r2; exact r2)

theorem sp_read_7_x {A : Around} {base g : Heap} {fl : List Env} {s : Shared} {m p : Addr} {b : Array UInt8} {k : Nat} {t0 t1 t2 t3 : Tok} {Q : Value → Shared → Prop} {E : Value → Shared → Prop} (hP : C.prog = PySem.Challenge.pw_bn0016_01) (st : St C (Mine.hd.K C.w.params) g s) (hts : C.ts = []) (hex : C.ex = []) (KB : Below A base fl s.heap) (hR : Room A 17) (hm : ModAt g m p)
    (hk : k = 1 ∨ k = 2) (hb : b.size = 640 * k - 1)
    (h : ∀ e s', Rz base fl e [] s s' → E (.ref e) s') : wpAny C.M A (call (.ref 977) [.int 7 t0, .ref m, .bytes b t1, .int k t2, .int 0 t3]) Q E s := by
  have hm0 := hm.1
  (refine' call_fn (binds := [("kind", .int 7 t0), ("module", .ref m), ("octets", .bytes b t1), ("k", .int k t2), ("off", .int 0 t3)]) ?st ?ho ?hcd ?hroom ?hb ?hk ?hck ?_ ?h1 ?h2 ?h3)
  (case st => first | with_reducible assumption | exact (Fn.st (by with_reducible assumption)).at rfl); (case ho => k_is); (case hcd => k_is)
  (case hroom => exact Room.depth (by assumption)); (case hb => first | exact BindsTo.of_eq rfl | exact binds_K (St.kin' (by assumption)) rfl (by k_is) rfl rfl rfl)
  (case hk => exact rfl); (case hck => exact rfl); (case h1 => exact rfl); (case h2 => exact rfl); (case h3 => exact rfl)
  intro L1 s1 hk1 f
  have hR' := fun env => hR.deeper (n := 16) env
  walk_at "mzr"
  refine sp_munpack_z19_x (u := _) (base := base) hP (Fn.st (Fn.at f (by exact rfl))) hts hex (below_push KB (Fn.at f (by exact rfl)) hts (by rw [hex]; exact fun b hb => nomatch hb) rfl) ((hR' _).less (by decide)) hm hk hb fun e s2 r => ?_
  exact exit_on KB (Fn.at f (by exact rfl)) hts rfl r.x (fun b hb => nomatch hb) fun s' r2 => h e s' (by rw [hex] at r2; exact r2)

theorem sp_read_7_b {A : Around} {base g : Heap} {fl : List Env} {s : Shared} {m p : Addr} {b : Array UInt8} {k : Nat} {t0 t1 t2 t3 : Tok} {Q : Value → Shared → Prop} {E : Value → Shared → Prop} (st : St C (Mine.hd.K C.w.params) g s) (hts : C.ts = []) (hex : C.ex = []) (KB : Below A base fl s.heap) (hR : Room A 17) (hm : ModAt g m p)
    (h : ∀ e s', Rz base fl e [] s s' → E (.ref e) s') : wpAny C.M A (call (.ref 977) [.int 7 t0, .ref m, .bytes b t1, .int k t2, .int 1 t3]) Q E s := by
  have hm0 := hm.1
  (refine' call_fn (binds := [("kind", .int 7 t0), ("module", .ref m), ("octets", .bytes b t1), ("k", .int k t2), ("off", .int 1 t3)]) ?st ?ho ?hcd ?hroom ?hb ?hk ?hck ?_ ?h1 ?h2 ?h3)
  (case st => first | with_reducible assumption | exact (Fn.st (by with_reducible assumption)).at rfl); (case ho => k_is); (case hcd => k_is)
  (case hroom => exact Room.depth (by assumption)); (case hb => first | exact BindsTo.of_eq rfl | exact binds_K (St.kin' (by assumption)) rfl (by k_is) rfl rfl rfl)
  (case hk => exact rfl); (case hck => exact rfl); (case h1 => exact rfl); (case h2 => exact rfl); (case h3 => exact rfl)
  intro L1 s1 hk1 f
  have hR' := fun env => hR.deeper (n := 16) env
  walk_at "mzr"
  refine sp_munpack_z19_b (p := p) (base := base) (Fn.st (Fn.at f (by exact rfl))) hts hex (below_push KB (Fn.at f (by exact rfl)) hts (by rw [hex]; exact fun b hb => nomatch hb) rfl) ((hR' _).less (by decide)) fun e s2 r => ?_
  exact exit_on KB (Fn.at f (by exact rfl)) hts rfl r.x (fun b hb => nomatch hb) fun s' r2 => h e s' (by rw [hex] at r2; exact r2)

/-- _law_refused, where the call raises ValueError -/
theorem sp_refused {A : Around} {base g : Heap} {fl : List Env} {s : Shared} {lam : Addr} {Q : Value → Shared → Prop} {E : Value → Shared → Prop} (st : St C (Mine.hd.K C.w.params) g s) (hts : C.ts = []) (hex : C.ex = []) (KB : Below A base fl s.heap) (hgb : Sub g base) (hR : Room A 40) (hfn : FnAt lam g)
    (hrun : ∀ (A' : Around) (fl' : List Env) (s' : Shared) (Q' E' : Value → Shared → Prop), St C (Mine.hd.K C.w.params) g s' → Below A' base fl' s'.heap → Room A' 38 → (∀ e s'', Rz base fl' e [] s' s'' → E' (.ref e) s'') → wpAny C.M A' (call (.ref lam) [] []) Q' E' s')
    (h : ∀ s', base.StaysIn s'.heap → s.heap.UpToSlots s'.heap → Out s s' → AllBare s'.gens → Q (.bool true) s') : wpAny C.M A (call (.ref 984) [.ref lam]) Q E s := by
  (refine' call_fn (binds := [("run", .ref lam)]) ?st ?ho ?hcd ?hroom ?hb ?hk ?hck ?_ ?h1 ?h2 ?h3)
  (case st => first | with_reducible assumption | exact (Fn.st (by with_reducible assumption)).at rfl); (case ho => k_is); (case hcd => k_is)
  (case hroom => exact Room.depth (by assumption)); (case hb => first | exact BindsTo.of_eq rfl | exact binds_K (St.kin' (by assumption)) rfl (by k_is) rfl rfl rfl)
  (case hk => exact rfl); (case hck => exact rfl); (case h1 => exact rfl); (case h2 => exact rfl); (case h3 => exact rfl)
  intro L1 s1 hk1 f
  have hR' := fun env => hR.deeper (n := 39) env
  walk_at "mzr"
  have KB1 := below_push KB f hts (by rw [hex]; exact fun b hb => nomatch hb) rfl
  refine tryValue (C := C) (K := (Mine.hd.K C.w.params)) (g := g) (base := base) (fl := fl) (Fn.st (Fn.at f (by exact rfl))) hts hex hgb KB1.stack rfl rfl rfl rfl (by k_is) (by exact rfl) ?_ fun e s' E' hb hu ho hg => ?_
  · walk_at "mzr"
    refine wpAny_Expr_any ?_ (by exact rfl) (by with_unfolding_all rfl)
    walk_at "mzr"
    refine callWith_F0 (let ⟨oc, od, fd, sl, q⟩ := hfn; ⟨oc, od, fd, sl, f.st.sub _ _ q⟩) ?_
    exact hrun _ _ _ _ _ (Fn.st (Fn.at f (by exact rfl))) KB1 ((hR' _).less (by decide)) fun e s'' r => ⟨e, rfl, r⟩
  · walk_at "mzr"
    show Q (.bool true) s'
    refine h s' hb (fun b o e1 hn => ?_) (ho.trans f.os) hg
    exact hu b o (f.keep b o (by rw [hts]; exact fun q => nomatch q) (by rw [hex]; exact fun q => nomatch q) e1) hn

def widths : List Int := [10, 13, 3, 4, 6, 4, 18, 20]
def tops : List Int := [0, 4096, 2, 4, 0, 0, 131072, 524288]

def wdN (kd : Nat) : Nat := match kd with | 0 => 10 | 1 => 13 | 2 => 3 | 3 => 4 | 4 => 6 | 5 => 4 | 6 => 18 | _ => 20
/-- what is packed of a coefficient -/
def trP (kd : Nat) (ns : List Int) : List Int := match kd with | 1 => ns.map (fun c => 1 * 2 ^ (12 : Int).toNat - c) | 2 => ns.map (fun c => (2 - c).fmod 8380417) | 3 => ns.map (fun c => (4 - c).fmod 8380417) | 6 => ns.map (fun c => (131072 - c).fmod 8380417) | 7 => ns.map (fun c => (524288 - c).fmod 8380417) | _ => ns
/-- what is read of a number -/
def trU (kd : Nat) (ns : List Int) : List Int := match kd with | 1 => ns.map (fun c => 1 * 2 ^ (12 : Int).toNat - c) | 2 => ns.map (fun c => 2 - c) | 3 => ns.map (fun c => 4 - c) | 6 => ns.map (fun c => 131072 - c) | 7 => ns.map (fun c => 524288 - c) | _ => ns
theorem sp_packed {A : Around} {g : Heap} {s : Shared} {y m p : Addr} {k kd : Nat} {ns : Nat → List Int} {t0 : Tok} {Q : Value → Shared → Prop} {E : Value → Shared → Prop} (hkd : kd < 8) (hts : ∀ P ∈ ptabs, P ∈ C.ts) (st : St C (Mine.hd.K C.w.params) g s) (hR : Room A 22) (hy : VecOf g y m p k ns) (hp : RingAt g p)
    (hk : k = 1 ∨ k = 2) (hl : ∀ j < k, (ns j).length = 256) (hc : ∀ j < k, ∀ c ∈ trP kd (ns j), 0 ≤ c ∧ c < 2 ^ wdN kd)
    (h : ∀ b t g' s', Gr C g s g' s' → KBw.bInts b = (List.range k).flatMap (fun j => digits 256 (32 * wdN kd) (dig (2 ^ wdN kd) (trP kd (ns j)))) → Q (.bytes b t) s') : wpAny C.M A (call (.ref 970) [.int kd t0, .ref y]) Q E s := by
  obtain rfl | rfl | rfl | rfl | rfl | rfl | rfl | rfl : kd = 0 ∨ kd = 1 ∨ kd = 2 ∨ kd = 3 ∨ kd = 4 ∨ kd = 5 ∨ kd = 6 ∨ kd = 7 := by omega
  · exact sp_packed_0 hts st hR hy hp hk hl hc h
  · exact sp_packed_1 hts st hR hy hp hk hl hc h
  · exact sp_packed_2 hts st hR hy hp hk hl hc h
  · exact sp_packed_3 hts st hR hy hp hk hl hc h
  · exact sp_packed_4 hts st hR hy hp hk hl hc h
  · exact sp_packed_5 hts st hR hy hp hk hl hc h
  · exact sp_packed_6 hts st hR hy hp hk hl hc h
  · exact sp_packed_7 hts st hR hy hp hk hl hc h
theorem sp_read {A : Around} {g : Heap} {s : Shared} {m p : Addr} {b : Array UInt8} {k kd : Nat} {t0 t1 t2 t3 : Tok} {Q : Value → Shared → Prop} {E : Value → Shared → Prop} (hkd : kd < 8) (hP : C.prog = PySem.Challenge.pw_bn0016_01) (st : St C (Mine.hd.K C.w.params) g s) (hR : Room A 17) (hm : ModAt g m p)
    (hk : k = 1 ∨ k = 2) (hb : b.size = 32 * wdN kd * k)
    (h : ∀ y g' s', Gr C g s g' s' → VecOf g' y m p k (fun j => trU kd (unpL (((KBw.bInts b).drop (32 * wdN kd * j)).take (32 * wdN kd)) (wdN kd))) → Q (.ref y) s') : wpAny C.M A (call (.ref 977) [.int kd t0, .ref m, .bytes b t1, .int k t2, .int 0 t3]) Q E s := by
  obtain rfl | rfl | rfl | rfl | rfl | rfl | rfl | rfl : kd = 0 ∨ kd = 1 ∨ kd = 2 ∨ kd = 3 ∨ kd = 4 ∨ kd = 5 ∨ kd = 6 ∨ kd = 7 := by omega
  · exact sp_read_0 hP st hR hm hk hb h
  · exact sp_read_1 hP st hR hm hk hb h
  · exact sp_read_2 hP st hR hm hk hb h
  · exact sp_read_3 hP st hR hm hk hb h
  · exact sp_read_4 hP st hR hm hk hb h
  · exact sp_read_5 hP st hR hm hk hb h
  · exact sp_read_6 hP st hR hm hk hb h
  · exact sp_read_7 hP st hR hm hk hb h
theorem sp_read_x {A : Around} {base g : Heap} {fl : List Env} {s : Shared} {m p : Addr} {b : Array UInt8} {k kd : Nat} {t0 t1 t2 t3 : Tok} {Q : Value → Shared → Prop} {E : Value → Shared → Prop} (hkd : kd < 8) (hP : C.prog = PySem.Challenge.pw_bn0016_01) (st : St C (Mine.hd.K C.w.params) g s) (hts : C.ts = []) (hex : C.ex = []) (KB : Below A base fl s.heap) (hR : Room A 17) (hm : ModAt g m p)
    (hk : k = 1 ∨ k = 2) (hb : b.size = 32 * wdN kd * k - 1)
    (h : ∀ e s', Rz base fl e [] s s' → E (.ref e) s') : wpAny C.M A (call (.ref 977) [.int kd t0, .ref m, .bytes b t1, .int k t2, .int 0 t3]) Q E s := by
  obtain rfl | rfl | rfl | rfl | rfl | rfl | rfl | rfl : kd = 0 ∨ kd = 1 ∨ kd = 2 ∨ kd = 3 ∨ kd = 4 ∨ kd = 5 ∨ kd = 6 ∨ kd = 7 := by omega
  · exact sp_read_0_x hP st hts hex KB hR hm hk hb h
  · exact sp_read_1_x hP st hts hex KB hR hm hk hb h
  · exact sp_read_2_x hP st hts hex KB hR hm hk hb h
  · exact sp_read_3_x hP st hts hex KB hR hm hk hb h
  · exact sp_read_4_x hP st hts hex KB hR hm hk hb h
  · exact sp_read_5_x hP st hts hex KB hR hm hk hb h
  · exact sp_read_6_x hP st hts hex KB hR hm hk hb h
  · exact sp_read_7_x hP st hts hex KB hR hm hk hb h
theorem sp_read_b {A : Around} {base g : Heap} {fl : List Env} {s : Shared} {m p : Addr} {b : Array UInt8} {k kd : Nat} {t0 t1 t2 t3 : Tok} {Q : Value → Shared → Prop} {E : Value → Shared → Prop} (hkd : kd < 8) (hk2 : 2 ≤ kd) (st : St C (Mine.hd.K C.w.params) g s) (hts : C.ts = []) (hex : C.ex = []) (KB : Below A base fl s.heap) (hR : Room A 17) (hm : ModAt g m p)
    (h : ∀ e s', Rz base fl e [] s s' → E (.ref e) s') : wpAny C.M A (call (.ref 977) [.int kd t0, .ref m, .bytes b t1, .int k t2, .int 1 t3]) Q E s := by
  obtain rfl | rfl | rfl | rfl | rfl | rfl | rfl | rfl : kd = 0 ∨ kd = 1 ∨ kd = 2 ∨ kd = 3 ∨ kd = 4 ∨ kd = 5 ∨ kd = 6 ∨ kd = 7 := by omega
  · omega
  · omega
  · exact sp_read_2_b st hts hex KB hR hm h
  · exact sp_read_3_b st hts hex KB hR hm h
  · exact sp_read_4_b st hts hex KB hR hm h
  · exact sp_read_5_b st hts hex KB hR hm h
  · exact sp_read_6_b st hts hex KB hR hm h
  · exact sp_read_7_b st hts hex KB hR hm h
theorem sp_readz {A : Around} {g : Heap} {s : Shared} {m p : Addr} {b : Array UInt8} {k kd : Nat} {top : Int} {t0 t1 t2 : Tok} {Q : Value → Shared → Prop} {E : Value → Shared → Prop} (hkd : kd < 8) (h5 : 5 < kd) (htop : tops.getD kd 0 = top) (hP : C.prog = PySem.Challenge.pw_bn0016_01) (st : St C (Mine.hd.K C.w.params) g s) (hR : Room A 17) (hm : ModAt g m p)
    (hk : k = 1 ∨ k = 2) (hb : b.size = 32 * wdN kd * k)
    (h : ∀ y g' s', Gr C g s g' s' → VecOf g' y m p k (fun j => trU kd (unpL (((KBw.bInts b).drop (32 * wdN kd * j)).take (32 * wdN kd)) (wdN kd))) → Q (.ref y) s') : wpAny C.M A (call (.ref 958) [.ref m, .bytes b t0, .int k t1, .int top t2]) Q E s := by
  subst htop
  obtain rfl | rfl : kd = 6 ∨ kd = 7 := by omega
  · exact sp_munpack_z17 hP st (hR.less (by decide)) hm hk hb h
  · exact sp_munpack_z19 hP st (hR.less (by decide)) hm hk hb h

/-- a group of eight numbers -/
def grp (N : List Int) (whole : Int) (i : Nat) : Int := ((N.getD (i % N.length) 0).fdiv (whole ^ (i / N.length % 2)) + 271828182845904523536028747135266249775724709369995 * (i : Int)).fmod whole
/-- a coefficient of the row -/
def rowEl (top sign : Int) (wn : Nat) (G : Int) (c : Nat) : Int := top + sign * ((G.fdiv (2 ^ (wn * c))).fmod (2 ^ wn))
/-- an octet of a group -/
def octEl (G : Int) (o : Nat) : Int := (G.fdiv (256 ^ o)).fmod 256
theorem len_flat {α : Type} {m : Nat} (f : Nat → List α) (h : ∀ a, (f a).length = m) : ∀ {n : Nat}, ((List.range n).flatMap f).length = n * m := by
  intro n
  induction n with
  | zero => simp
  | succ n ih => rw [List.range_succ, List.flatMap_append, List.length_append, ih]; simp [h, Nat.add_mul]
/-- what is shown to the packer -/
def shownOf (first : Int) (kd : Nat) (row : List Int) : List Int := if (kd = 2 ∨ kd = 3 ∨ kd = 6 ∨ kd = 7) ∧ (first.fdiv 16).fmod 2 = 1 then row.map (fun c => c.fmod 8380417) else row
theorem Room.u64 {A : Around} {n : Nat} (h : Room A (n + 2)) : A.units + 64 < cLine := by have := h.2.1; show A.units + 64 < 9900; omega
theorem Fld.noP {g : Heap} {P x Cc : Addr} {fs : List (Str × Value)} {ps : Array Value} (hp : g.get? P = some (tabObj ps)) (h : Fld g x Cc fs) : Fld (delL g [P]) x Cc fs := by
  obtain ⟨dx, es, n, a, b, c⟩ := h
  exact ⟨dx, es, n, delL_ne a fun q => (by rw [List.mem_singleton.mp q, hp] at a; cases a), delL_ne b fun q => (by rw [List.mem_singleton.mp q, hp] at b; cases b), c⟩
theorem ModAt.noP {g : Heap} {P m p : Addr} {ps : Array Value} (hp : g.get? P = some (tabObj ps)) (h : ModAt g m p) : ModAt (delL g [P]) m p := by
  obtain ⟨a, t1, t2, v1, v2, v3, v4, b⟩ := h
  exact ⟨a.noP hp, t1, t2, v1, v2, v3, v4, b.noP hp⟩
theorem ModAt.up {g g' : Heap} {m p : Addr} (h : ModAt g m p) (k : Sub g g') : ModAt g' m p := ⟨h.1.up k, h.2.up k⟩
theorem no_of {l : List (Str × NameKind)} {k : NameKind} (h : ∀ y ∈ l, y.2 ≠ k) : ∀ x, l.lookup x ≠ some k := fun x q => h _ (mem_of_lookup q) rfl
theorem bInts_inj {b c : Array UInt8} (h : KBw.bInts b = KBw.bInts c) : b = c := by
  obtain ⟨l⟩ := b
  obtain ⟨r⟩ := c
  unfold KBw.bInts at h
  simp only at h
  congr 1
  induction l generalizing r with
  | nil =>
    cases r with
    | nil => rfl
    | cons y r => cases h
  | cons x l ih =>
    cases r with
    | nil => cases h
    | cons y r =>
      simp only [List.map_cons, List.cons.injEq] at h
      have hxy : x = y := UInt8.toNat_inj.mp (by exact_mod_cast h.1)
      rw [hxy, ih r h.2]
theorem VecOf.congr {g : Heap} {y m p : Addr} {k : Nat} {F G : Nat → List Int} (h : VecOf g y m p k F) (e : ∀ j < k, F j = G j) : VecOf g y m p k G := by
  obtain ⟨es, a, b, c⟩ := h
  exact ⟨es, a, b, fun j x hx => by rw [← e j (by rw [← b]; exact (List.getElem?_eq_some_iff.mp hx).1)]; exact c j x hx⟩
theorem Fn.named {g₀ g : Heap} {s₀ s : Shared} {env : Env} {σ : Str → Option Value} (f : Fn C (Mine.hd.K C.w.params) g₀ s₀ env g s σ) : ∃ σ', σ' = σ ∧ Fn C (Mine.hd.K C.w.params) g₀ s₀ env g s σ' := ⟨_, rfl, f⟩

theorem digits_dig {B : Int} (hB : 0 < B) {cs : List Int} {m : Nat} (hm : cs.length = m) (h : ∀ c ∈ cs, 0 ≤ c ∧ c < B) : digits B m (dig B cs) = cs := by
  subst hm
  refine List.ext_getElem? fun i => ?_
  unfold digits
  rw [List.getElem?_map]
  by_cases hi : i < cs.length
  · rw [List.getElem?_range hi, List.getElem?_eq_getElem hi]
    show some (dig B cs / B ^ i % B) = some _
    rw [dig_at hB h (List.getElem?_eq_getElem hi)]
  · rw [List.getElem?_eq_none (by simp; omega), List.getElem?_eq_none (by omega)]; rfl
theorem range_add_flat {α : Type} (f : Nat → List α) (n : Nat) : ∀ m, (List.range (n + m)).flatMap f = (List.range n).flatMap f ++ (List.range m).flatMap fun i => f (n + i) := by
  intro m
  induction m with
  | zero => simp
  | succ m ih => rw [Nat.add_succ, List.range_succ, List.flatMap_append, ih, List.range_succ, List.flatMap_append, List.append_assoc]; simp
theorem flat_flat {α : Type} (f : Nat → List α) (n : Nat) : ∀ k, (List.range (n * k)).flatMap f = (List.range k).flatMap fun j => (List.range n).flatMap fun i => f (n * j + i) := by
  intro k
  induction k with
  | zero => simp
  | succ k ih => rw [Nat.mul_succ, range_add_flat, ih, List.range_succ, List.flatMap_append]; simp
theorem slice_flat {α : Type} (F : Nat → List α) {m k j : Nat} (hF : ∀ j, (F j).length = m) (hj : j < k) : (((List.range k).flatMap F).drop (m * j)).take m = F j := by
  obtain ⟨r, rfl⟩ : ∃ r, k = j + (r + 1) := ⟨k - j - 1, by omega⟩
  have h1 : ((List.range j).flatMap F).length = m * j := by rw [len_flat F hF, Nat.mul_comm]
  rw [range_add_flat, List.drop_append_of_le_length (by omega), List.drop_eq_nil_of_le (by omega), List.nil_append, Nat.add_comm r 1, range_add_flat]
  have h2 : (List.range 1).flatMap (fun i => F (j + i)) = F j := by simp [List.range_succ]
  rw [h2, List.take_append_of_le_length (by rw [hF]; exact Nat.le_refl _), List.take_of_length_le (by rw [hF]; exact Nat.le_refl _)]
theorem slice_map {α : Type} (f : Nat → List α) {m n k j : Nat} (hf : ∀ a, (f a).length = m) (hj : j < k) : (((List.range (n * k)).flatMap f).drop (n * m * j)).take (n * m) = (List.range n).flatMap fun i => f (n * j + i) := by
  rw [flat_flat]
  exact slice_flat (fun j => (List.range n).flatMap fun i => f (n * j + i)) (fun j => len_flat _ fun a => hf _) hj
section
variable {first top sign : Int} {wn kd kk : Nat} {whole : Int} {Gf : Nat → Int} {row shown Os : List Int}
theorem rowEl_eq (G : Int) : (List.range 8).map (rowEl top sign wn G) = (digits (2 ^ wn) 8 G).map fun d => top + sign * d := by
  unfold digits
  rw [List.map_map]
  refine List.map_congr_left fun c _ => ?_
  show top + sign * _ = top + sign * _
  rw [Int.fdiv_eq_ediv_of_nonneg _ (Int.pow_nonneg (by decide)), Int.fmod_eq_emod_of_nonneg _ (Int.pow_nonneg (by decide)), Int.pow_mul]
theorem octEl_eq (G : Int) : (List.range wn).map (octEl G) = digits 256 wn G := by
  unfold digits
  refine List.map_congr_left fun c _ => ?_
  unfold octEl
  rw [Int.fdiv_eq_ediv_of_nonneg _ (Int.pow_nonneg (by decide)), Int.fmod_eq_emod_of_nonneg _ (by decide)]
theorem kinds (hkd8 : kd < 8) (hT0 : tops.getD kd 0 = top) (hsg : (if top > 0 then (-1 : Int) else 1) = sign) {d : Int} :
    (trU kd [d] = [top + sign * d]) ∧ (0 ≤ d → d < 2 ^ wdN kd → trP kd [top + sign * d] = [d] ∧ ((kd = 2 ∨ kd = 3 ∨ kd = 6 ∨ kd = 7) → trP kd [(top + sign * d).fmod 8380417] = [d])) := by
  have key : ∀ a b : Int, a.fmod 8380417 = a % 8380417 := fun a _ => Int.fmod_eq_emod_of_nonneg _ (by decide)
  subst hsg
  subst hT0
  obtain rfl | rfl | rfl | rfl | rfl | rfl | rfl | rfl : kd = 0 ∨ kd = 1 ∨ kd = 2 ∨ kd = 3 ∨ kd = 4 ∨ kd = 5 ∨ kd = 6 ∨ kd = 7 := by omega
  all_goals
    simp only [trU, trP, tops, wdN, List.getD, List.map_cons, List.map_nil, List.cons.injEq, and_true, Int.fmod_eq_emod_of_nonneg _ (show (0 : Int) ≤ 8380417 by decide)]
    simp (config := { decide := true }) only [List.getElem?_cons_zero, List.getElem?_cons_succ, Option.getD_some, if_pos, if_neg, ite_true, ite_false, show (2 : Int) ^ (12 : Int).toNat = 4096 from rfl]
    refine ⟨by omega, fun h0 h1 => ⟨?_, ?_⟩⟩
    · have h2 : d < 2 ^ 20 := Int.lt_of_lt_of_le h1 (by decide)
      omega
    · have h2 : d < 2 ^ 20 := Int.lt_of_lt_of_le h1 (by decide)
      intro hh
      first | omega | exact hh.elim | (simp at hh; done)
theorem trU_map (kd : Nat) (cs : List Int) : trU kd cs = cs.flatMap fun d => trU kd [d] := by
  unfold trU
  split <;> simp [List.map_eq_flatMap]
theorem trP_map (kd : Nat) (cs : List Int) : trP kd cs = cs.flatMap fun d => trP kd [d] := by
  unfold trP
  split <;> simp [List.map_eq_flatMap]
theorem trU_eq (hkd8 : kd < 8) (hT0 : tops.getD kd 0 = top) (hsg : (if top > 0 then (-1 : Int) else 1) = sign) (cs : List Int) : trU kd cs = cs.map fun d => top + sign * d := by
  rw [trU_map, List.map_eq_flatMap]
  congr 1
  funext d
  exact (kinds hkd8 hT0 hsg).1
theorem fm_id {f : Int → List Int} {cs : List Int} (h : ∀ c ∈ cs, f c = [c]) : cs.flatMap f = cs := by
  induction cs with
  | nil => rfl
  | cons c cs ih => rw [List.flatMap_cons, h c (.head _), ih fun x hx => h x (.tail _ hx)]; rfl
theorem trP_eq (hkd8 : kd < 8) (hT0 : tops.getD kd 0 = top) (hsg : (if top > 0 then (-1 : Int) else 1) = sign) {cs : List Int} (hc : ∀ c ∈ cs, 0 ≤ c ∧ c < 2 ^ wdN kd) : trP kd (cs.map fun d => top + sign * d) = cs := by
  rw [trP_map, List.flatMap_map]
  exact fm_id fun c h => ((kinds hkd8 hT0 hsg).2 (hc c h).1 (hc c h).2).1
theorem trP_eq2 (hkd8 : kd < 8) (hT0 : tops.getD kd 0 = top) (hsg : (if top > 0 then (-1 : Int) else 1) = sign) {cs : List Int} (hc : ∀ c ∈ cs, 0 ≤ c ∧ c < 2 ^ wdN kd) (hk : kd = 2 ∨ kd = 3 ∨ kd = 6 ∨ kd = 7) : trP kd ((cs.map fun d => top + sign * d).map fun c => c.fmod 8380417) = cs := by
  rw [trP_map, List.map_map, List.flatMap_map]
  exact fm_id fun c h => ((kinds hkd8 hT0 hsg).2 (hc c h).1 (hc c h).2).2 hk
/-- the coefficients' digits of one polynomial -/
def csOf (wn : Nat) (Gf : Nat → Int) (j : Nat) : List Int := (List.range 32).flatMap fun i => digits (2 ^ wn) 8 (Gf (32 * j + i))
/-- its octets -/
def osOf (wn : Nat) (Gf : Nat → Int) (j : Nat) : List Int := (List.range 32).flatMap fun i => digits 256 wn (Gf (32 * j + i))
theorem csOf_in {j : Nat} : ∀ c ∈ csOf wn Gf j, 0 ≤ c ∧ c < 2 ^ wn := fun c hc => by
  obtain ⟨i, _, h⟩ := List.mem_flatMap.mp hc
  exact digits_in (Int.pow_pos (by decide)) h
theorem osOf_in {j : Nat} : ∀ c ∈ osOf wn Gf j, 0 ≤ c ∧ c < 256 := fun c hc => by
  obtain ⟨i, _, h⟩ := List.mem_flatMap.mp hc
  exact digits_in (by decide) h
theorem digits_lenX (B : Int) (m : Nat) (G : Int) : (digits B m G).length = m := by simp [digits]
theorem csOf_len {j : Nat} : (csOf wn Gf j).length = 256 := len_flat (m := 8) _ fun a => digits_lenX _ _ _
theorem osOf_len {j : Nat} : (osOf wn Gf j).length = 32 * wn := len_flat (m := wn) _ fun a => digits_lenX _ _ _
theorem dig_both (hWh : (2 : Int) ^ (8 * wn) = whole) (hG : ∀ a, 0 ≤ Gf a ∧ Gf a < whole) (j : Nat) : dig (2 ^ wn) (csOf wn Gf j) = dig 256 (osOf wn Gf j) := by
  have e1 : ((2 : Int) ^ wn) ^ 8 = whole := by rw [← hWh, ← Int.pow_mul, Nat.mul_comm]
  have e2 : (256 : Int) ^ wn = whole := by rw [← hWh, show (256 : Int) = 2 ^ 8 from by decide, ← Int.pow_mul]
  have hm : ∀ (B : Int) (m : Nat), ((List.range 32).flatMap fun i => digits B m (Gf (32 * j + i))) = ((List.range 32).map fun i => Gf (32 * j + i)).flatMap (digits B m) := fun B m => by rw [List.flatMap_map]
  unfold csOf osOf
  rw [hm, hm, dig_concat (Int.pow_pos (by decide)) 8 (by rw [e1]; intro G h; obtain ⟨i, _, rfl⟩ := List.mem_map.mp h; exact hG _), dig_concat (by decide) wn (by rw [e2]; intro G h; obtain ⟨i, _, rfl⟩ := List.mem_map.mp h; exact hG _), e1, e2]
theorem row_slice {j : Nat} (hj : j < kk) (hRow : (List.range (32 * kk)).flatMap (fun a => (List.range 8).map (rowEl top sign wn (Gf a))) = row) : (row.drop (256 * j)).take 256 = (csOf wn Gf j).map fun d => top + sign * d := by
  rw [← hRow]
  have := slice_map (fun a => (List.range 8).map (rowEl top sign wn (Gf a))) (m := 8) (n := 32) (k := kk) (j := j) (fun a => by simp) hj
  rw [show 32 * 8 = 256 from rfl] at this
  rw [this]
  unfold csOf
  rw [List.map_flatMap]
  congr 1
  funext i
  exact rowEl_eq _
theorem os_slice {j : Nat} (hj : j < kk) (hOs : (List.range (32 * kk)).flatMap (fun a => (List.range wn).map (octEl (Gf a))) = Os) : (Os.drop (32 * wn * j)).take (32 * wn) = osOf wn Gf j := by
  rw [← hOs]
  rw [slice_map (fun a => (List.range wn).map (octEl (Gf a))) (m := wn) (n := 32) (k := kk) (j := j) (fun a => by simp) hj]
  unfold osOf
  congr 1
  funext i
  exact octEl_eq _
theorem law_pack (hkd8 : kd < 8) (hwn : wn = wdN kd) (hT0 : tops.getD kd 0 = top) (hsg : (if top > 0 then (-1 : Int) else 1) = sign) (hWh : (2 : Int) ^ (8 * wn) = whole) (hG : ∀ a, 0 ≤ Gf a ∧ Gf a < whole)
    (hRow : (List.range (32 * kk)).flatMap (fun a => (List.range 8).map (rowEl top sign wn (Gf a))) = row) (hShown : shownOf first kd row = shown) (hOs : (List.range (32 * kk)).flatMap (fun a => (List.range wn).map (octEl (Gf a))) = Os) :
    (∀ j < kk, ∀ c ∈ trP kd ((shown.drop (256 * j)).take 256), 0 ≤ c ∧ c < 2 ^ wdN kd) ∧ (List.range kk).flatMap (fun j => digits 256 (32 * wdN kd) (dig (2 ^ wdN kd) (trP kd ((shown.drop (256 * j)).take 256)))) = Os := by
  have hsl : ∀ j < kk, trP kd ((shown.drop (256 * j)).take 256) = csOf wn Gf j := fun j hj => by
    have hin : ∀ c ∈ csOf wn Gf j, 0 ≤ c ∧ c < 2 ^ wdN kd := by rw [← hwn]; exact csOf_in
    rw [← hShown]
    unfold shownOf
    split
    · rename_i hc
      rw [← List.map_drop, ← List.map_take, row_slice hj hRow]
      exact trP_eq2 hkd8 hT0 hsg hin hc.1
    · rw [row_slice hj hRow]
      exact trP_eq hkd8 hT0 hsg hin
  refine ⟨fun j hj => by rw [hsl j hj, ← hwn]; exact csOf_in, ?_⟩
  have h1 : ∀ j ∈ List.range kk, digits 256 (32 * wdN kd) (dig (2 ^ wdN kd) (trP kd ((shown.drop (256 * j)).take 256))) = osOf wn Gf j := fun j hj => by
    rw [hsl j (List.mem_range.mp hj), ← hwn, dig_both hWh hG, digits_dig (by decide) osOf_len osOf_in]
  rw [← hOs, flat_flat]
  rw [List.flatMap_def, List.flatMap_def, List.map_congr_left h1]
  congr 1
  refine List.map_congr_left fun j _ => ?_
  unfold osOf
  congr 1
  funext i
  exact (octEl_eq _).symm
theorem law_unp (hkd8 : kd < 8) (hwn : wn = wdN kd) (hT0 : tops.getD kd 0 = top) (hsg : (if top > 0 then (-1 : Int) else 1) = sign) (hWh : (2 : Int) ^ (8 * wn) = whole) (hG : ∀ a, 0 ≤ Gf a ∧ Gf a < whole)
    (hRow : (List.range (32 * kk)).flatMap (fun a => (List.range 8).map (rowEl top sign wn (Gf a))) = row) (hOs : (List.range (32 * kk)).flatMap (fun a => (List.range wn).map (octEl (Gf a))) = Os) :
    ∀ j < kk, trU kd (unpL ((Os.drop (32 * wdN kd * j)).take (32 * wdN kd)) (wdN kd)) = (row.drop (256 * j)).take 256 := by
  intro j hj
  rw [← hwn, os_slice hj hOs, row_slice hj hRow, trU_eq hkd8 hT0 hsg]
  congr 1
  unfold unpL
  rw [value_dig, ← dig_both hWh hG]
  have := digits_dig (B := 2 ^ wn) (Int.pow_pos (by decide)) (csOf_len (wn := wn) (Gf := Gf) (j := j)) csOf_in
  rw [← this]
  unfold digits
  refine List.map_congr_left fun i _ => ?_
  rw [mask_el (by omega), Int.toNat_natCast]
  rw [show (List.range 256).map (fun c => dig (2 ^ wn) (csOf wn Gf j) / (2 ^ wn) ^ c % 2 ^ wn) = csOf wn Gf j from this]
end

theorem Fn.slots {g₀ g : Heap} {s₀ s s' : Shared} {env : Env} {σ : Str → Option Value} (f : Fn C (Mine.hd.K C.w.params) g₀ s₀ env g s σ) (hb : (delL s.heap [env.locals]).StaysIn s'.heap) (hu : s.heap.UpToSlots s'.heap) (ho : Out s s') (hg : AllBare s'.gens) : Fn C (Mine.hd.K C.w.params) g₀ s₀ env g s' σ := by
  have k : ∀ b o, b ≠ env.locals → s.heap.get? b = some o → s'.heap.get? b = some o := fun b o n e => hb b o (delL_ne e (by simpa using n))
  exact {
    st := ⟨fun b o e => k b o (fun q => by rw [q, f.own.2] at e; cases e) (f.st.sub b o e), f.st.gt, f.st.ge, fun b hb => (f.st.exs b hb).elim fun o e => ⟨o, k b o (f.exo b hb).1 e⟩,
      fun P hP => (f.st.tab P hP).elim fun ps h => ⟨ps, k _ _ (fun q => f.notTab (.inl q) hP) h.1, h.2⟩, hg, f.st.kin, f.st.top⟩
    loc := ⟨by
      obtain ⟨m, ⟨o, es, ep, e, hd, r⟩, hm⟩ := f.loc.ns
      obtain ⟨sl, e'⟩ := hu _ _ e (fun vs q => by rw [hd] at q; cases q)
      exact ⟨m, ⟨_, es, ep, e', hd, r⟩, hm⟩, fun x c e => let ⟨o, e1, hd⟩ := f.loc.cell x c e; ⟨o, k _ _ (f.apartL x c e) e1, hd⟩⟩
    up := f.up
    keep := fun b o h1 h2 e => k b o (fun q => by rw [q, f.own.1] at e; cases e) (f.keep b o h1 h2 e)
    fresh := f.fresh
    os := ho.trans f.os
    exo := f.exo
    st₀ := f.st₀
    own := f.own
    ownC := f.ownC
    gC := f.gC
    apart := f.apart
    apartL := f.apartL
    fn := f.fn
    gl := f.gl
    bl := f.bl }
theorem pw_ne : ∀ {l : List (Str × Addr)}, (l.Pairwise fun x y => x.2 ≠ y.2) → ∀ {a b : Str × Addr}, a ∈ l → b ∈ l → a.1 ≠ b.1 → a.2 ≠ b.2
  | [], _, _, _, h, _, _ => nomatch h
  | c :: r, hp, a, b, ha, hb, hn => by
    obtain ⟨h1, h2⟩ := List.pairwise_cons.mp hp
    rcases List.mem_cons.mp ha with ea | ha2 <;> rcases List.mem_cons.mp hb with eb | hb2
    · exact absurd (by rw [ea, eb]) hn
    · rw [ea]; exact h1 b hb2
    · rw [eb]; exact fun q => h1 a ha2 q.symm
    · exact pw_ne h2 ha2 hb2 hn
theorem pw_clos {cells clos : List (Str × Addr)} {names : List Str} (hp : cells.Pairwise fun x y => x.2 ≠ y.2) (hin : ∀ p ∈ clos, p ∈ cells) (he : clos.map (·.1) = names) (hn : names.Nodup) : clos.Pairwise fun x y => x.2 ≠ y.2 := by
  subst he
  have h1 : clos.Pairwise fun x y => x.1 ≠ y.1 := List.pairwise_map.mp hn
  exact h1.imp_of_mem fun ha hb q => pw_ne hp (hin _ ha) (hin _ hb) q

/-- a call that must be refused: told by the run of the lambda's body -/
theorem refusedF {A : Around} {E : Value → Shared → Prop} {g₀ g : Heap} {s₀ s S : Shared} {env : Env} {σ : Str → Option Value} {lam : Addr} {name qual : Str} {params : Arguments} {body : Expr} {scope : Scope} {clos : List (Str × Addr)} {Q : Value → Shared → Prop} (names : List Str)
    (f : Fn C (Mine.hd.K C.w.params) g₀ s₀ env g s σ) (hS : Same S s) (hA : A.frames = some [env]) (hf : env.frame = some env.locals) (hfu : env.func ≠ none) (hR : Room A 40) (hl : LamAt g lam name qual params body scope clos) (hcl : ∀ p ∈ clos, env.cells.lookup p.1 = some p.2) (hnm : clos.map (·.1) = names) (hnd : names.Nodup)
    (hnl : ∀ x, scope.names.lookup x ≠ some .local) (hcell : ∀ y ∈ scope.names, y.2 ≠ .cell)
    (hb : ∀ (base : Heap) (A' : Around) (fl' : List Env) (g1 : Heap) (s1 s2 : Shared) (L c' : Addr) (E' : Value → Shared → Prop), Fn C.bare (Mine.hd.K C.w.params) g1 s1 (envX qual scope L lam (.ref c') clos) g1 s2 σ → Sub g g1 → Below A' base fl' s1.heap → Room A' 38 → (∀ e s', Rz base fl' e [] s1 s' → E' (.ref e) s') →
      ∀ Q' : Value → Shared → Prop, wpAny C.bare.M (A'.deeper (envX qual scope L lam (.ref c') clos)) (eval body (envX qual scope L lam (.ref c') clos)) Q'
        (fun e s'' => wpAny C.bare.M (A'.deeper (envX qual scope L lam (.ref c') clos)) (leaving (envX qual scope L lam (.ref c') clos) e) (fun _ s3 => E' e s3) (fun e' s3 => E' e' s3) s'') s2)
    (h : ∀ s', Fn C (Mine.hd.K C.w.params) g₀ s₀ env g s' σ → Q (.bool true) s')
    (hbind : ∀ pm cv ct, bindArgs (kla_fn name qual params body scope clos pm cv ct) ⟨[], []⟩ = pure [] := by intro _ _ _; rfl)
    (hco : scope.isCoroutine = false := by rfl) (hgen : scope.isGenerator = false := by rfl) (hk : scope.kind = .function := by rfl) :
    wpAny C.M A (call (.ref 984) [.ref lam]) Q E S := by
  have f' := f.at hS
  have hin : ∀ p ∈ clos, p ∈ env.cells := fun p hp => mem_of_lookup (hcl p hp)
  generalize hg1 : addL g S.heap (clos.map (·.2)) = g1
  have up1 : Sub g g1 := hg1 ▸ addL_up f'.st.sub
  have st1 : St C.bare (Mine.hd.K C.w.params) g1 S := ⟨hg1 ▸ addL_sub, fun _ h => (nomatch h), fun _ h => (nomatch h), fun _ h => (nomatch h), fun _ h => (nomatch h), f'.st.gens, f'.st.kin.keeps up1, f'.st.top.keeps up1⟩
  have hnL : ∀ b ∈ clos.map (·.2), b ≠ env.locals := fun b hb => by
    obtain ⟨p, hp, rfl⟩ := List.mem_map.mp hb
    exact f'.apartL _ _ (hcl p hp)
  have hg1L : g1.get? env.locals = none := hg1 ▸ addL_none f'.own.2 fun q => hnL _ q rfl
  have hgb : Sub g1 (delL S.heap [env.locals]) := fun b o e => delL_ne (st1.sub b o e) fun q => by rw [List.mem_singleton.mp q, hg1L] at e; cases e
  obtain ⟨mL, ⟨oL, esL, epL, eL, hdL, rL⟩, hmL⟩ := f'.loc.ns
  have KB : Below A (delL S.heap [env.locals]) [env] S.heap := ⟨hA, fun b o e => delL_sub b o e, by rw [f.fn]; decide, ⟨_, _, hf, delL_in (List.mem_singleton.mpr rfl), eL, fun vs q => by rw [hdL] at q; cases q⟩, trivial⟩
  obtain ⟨pm, c0, ctv, hlo, hrec⟩ := hl
  refine sp_refused (C := C.bare) (g := g1) (base := delL S.heap [env.locals]) (fl := [env]) st1 rfl rfl KB hgb hR ⟨_, _, _, _, up1 _ _ hlo⟩ (fun A' fl' s' Q' E' st' KB' hR' hE => ?_) fun s' k1 k2 k3 k4 => h s' (f'.slots k1 k2 k3 k4)
  refine callLam (C := C.bare) (τ := σ) st' ⟨pm, c0, ctv, up1 _ _ hlo, hrec.keeps up1⟩ (fun x c e => ?_) hR'.depth hnl hcell (pw_clos (f.apart hfu) hin hnm hnd) (fun L c' s2 sub2 fe => ?_) hbind hco hgen hk
  · have hm := mem_of_lookup e
    obtain ⟨o, e1, hd⟩ := f'.loc.cell x c (hcl _ hm)
    exact ⟨o, by rw [← hg1, addL_in (List.mem_map.mpr ⟨_, hm, rfl⟩)]; exact e1, hd⟩
  · exact hb _ A' fl' g1 s' s2 L c' E' fe up1 KB' hR' hE _
theorem law_a {A : Around} {g : Heap} {s : Shared} {l : Addr} {vs : List Value} {ns : List Int} {R : Result → Shared → Prop} (hP : C.prog = PySem.Challenge.pw_bn0016_01) (hts : C.ts = ptabs) (hex : C.ex = []) (st : St C (Mine.hd.K C.w.params) g s) (hR : Room A 100) (hfr : A.frames = some [])
    (hl : g.IsList l vs.toArray) (hi : IntsAre vs ns) (hn : ns.length ≤ 63) (hT : s.heap.get? 986 = some (tabObj #[])) (hTg : g.get? 986 = none)
    (h : ∀ (t : Tok) g' s', Gr C g { s with heap := delL s.heap [986] } g' s' → (∃ ps, s'.heap.get? 986 = some (tabObj ps)) → R (.ok (.ret (.bool true))) s') : codeAny C.M A (.call (.ref 989) ⟨[.ref l], []⟩) R s := by
  (refine' callFn (C := C) (binds := [("script", .ref l)]) ?st ?ho ?hcd ?hroom ?hb ?hk ?hck ?_ ?h1 ?h2 ?h3)
  (case st => first | with_reducible assumption | exact (Fn.st (by with_reducible assumption)).at rfl); (case ho => k_is); (case hcd => k_is)
  (case hroom => exact Room.depth (by assumption)); (case hb => first | exact BindsTo.of_eq rfl | exact binds_K (St.kin' (by assumption)) rfl (by k_is) rfl rfl rfl)
  (case hk => exact rfl); (case hck => exact rfl); (case h1 => exact rfl); (case h2 => exact rfl); (case h3 => exact rfl)
  intro L1 s1 hk1 f
  have hR' := fun env => hR.deeper (n := 99) env
  have hvl : vs.length = ns.length := hi.length
  obtain ⟨g0, f0, hl0, hTab0⟩ : ∃ g0, Fn C (Mine.hd.K C.w.params) g { s with heap := delL s.heap [986] } _ g0 s1 _ ∧ g0.IsList l vs.toArray ∧ g0.get? 986 = some (tabObj #[]) := by
    have fr := f.rebase (P := 986) hTg (by rw [hts]; decide) (by rw [hex]; exact fun q => nomatch q)
    have hT1 := hk1 _ _ hT
    have hLn : L1 ≠ 986 := fun q => by
      have := f.own.1
      rw [show ((envX _ _ L1 _ _ _ : Env).locals) = L1 from rfl, q, hT] at this; cases this
    refine ⟨_, fr.add (wr := [986]) (fun b hb => delL_in hb) (fun b hb => by rw [List.mem_singleton.mp hb, hts]; decide) (fun b hb => by rw [hex]; exact fun q => nomatch q) (fun q => hLn (List.mem_singleton.mp q)) (fun b hb n q => ?_), IsList.up hl (addL_up f.st.sub), by rw [addL_in (by simp)]; exact hT1⟩
    obtain ⟨o, e, hd⟩ := f.loc.cell n b q
    rw [List.mem_singleton.mp hb, hT1] at e; cases e; cases hd
  clear f hl
  have hl := hl0
  clear hl0
  walk_at "mz"
  walk_at "mz"
  refine joinS (C := C) (K := (Mine.hd.K C.w.params)) (fun v _ => ∃ t, v = .int ((ns[0]?).getD 6) t) f0 (by exact rfl) (fun E' => ?_) fun v g1 s2 f1 sub1 hv => ?_
  · walk_at "mzr"
    refine truthyF f0 (by exact rfl) hl (by omega) ?_
    cases hve : vs.isEmpty with
    | true =>
      rw [if_neg (by simp)]
      walk_at "mzr"
      have hns : ns = [] := List.eq_nil_of_length_eq_zero (by rw [← hvl]; simpa using hve)
      exact ⟨g0, Gr.same_r (Gr.refl (Fn.st (Fn.at f0 (by exact rfl)))) (by exact rfl), _, by rw [hns]; rfl⟩
    | false =>
      rw [if_pos (by simp)]
      have hpos : 0 < ns.length := by
        rw [← hvl]
        cases vs with
        | nil => cases hve
        | cons a b => exact Nat.succ_pos _
      walk_at "mzr"
      refine itemI (k := 0) f0 (by exact rfl) hl hi hpos (by omega) (fun t => ⟨g0, Gr.same_r (Gr.refl (Fn.st (Fn.at f0 (by exact rfl)))) (by exact rfl), t, ?_⟩) (by with_unfolding_all rfl) (by intro _; with_unfolding_all rfl)
      rw [List.getD_eq_getElem?_getD, List.getElem?_eq_getElem hpos]; rfl
  obtain ⟨t1, rfl⟩ := hv
  have hl1 := IsList.up hl sub1
  generalize hfirst : (ns[0]?).getD 6 = first
  obtain ⟨kd, hkd, hkd8⟩ : ∃ kd : Nat, first.fmod 8 = (kd : Int) ∧ kd < 8 := by
    have h0 := Int.emod_nonneg first (show (8 : Int) ≠ 0 by decide)
    have h1 := Int.emod_lt_of_pos first (show (0 : Int) < 8 by decide)
    have e : first.fmod 8 = first % 8 := Int.fmod_eq_emod_of_nonneg _ (by decide)
    exact ⟨(first % 8).toNat, by rw [e]; omega, by omega⟩
  walk_at "mzr"
  rename_i s3 f3 s4 f4
  rw [hkd] at f4
  refine newTupleF f4 (by exact rfl) (by show 8 ≤ sizeLine; decide) fun T1 g5 s5 f5 gr5 up5 hT1 => ?_
  walk_at "mzr"
  refine itemTupI (ns := widths) f5 (by exact rfl) hT1 (.cons _ _ (.cons _ _ (.cons _ _ (.cons _ _ (.cons _ _ (.cons _ _ (.cons _ _ (.cons _ _ .nil)))))))) hkd8 (by decide) (fun tw => ?_) (by with_unfolding_all rfl)
  walk_at "mzr"
  rename_i s6 f6
  refine newTupleF f6 (by exact rfl) (by show 8 ≤ sizeLine; decide) fun T2 g7 s7 f7 gr7 up7 hT2 => ?_
  walk_at "mzr"
  refine itemTupI (ns := tops) f7 (by exact rfl) hT2 (.cons _ _ (.cons _ _ (.cons _ _ (.cons _ _ (.cons _ _ (.cons _ _ (.cons _ _ (.cons _ _ .nil)))))))) hkd8 (by decide) (fun tp => ?_) (by with_unfolding_all rfl)
  obtain ⟨wn, hwn, hw1, hw2⟩ : ∃ wn : Nat, widths.getD kd 0 = (wn : Int) ∧ 3 ≤ wn ∧ wn ≤ 20 := by
    have : ∀ kd : Fin 8, ∃ wn : Nat, widths.getD kd.val 0 = (wn : Int) ∧ 3 ≤ wn ∧ wn ≤ 20 := by
      intro kd
      refine ⟨(widths.getD kd.val 0).toNat, ?_⟩
      revert kd; decide
    exact this ⟨kd, hkd8⟩
  rw [hwn] at f7
  generalize hT0 : tops.getD kd 0 = top
  walk_at "mz"
  walk_at "mz"
  walk_at "mz"
  rename_i s8 f8
  refine joinS (C := C) (K := (Mine.hd.K C.w.params)) (fun v _ => ∃ t, v = .int (if top > 0 then -1 else 1) t) f8 (by exact rfl) (fun E' => ?_) fun v g9 s9 f9 sub9 hv => ?_
  · walk_at "mzr"
    by_cases htop : top > 0
    · rw [if_pos (by simpa using htop)]
      walk_at "mzr"
      exact ⟨g7, Gr.same_r (Gr.refl (Fn.st (Fn.at f8 (by exact rfl)))) (by exact rfl), _, by rw [if_pos htop]⟩
    · rw [if_neg (by simpa using htop)]
      walk_at "mzr"
      exact ⟨g7, Gr.same_r (Gr.refl (Fn.st (Fn.at f8 (by exact rfl)))) (by exact rfl), _, by rw [if_neg htop]⟩
  obtain ⟨t9, rfl⟩ := hv
  generalize hsg : (if top > 0 then (-1 : Int) else 1) = sign
  walk_at "mzr"
  (with_reducible refine' O.mul_ ?hmu ?_); (case hmu => exact mulOkL (by decide))
  walk_at "mzr"
  have hi2 : Builtin.Int.intBits 2 = 2 := by decide
  refine O.pow_ (by omega) (by rw [hi2]; omega) ?_
  rw [show ((8 : Int) * (wn : Int)).toNat = 8 * wn from by omega]
  generalize hWh : (2 : Int) ^ (8 * wn) = whole
  walk_at "mjr"
  have hW0 : (0 : Int) < whole := by rw [← hWh]; exact Int.pow_pos (by decide)
  have hWb : whole ≤ 2 ^ 160 := by
    rw [← hWh]
    have := Nat.pow_le_pow_right (show 2 > 0 by decide) (show 8 * wn ≤ 160 by omega)
    exact_mod_cast this
  refine comp1 (C := C) (Fn.view (Fn.at (by with_reducible assumption) (by exact rfl))) ?_
  rename_i s10 f10 s11 f11
  generalize hbase : (if 1 < ns.length then (ns.drop 1).take 40 else [first]) = base
  refine joinF (C := C) (g := g9) (P := fun v g' => ∃ D us, v = .ref D ∧ g'.IsList D us.toArray ∧ IntsAre us base) ?_ fun v g12 s12 gr12 hv => ?_
  · have hl9 := IsList.up (IsList.up (IsList.up hl1 up5) up7) sub9
    walk_at "mzr"
    refine lenF f11 (by exact rfl) hl9 (by omega) ?_
    walk_at "mzr"
    by_cases hlen : 1 < ns.length
    · rw [if_pos (by simp; omega)]
      walk_at "mzr"
      refine tailI (x := 1) (y := 41) f11 (by exact rfl) (by constructor) (by constructor) hl9 hi (by decide) (by rw [sizeLine_eq]; omega) (fun D g' s' us f' gr hD hus => ?_) (by with_unfolding_all rfl) (by intro _; with_unfolding_all rfl)
      exact ⟨g', Gr.same_l gr (by exact rfl), D, us, rfl, hD, by rw [← hbase, if_pos hlen]; exact hus⟩
    · rw [if_neg (by simp; omega)]
      walk_at "mzr"
      refine newListF f11 (by exact rfl) (by show 1 ≤ sizeLine; decide) fun D g' s' f' gr _ _ hpl => ?_
      exact ⟨g', Gr.same_l gr (by exact rfl), D, _, rfl, PlainList.toIs hpl, by rw [← hbase, if_neg hlen]; exact .cons _ _ .nil⟩
  obtain ⟨D, us, rfl, hD, hus⟩ := hv
  have hbl : 1 ≤ base.length ∧ base.length ≤ 40 := by
    rw [← hbase]
    split
    · rw [List.length_take, List.length_drop]; omega
    · exact ⟨Nat.le_refl _, by simp⟩
  have husl : us.length = base.length := hus.length
  have hWbits : Builtin.Int.intBits whole ≤ 161 := by
    refine intBits_le_iff.mpr ?_
    have h1 : ((whole.natAbs : Nat) : Int) = whole := Int.natAbs_of_nonneg (by omega)
    have h2 : ((whole.natAbs : Nat) : Int) < ((2 ^ 161 : Nat) : Int) := by
      rw [h1]
      refine Int.lt_of_le_of_lt hWb ?_
      decide
    exact_mod_cast h2
  have hW2 : (0 : Int) < whole ^ 2 := Int.pow_pos hW0
  refine list_itS (vs := us) (gr12.st f11.st) (hR' _).2.2 hD fun I g13 s13 it => ?_
  refine ⟨I, g13, us.length, _, fun i ys _ => IntsAre ys ((base.take i).map fun x => x.fmod (whole ^ 2)), rfl, ItOk.same_l (ItOk.trans f11.st gr12 it) (by exact rfl), by rw [sizeLine_eq]; omega, .nil, (fun i ys ga gb _ h => by dsimp only at h ⊢; exact h), ?_, ?_⟩
  · intro Cc i v gk sk se ys E' hi' hP fe sube hlen' hO
    obtain ⟨x, tx, rfl, hx⟩ := intsAre_at hus hP
    walk_at "mzr"
    refine O.pow_ (by decide) (by have : (Builtin.Int.intBits whole : Int) ≤ 161 := by exact_mod_cast hWbits
                                  omega) ?_
    walk_at "mzr"
    refine O.mod_ (Int.ne_of_gt hW2) ?_
    walk_at "mzr"
    refine ⟨gk, Gr.same_r (Gr.refl fe.st) (by exact rfl), ?_⟩
    show IntsAre _ ((base.take (i + 1)).map _)
    rw [take_snoc hx, List.map_append]
    exact intsAre_snoc hO
  intro Dn un g14 s14 gr14 hDn hlen14 hO14
  have f14 := (Fn.at f11 (by exact rfl)).gr gr14
  have hun : IntsAre un (base.map fun x => x.fmod (whole ^ 2)) := by
    have hO' : IntsAre un ((base.take us.length).map fun x => x.fmod (whole ^ 2)) := hO14
    rwa [husl, List.take_length] at hO'
  clear hO14 it
  generalize hN : (base.map fun x => x.fmod (whole ^ 2)) = N at hun
  have hNl : N.length = base.length := by rw [← hN]; simp
  walk_at "mjr"
  rename_i s15 f15
  refine lenF f15 (by exact rfl) (PlainList.toIs hDn) (by omega) ?_
  rw [show ((un.length : Nat) : Int) = (N.length : Nat) from by rw [hun.length]]
  walk_at "mjr"
  (with_reducible refine' O.fdiv_ ?hfa ?hfb ?_); (case hfa => decide); (case hfb => decide)
  obtain ⟨kk, hkk, hk12⟩ : ∃ kk : Nat, (2 : Int) - (first.fdiv 32).fmod 2 = (kk : Int) ∧ (kk = 1 ∨ kk = 2) := by
    have h0 := Int.emod_nonneg (first.fdiv 32) (show (2 : Int) ≠ 0 by decide)
    have h1 := Int.emod_lt_of_pos (first.fdiv 32) (show (0 : Int) < 2 by decide)
    have e : (first.fdiv 32).fmod 2 = (first.fdiv 32) % 2 := Int.fmod_eq_emod_of_nonneg _ (by decide)
    refine ⟨(2 - (first.fdiv 32) % 2).toNat, by rw [e]; omega, by omega⟩
  walk_at "mjr"
  rename_i s16 f16 s17 f17
  rw [hkk] at f17
  refine' comp1_name (C := C) ?fv ?_
  case fv => exact Fn.at f17 (by exact rfl)
  walk_at "mzr"
  (with_reducible refine' O.mul_ ?hmu ?_); (case hmu => exact mulOkL (by decide))
  walk_at "mzr"
  refine rangeGo1 (C := C) (k := 32 * kk) f17.st (by exact rfl) (hR' _).2.2 (by omega) (small_of (by omega) (by omega) (by omega)) fun I2 g18 s18 it2 => ?_
  refine ⟨I2, g18, 32 * kk, _, fun i ys _ => IntsAre ys ((List.range i).map (grp N whole)), rfl, it2.same_l (by exact rfl), by rw [sizeLine_eq]; omega, .nil, (fun i ys ga gb _ h => by dsimp only at h ⊢; exact h), ?_, ?_⟩
  · intro Cc i v gk sk se ys E' hi' hP fe sube hlen' hO
    obtain ⟨ti, rfl⟩ := hP
    have hDn2 := IsList.up (PlainList.toIs hDn) (fun b o e => sube b o (it2.gr.up b o e))
    have hnz : N.length ≠ 0 := by omega
    walk_at "mzr"
    rw [fmod_nat]
    walk_at "mzr"
    refine itemI (k := i % N.length) fe (by exact rfl) hDn2 hun (Nat.mod_lt _ (by omega)) (by omega) (fun tn => ?_) (by with_unfolding_all rfl) (by intro _; with_unfolding_all rfl)
    walk_at "mzr"
    refine O.fdiv_ (by omega) ?_ ?_
    · rw [Int.natAbs_natCast]
      by_cases h0 : N.length = 0
      · exact absurd h0 hnz
      · exact (Nat.log2_lt h0).mpr (Nat.lt_of_lt_of_le (show N.length < 2 ^ 6 by omega) (Nat.pow_le_pow_right (by decide) (by decide)))
    rw [fdiv_nat]
    walk_at "mzr"
    rw [show ((i / N.length : Nat) : Int).fmod 2 = ((i / N.length % 2 : Nat) : Int) from fmod_nat _ 2]
    have he : i / N.length % 2 ≤ 1 := by omega
    refine O.pow_ (by omega) (by have : (Builtin.Int.intBits whole : Int) ≤ 161 := by exact_mod_cast hWbits
                                 have h2 : (Builtin.Int.intBits whole : Int) * ((i / N.length % 2 : Nat) : Int) ≤ 161 * 1 := Int.mul_le_mul this (by omega) (by omega) (by omega)
                                 omega) ?_
    rw [Int.toNat_natCast]
    walk_at "mzr"
    have hpw : (0 : Int) < whole ^ (i / N.length % 2) := Int.pow_pos hW0
    have hpb : whole ^ (i / N.length % 2) < 2 ^ 8000 := by
      have : i / N.length % 2 = 0 ∨ i / N.length % 2 = 1 := by omega
      have h8 : (2 : Int) ^ 160 < 2 ^ 8000 := by exact_mod_cast Nat.pow_lt_pow_right (show 1 < 2 by decide) (show 160 < 8000 by decide)
      have h9 : (1 : Int) < 2 ^ 8000 := by exact_mod_cast Nat.one_lt_two_pow (show 8000 ≠ 0 by decide)
      rcases this with e | e
      · rw [e, Int.pow_zero]; exact h9
      · rw [e, Int.pow_one]; exact Int.lt_of_le_of_lt hWb h8
    refine O.fdiv_ (Int.ne_of_gt hpw) (log2_small hpw hpb) ?_
    walk_at "mzr"
    (with_reducible refine' O.mul_ ?hmu ?_); (case hmu => exact mulOkR (by omega))
    walk_at "mzr"
    refine ⟨gk, Gr.same_r (Gr.refl fe.st) (by exact rfl), ?_⟩
    show IntsAre _ ((List.range (i + 1)).map _)
    rw [← range_snoc]
    exact intsAre_snoc hO
  intro Dg ug g19 s19 f19 sub19 hDg hlen19 hug
  replace hug : IntsAre ug ((List.range (32 * kk)).map (grp N whole)) := hug
  have hgr : ∀ a, 0 ≤ grp N whole a ∧ grp N whole a < whole := fun a => by
    unfold grp
    rw [Int.fmod_eq_emod_of_nonneg _ (by omega)]
    exact ⟨Int.emod_nonneg _ (by omega), Int.emod_lt_of_pos _ hW0⟩
  have hsgb : sign.natAbs ≤ 1 := by rw [← hsg]; split <;> decide
  clear f0 f1 f3 f4 f5 f6 f7 f8 f9 f10 f11 f14 f15 f16 f17
  show wpAny _ _ _ _ _ _
  walk_at "mjr"
  refine comp2 (C := C) (hR' _).2.2 (Fn.view (Fn.at f19 (by exact rfl))) ?_
  walk_at "mzr"
  refine list_itS (vs := ug) f19.st (hR' _).2.2 (PlainList.toIs hDg) fun I3 g20 s20 it3 => ?_
  refine ⟨I3, g20, ug.length, _, 8, fun i j ys _ => IntsAre ys ((List.range i).flatMap (fun a => (List.range 8).map (rowEl top sign wn (grp N whole a))) ++ (List.range j).map (rowEl top sign wn (grp N whole i))), fun i j v => ∃ t, v = .int j t, rfl, it3.same_l (by exact rfl), by rw [sizeLine_eq]; omega, .nil, ?_, (fun i j ys ga gb _ h => by dsimp only at h ⊢; exact h), ?_, ?_, ?_⟩
  · intro i ys g h
    rw [List.range_succ (n := i), List.flatMap_append]
    simpa using h
  · intro Cc i v gk sk s1 τ E' hi' hP fe hx1 hσ sube
    walk_at "mzr"
    exact rangeGo1 (C := C) (k := 8) fe.st (by exact rfl) (hR' _).2.2 rfl (by decide) fun J g3 s3 itj => ⟨J, g3, rfl, itj.same_l (by exact rfl)⟩
  · intro Cc i j v u gk sk s1 ys E' hi' hj hP hP2 fe sube hlen' hO
    obtain ⟨tj, rfl⟩ := hP2
    obtain ⟨gv, tg, rfl, hgv⟩ := intsAre_at hug hP
    have hgv' : gv = grp N whole i := by
      rw [List.getElem?_map, List.getElem?_range (by omega)] at hgv
      exact (Option.some.inj hgv).symm
    subst hgv'
    have h2w : (2 : Int) ^ wn ≠ 0 := Int.ne_of_gt (Int.pow_pos (by decide))
    have hwj : wn * j ≤ 160 := Nat.le_trans (Nat.mul_le_mul hw2 (show j ≤ 8 by omega)) (by decide)
    have hwji : ((wn : Int) * (j : Int)) = ((wn * j : Nat) : Int) := by push_cast; rfl
    have h2b : (Builtin.Int.intBits 2 : Int) = 2 := by decide
    walk_at "mzr"
    (with_reducible refine' O.mul_ ?hmu ?_); (case hmu => exact mulOkL (by omega))
    walk_at "mzr"
    rw [hwji]
    refine O.pow_ (by omega) (by rw [h2b]; omega) ?_
    rw [Int.toNat_natCast]
    walk_at "mzr"
    have hp2 : (0 : Int) < 2 ^ (wn * j) := Int.pow_pos (by decide)
    refine O.fdiv_ (Int.ne_of_gt hp2) (log2_small hp2 (by exact_mod_cast Nat.pow_lt_pow_right (show 1 < 2 by decide) (show wn * j < 8000 by omega))) ?_
    walk_at "mzr"
    refine O.pow_ (by omega) (by rw [h2b]; omega) ?_
    rw [Int.toNat_natCast]
    walk_at "mzr"
    (with_reducible refine' O.mul_ ?hmu ?_); (case hmu => exact mulOkL (by omega))
    walk_at "mzr"
    refine ⟨gk, Gr.same_r (Gr.refl fe.st) (by exact rfl), ?_⟩
    show IntsAre _ (_ ++ (List.range (j + 1)).map _)
    rw [← range_snoc, ← List.append_assoc]
    exact intsAre_snoc hO
  intro Dr ur g21 s21 gr21 hDr hlen21 hur
  have hugl : ug.length = 32 * kk := by rw [hug.length]; simp
  replace hur : IntsAre ur ((List.range (32 * kk)).flatMap (fun a => (List.range 8).map (rowEl top sign wn (grp N whole a)))) := by
    have hO' : IntsAre ur ((List.range ug.length).flatMap (fun a => (List.range 8).map (rowEl top sign wn (grp N whole a))) ++ (List.range 0).map (rowEl top sign wn (grp N whole ug.length))) := hur
    rw [hugl] at hO'
    simpa using hO'
  have f21 := (Fn.at f19 (by exact rfl)).gr gr21
  clear it3
  have hDg21 := IsList.up (PlainList.toIs hDg) gr21.up
  walk_at "mjr"
  rename_i s22 f22
  refine comp2 (C := C) (hR' _).2.2 (Fn.view (Fn.at f22 (by exact rfl))) ?_
  walk_at "mzr"
  refine list_itS (vs := ug) f22.st (hR' _).2.2 hDg21 fun I4 g23 s23 it4 => ?_
  refine ⟨I4, g23, ug.length, _, wn, fun i j ys _ => IntsAre ys ((List.range i).flatMap (fun a => (List.range wn).map (octEl (grp N whole a))) ++ (List.range j).map (octEl (grp N whole i))), fun i j v => ∃ t, v = .int j t, rfl, it4.same_l (by exact rfl), ?_, .nil, ?_, (fun i j ys ga gb _ h => by dsimp only at h ⊢; exact h), ?_, ?_, ?_⟩
  · rw [sizeLine_eq, hugl]
    exact Nat.le_trans (Nat.mul_le_mul (show 32 * kk ≤ 64 by omega) hw2) (by decide)
  · intro i ys g h
    rw [List.range_succ (n := i), List.flatMap_append]
    simpa using h
  · intro Cc i v gk sk s1 τ E' hi' hP fe hx1 hσ sube
    have hwd : τ "width" = some (.int wn tw) := (hσ _ (by decide)).trans rfl
    walk_at "mzr"
    exact rangeGo1 (C := C) (k := wn) fe.st (by exact rfl) (hR' _).2.2 rfl (small_of (by omega) (by omega) (by omega)) fun J g3 s3 itj => ⟨J, g3, rfl, itj.same_l (by exact rfl)⟩
  · intro Cc i j v u gk sk s1 ys E' hi' hj hP hP2 fe sube hlen' hO
    obtain ⟨tj, rfl⟩ := hP2
    obtain ⟨gv, tg, rfl, hgv⟩ := intsAre_at hug hP
    have hgv' : gv = grp N whole i := by
      rw [List.getElem?_map, List.getElem?_range (by omega)] at hgv
      exact (Option.some.inj hgv).symm
    subst hgv'
    have h256 : (Builtin.Int.intBits 256 : Int) = 9 := by decide
    walk_at "mzr"
    refine O.pow_ (by omega) (by rw [h256]; omega) ?_
    rw [Int.toNat_natCast]
    walk_at "mzr"
    have hp2 : (0 : Int) < 256 ^ j := Int.pow_pos (by decide)
    refine O.fdiv_ (Int.ne_of_gt hp2) (log2_small hp2 ?_) ?_
    · rw [show (256 : Int) = 2 ^ 8 from by decide, ← Int.pow_mul]
      exact_mod_cast Nat.pow_lt_pow_right (show 1 < 2 by decide) (show 8 * j < 8000 by omega)
    walk_at "mzr"
    refine ⟨gk, Gr.same_r (Gr.refl fe.st) (by exact rfl), ?_⟩
    show IntsAre _ (_ ++ (List.range (j + 1)).map _)
    rw [← range_snoc, ← List.append_assoc]
    exact intsAre_snoc hO
  intro Do uo g24 s24 gr24 hDo hlen24 huo
  replace huo : IntsAre uo ((List.range (32 * kk)).flatMap (fun a => (List.range wn).map (octEl (grp N whole a)))) := by
    have hO' : IntsAre uo ((List.range ug.length).flatMap (fun a => (List.range wn).map (octEl (grp N whole a))) ++ (List.range 0).map (octEl (grp N whole ug.length))) := huo
    rw [hugl] at hO'
    simpa using hO'
  have f24 := (Fn.at f22 (by exact rfl)).gr gr24
  clear it4
  generalize hOs : ((List.range (32 * kk)).flatMap (fun a => (List.range wn).map (octEl (grp N whole a)))) = Os at huo
  have hOr : ∀ n ∈ Os, 0 ≤ n ∧ n < 256 := by
    rw [← hOs]
    intro n hn
    obtain ⟨a, _, hn⟩ := List.mem_flatMap.mp hn
    obtain ⟨o, _, rfl⟩ := List.mem_map.mp hn
    unfold octEl
    rw [Int.fmod_eq_emod_of_nonneg _ (by decide)]
    exact ⟨Int.emod_nonneg _ (by decide), Int.emod_lt_of_pos _ (by decide)⟩
  walk_at "mjr"
  refine bytesF f24 (by exact rfl) (hR' _).2.2 (PlainList.toIs hDo) huo hOr (by rw [sizeLine_eq, hlen24, hugl]; exact Nat.le_trans (Nat.mul_le_mul (show 32 * kk ≤ 64 by omega) hw2) (by decide)) fun toc s25 f25 gr25 => ?_
  walk_at "mjr"
  rename_i s26 f26
  have hT26 : g24.get? 986 = some (tabObj #[]) := gr24.up _ _ (gr21.up _ _ (sub19 _ _ (gr14.up _ _ (sub9 _ _ (up7 _ _ (up5 _ _ (sub1 _ _ hTab0)))))))
  have hDr26 := IsList.up (PlainList.toIs hDr) gr24.up
  have noP : ∀ {g' : Heap} {D : Addr} {us : List Value} {ps : Array Value}, g'.get? 986 = some (tabObj ps) → g'.IsList D us.toArray → (delL g' [986]).IsList D us.toArray := by
    rintro g' D us ps hp ⟨o, ho, hc, r⟩
    refine ⟨o, delL_ne ho fun q => ?_, hc, r⟩
    rw [List.mem_singleton.mp q, hp] at ho; cases ho; cases hc
  have upP : ∀ {ga gb : Heap}, (∀ b o, b ≠ 986 → ga.get? b = some o → gb.get? b = some o) → Sub (delL ga [986]) gb := fun k b o e => by
    rw [delL_get] at e
    split at e
    · rename_i h9; exact k b o (by simpa using h9) e
    · cases e
  refine' kla_eval ?d0 ?_
  case d0 => exact rfl
  refine lamMake (c := 988) (P := 986) (ps := #[]) (Fn.at f26 (by exact rfl)) rfl (by kernel_rfl) (by rw [hts]; decide) (by rw [hex]; exact fun q => nomatch q) (delL_in (by simp)) hT26 (by kernel_rfl) trivial rfl (closureFor_eq rfl) (fun b o e q => by rw [q, hTg] at e; cases e) fun la c1 g27 s27 f27 k27 hla hT27 _ => ?_
  have hDr27 := IsList.up (noP hT26 hDr26) (upP k27)
  walk_at "mjr"
  refine' kla_eval ?d0 ?_
  case d0 => exact rfl
  refine lamMake (c := 988) (P := 986) (Fn.at f27 (by exact rfl)) rfl (by kernel_rfl) (by rw [hts]; decide) (by rw [hex]; exact fun q => nomatch q) (delL_in (by simp)) hT27 (by kernel_rfl) (by simp [TriplesOk, rawInt]) (by simp [codeAmong, rawInt]) (closureFor_eq rfl) (fun b o e q => by rw [q, hTg] at e; cases e) fun lb c2 g28 s28 f28 k28 hlb hT28 _ => ?_
  have hDr28 := IsList.up (noP hT27 hDr27) (upP k28)
  walk_at "mjr"
  refine sp_module (Fn.st (Fn.at f28 (by exact rfl))) ((hR' _).less (by decide)) fun md rg g29 s29 gr29 hmd => ?_
  have f29 := (Fn.at f28 (by exact rfl)).gr gr29
  have hDr29 := IsList.up hDr28 gr29.up
  have hT29 := gr29.up _ _ hT28
  have hOl : Os.length = 32 * kk * wn := by rw [← huo.length, hlen24, hugl]
  generalize hRow : ((List.range (32 * kk)).flatMap (fun a => (List.range 8).map (rowEl top sign wn (grp N whole a)))) = row at hur
  have hrl : row.length = 256 * kk := by
    rw [← hRow, len_flat (m := 8) _ (fun a => by simp)]
    omega
  clear f19 f21 f22 f24 f25 f26 f27 f28
  have hwdN : wn = wdN kd := by
    have : ∀ kd : Fin 8, widths.getD kd.val 0 = (wdN kd.val : Int) := by decide
    have h1 := this ⟨kd, hkd8⟩
    rw [hwn] at h1
    exact_mod_cast h1
  walk_at "mjr"
  rename_i s30 f30
  (with_reducible refine' O.fdiv_ ?hfa ?hfb ?_); (case hfa => decide); (case hfb => decide)
  walk_at "mjr"
  by_cases hodd : (first.fdiv 8).fmod 2 = 1
  · rw [if_pos (by simpa using hodd)]
    walk_at "mjr"
    refine joinS (C := C) (K := (Mine.hd.K C.w.params)) (fun v g' => ∃ D us, v = .ref D ∧ g'.IsList D us.toArray ∧ IntsAre us (shownOf first kd row)) f30 (by exact rfl) (fun E' => ?_) fun v g31 s31 f31 sub31 hv => ?_
    · walk_at "mzr"
      refine newTupleF f30 (by exact rfl) (by show 4 ≤ sizeLine; decide) fun T3 g32 s32 f32 gr32 up32 hT3 => ?_
      have hDr32 := IsList.up hDr29 up32
      have gr32' := Gr.same_l gr32 (by exact rfl : Same _ s30)
      walk_at "mzr"
      refine inTupF (ns := [2, 3, 6, 7]) f32 (by exact rfl) hT3 (.cons _ _ (.cons _ _ (.cons _ _ (.cons _ _ .nil)))) ?_
      walk_at "mzr"
      by_cases hin : kd = 2 ∨ kd = 3 ∨ kd = 6 ∨ kd = 7
      · rw [if_pos (by rcases hin with rfl | rfl | rfl | rfl <;> rfl)]
        walk_at "mzr"
        (with_reducible refine' O.fdiv_ ?hfa ?hfb ?_); (case hfa => decide); (case hfb => decide)
        walk_at "mzr"
        by_cases h16 : (first.fdiv 16).fmod 2 = 1
        · rw [if_pos (by simpa using h16)]
          walk_at "mzr"
          refine comp1 (C := C) (Fn.view (Fn.at f32 (by exact rfl))) ?_
          walk_at "mzr"
          refine list_itS (vs := ur) (Fn.st (Fn.at f32 (by exact rfl))) (hR' _).2.2 hDr32 fun I5 g33 s33 it5 => ?_
          refine ⟨I5, g33, ur.length, _, fun i ys _ => IntsAre ys ((row.take i).map fun x => x.fmod 8380417), rfl, it5.same_l (by exact rfl), by rw [sizeLine_eq, hur.length, hrl]; omega, .nil, (fun i ys ga gb _ h => by dsimp only at h ⊢; exact h), ?_, ?_⟩
          · intro Cc i v gk sk se ys E' hi' hP fe sube hlen' hO
            obtain ⟨x, tx, rfl, hx⟩ := intsAre_at hur hP
            walk_at "mzr"
            refine ⟨gk, Gr.same_r (Gr.refl fe.st) (by exact rfl), ?_⟩
            show IntsAre _ ((row.take (i + 1)).map _)
            rw [take_snoc hx, List.map_append]
            exact intsAre_snoc hO
          · intro D5 ys g' s' gr hpl hlen' hO
            have hO' : IntsAre ys ((row.take ur.length).map fun x => x.fmod 8380417) := hO
            rw [hur.length, List.take_length] at hO'
            exact ⟨g', Gr.at_l (gr32'.trans (Gr.same_l gr (by exact rfl))) (by exact rfl), D5, ys, rfl, PlainList.toIs hpl, by unfold shownOf; rw [if_pos ⟨hin, h16⟩]; exact hO'⟩
        · rw [if_neg (by simpa using h16)]
          walk_at "mzr"
          exact ⟨g32, Gr.same_r (Gr.at_l gr32' (by exact rfl)) (by exact rfl), Dr, ur, rfl, hDr32, by unfold shownOf; rw [if_neg (fun q => h16 q.2)]; exact hur⟩
      · rw [if_neg (by simp; omega)]
        walk_at "mzr"
        exact ⟨g32, Gr.same_r (Gr.at_l gr32' (by exact rfl)) (by exact rfl), Dr, ur, rfl, hDr32, by unfold shownOf; rw [if_neg (fun q => hin q.1)]; exact hur⟩
    obtain ⟨Dsh, ush, rfl, hDsh, hush⟩ := hv
    have hsl : (shownOf first kd row).length = 256 * kk := by unfold shownOf; split <;> simp [hrl]
    have hpack := law_pack hkd8 hwdN hT0 hsg hWh hgr hRow (rfl : shownOf first kd row = _) hOs
    generalize hShown : shownOf first kd row = shown at hush hsl hpack
    walk_at "mjr"
    rename_i s34 f34
    have hm31 := hmd.1.up sub31
    have hr31 := hmd.2.up sub31
    walk_at "mjr"
    refine comp1 (C := C) (Fn.view (Fn.at f34 (by exact rfl))) ?_
    walk_at "mzr"
    refine rangeGo1 (C := C) (k := kk) f34.st (by exact rfl) (hR' _).2.2 rfl (small_of (by omega) (by omega) (by omega)) fun I6 g35 s35 it6 => ?_
    refine ⟨I6, g35, kk, _, fun i ys g => PolysAre g rg (fun j => (shown.drop (256 * j)).take 256) i ys, rfl, it6.same_l (by exact rfl), by rw [sizeLine_eq]; omega, ⟨[], rfl, rfl, fun j e he => (by cases he)⟩, fun _ _ _ _ k h => h.up k, ?_, ?_⟩
    · intro Cc i v gk sk se ys E' hi' hP fe sube hlen' hO
      obtain ⟨ti, rfl⟩ := hP
      have subk : Sub g31 gk := fun b o e => sube b o (it6.gr.up b o e)
      have hm3 := hm31.up subk
      obtain ⟨t1', t2', v1', v2', v3', v4', hp3⟩ := hr31.up subk
      have hDsh3 := IsList.up hDsh subk
      walk_at "mzr"
      refine' fldMethT fe (by exact rfl) hm3 (by exact rfl) ?hg ?hh ?ha rfl ?_
      case hg => k_is
      case hh => k_is
      case ha => k_is
      walk_at "mzr"
      (with_reducible refine' O.mul_ ?hmu ?_); (case hmu => exact mulOkL (by decide))
      have ei : (256 : Int) * (i : Int) = ((256 * i : Nat) : Int) := by push_cast; rfl
      have ei2 : ((256 * i : Nat) : Int) + 256 = ((256 * i + 256 : Nat) : Int) := by push_cast; rfl
      rw [ei]
      walk_at "mzr"
      (with_reducible refine' O.mul_ ?hmu ?_); (case hmu => exact mulOkL (by decide))
      rw [ei]
      walk_at "mzr"
      rw [ei2]
      refine tailI (x := 256 * i) (y := 256 * i + 256) fe (by exact rfl) (by constructor) (by constructor) hDsh3 hush (by omega) (by rw [sizeLine_eq, hush.length, hsl]; omega) (fun D7 g7' s7' us7 f7' gr7' hD7 hus7 => ?_) (by with_unfolding_all rfl) (by intro _; with_unfolding_all rfl)
      rw [show 256 * i + 256 - 256 * i = 256 from by omega] at hus7
      walk_at "mzr"
      refine ⟨fun b o e => f7'.st.sub b o (gr7'.up b o e), ?_⟩
      refine sp_ringcall f7'.st ((hR' _).less (by decide)) ⟨t1', t2', v1', v2', v3', v4', hp3.up gr7'.up⟩ hD7 (by rw [hus7.length, List.length_take, List.length_drop, hsl]; have : i + 1 ≤ kk := hi'; have := Nat.mul_le_mul_left 256 this; omega) hus7 fun y8 g8 s8 gr8 hy8 => ?_
      dsimp only [VR]
      have gr78 := gr7'.trans gr8
      refine ⟨g8, Gr.same_l gr78 (by exact rfl), ?_⟩
      exact PolysAre.snoc (PolysAre.up gr78.up hO) hy8
    intro Dp yp g36 s36 gr36 hDp hlen36 hps
    have f36 := (Fn.at f34 (by exact rfl)).gr gr36
    have hm36 := hm31.up gr36.up
    have hr36 := hr31.up gr36.up
    obtain ⟨es, rfl, hel, hec⟩ := hps
    walk_at "mjr"
    refine sp_vector hP (m := md) (es := es) (fs := []) (Fn.st (by with_reducible assumption)) ((hR' _).less (by decide)) (PlainList.toIs hDp) (by omega) fun y g37 s37 gr37 hy => ?_
    have f37 := f36.gr gr37
    have hyv : VecOf g37 y md rg kk (fun j => (shown.drop (256 * j)).take 256) := ⟨es, hy, hel, fun j e he => (hec j e he).up gr37.up⟩
    have hr37 := hr36.up gr37.up
    walk_at "mjr"
    rename_i s37v f37v
    refine sp_packed hkd8 (fun P hP => by rw [hts]; exact hP) (Fn.st (Fn.at (by with_reducible assumption) (by exact rfl))) ((hR' _).less (by decide)) hyv hr37 hk12 (fun j hj => by rw [List.length_take, List.length_drop, hsl]; have : j + 1 ≤ kk := hj; have := Nat.mul_le_mul_left 256 this; omega) (fun j hj c hc => ?_) fun bb tb g38 s38 gr38 hbb => ?_
    · exact hpack.1 j hj c hc
    rw [hpack.2] at hbb
    have hbe : bb = byteArr Os := bInts_inj (by rw [hbb, bInts_byteArr hOr])
    subst hbe
    have f38 := (Fn.at f37v (by exact rfl)).gr gr38
    walk_at "mjr"
    refine eq_bytes ?_
    rw [beq_self_eq_true]
    walk_at "mjr"
    exact h 0 _ _ (Fn.done (Fn.at f38 (by exact rfl))) ⟨_, f38.st.sub _ _ (gr38.up _ _ (gr37.up _ _ (gr36.up _ _ (sub31 _ _ hT29))))⟩
  · rw [if_neg (by simpa using hodd)]
    have hbs : (byteArr Os).size = 32 * wdN kd * kk := by rw [← KBw.ints_length, bInts_byteArr hOr, hOl, ← hwdN, Nat.mul_right_comm]
    have hunp := law_unp hkd8 hwdN hT0 hsg hWh hgr hRow hOs
    have hm29 := hmd.1
    walk_at "mjr"
    refine joinS (C := C) (K := (Mine.hd.K C.w.params)) (fun v g' => ∃ y, v = .ref y ∧ VecOf g' y md rg kk (fun j => (row.drop (256 * j)).take 256)) f30 (by exact rfl) (fun E' => ?_) fun v g31 s31 f31 sub31 hv => ?_
    · walk_at "mzr"
      by_cases h5 : 5 < kd
      · rw [if_pos (by simp; omega)]
        walk_at "mzr"
        refine sp_readz hkd8 h5 hT0 hP (Fn.st (Fn.at f30 (by exact rfl))) ((hR' _).less (by decide)) hmd hk12 hbs fun y g32 s32 gr32 hy => ⟨g32, Gr.same_l gr32 (by exact rfl), y, rfl, VecOf.congr hy fun j hj => ?_⟩
        rw [bInts_byteArr hOr]
        exact hunp j hj
      · rw [if_neg (by simp; omega)]
        walk_at "mzr"
        refine sp_read hkd8 hP (Fn.st (Fn.at f30 (by exact rfl))) ((hR' _).less (by decide)) hmd hk12 hbs fun y g32 s32 gr32 hy => ⟨g32, Gr.same_l gr32 (by exact rfl), y, rfl, VecOf.congr hy fun j hj => ?_⟩
        rw [bInts_byteArr hOr]
        exact hunp j hj
    obtain ⟨y, rfl, es, hyv, hel, hec⟩ := hv
    obtain ⟨Dv, rowv, hfv, hDv, hrv⟩ := id hyv
    walk_at "mjr"
    rename_i s32 f32
    refine sp_dim (Fn.st (Fn.at f32 (by exact rfl))) ((hR' _).less (by decide)) hyv (by omega) fun T t1' t2' g33 s33 gr33 hT33 => ?_
    have f33 := (Fn.at f32 (by exact rfl)).gr gr33
    obtain ⟨σL, hσL, fL⟩ := Fn.named f33
    clear f32 f33 f31 f30
    obtain ⟨tK, hK⟩ : ∃ t, σL "k" = some (.int kk t) := ⟨_, by rw [hσL]; rfl⟩
    obtain ⟨tKi, hKi⟩ : ∃ t, σL "kind" = some (.int kd t) := ⟨_, by rw [hσL]; rfl⟩
    have hM : σL "module" = some (.ref md) := by rw [hσL]; rfl
    have hO : σL "octets" = some (.bytes (byteArr Os) toc) := by rw [hσL]; rfl
    have hRw : σL "row" = some (.ref Dr) := by rw [hσL]; rfl
    have hTo : σL "told" = some (.ref y) := by rw [hσL]; rfl
    walk_at "mjr"
    refine newTupleF fL (by exact rfl) (by show 2 ≤ sizeLine; decide) fun T4 g34 s34 f34 gr34 up34 hT34 => ?_
    walk_at "mjr"
    refine nePairF f34 (by exact rfl) (IsTup.up hT33 gr34.up) hT34 (Room.u64 (hR' _)) ?_
    rw [decide_eq_true (by rw [hel]; exact ⟨rfl, rfl⟩)]
    walk_at "mjr"
    have hyv34 := hyv.up (fun b o e => gr34.up b o (gr33.up b o e))
    have hfv34 := hfv.up (fun b o e => gr34.up b o (gr33.up b o e))
    have hT34t := gr34.up _ _ (gr33.up _ _ (sub31 _ _ hT29))
    have hDr34 := IsList.up hDr29 (fun b o e => gr34.up b o (gr33.up b o (sub31 b o e)))
    have hec34 : ∀ (j : Nat) (e : Addr), es[j]? = some e → PolyAt g34 e rg ((row.drop (256 * j)).take 256) := fun j e he => ((hec j e he).up gr33.up).up gr34.up
    have hmd34 : ModAt g34 md rg := ⟨hmd.1.up (fun b o e => gr34.up b o (gr33.up b o (sub31 b o e))), hmd.2.up (fun b o e => gr34.up b o (gr33.up b o (sub31 b o e)))⟩
    refine' forName (C := C) ?fv ?_
    case fv => exact (Fn.at f34 (by exact rfl))
    walk_at "mzr"
    refine rangeGo1 (C := C) (k := kk) f34.st (by exact rfl) (hR' _).2.2 rfl (small_of (by omega) (by omega) (by omega)) fun I8 g40 s40 it8 => ?_
    refine ⟨I8, g40, kk, _, fun i τ => ∀ x : Str, x ≠ "i" → τ x = σL x, rfl, it8.same_l (by exact rfl), fun x hx => rfl, ?_, ?_⟩
    · intro i v gk s1' σk E' hk' hlt hPv fe sube hI
      obtain ⟨ti, rfl⟩ := hPv
      have hK2 := (hI "k" (by decide)).trans hK
      have hRw2 := (hI "row" (by decide)).trans hRw
      have hTo2 := (hI "told" (by decide)).trans hTo
      have subk : Sub g34 gk := fun b o e => sube b o (it8.gr.up b o e)
      have hfvk := hfv34.up subk
      have hyvk := hyv34.up subk
      have hDrk := IsList.up hDr34 subk
      obtain ⟨ei, hei⟩ : ∃ e, es[i]? = some e := ⟨_, List.getElem?_eq_getElem (show i < es.length by omega)⟩
      have hpk := (hec34 i ei hei).up subk
      obtain ⟨li, vi, hfi, hli, hvi⟩ := hpk
      walk_at "mzr"
      refine newTupleF fe (by exact rfl) (by show 2 ≤ sizeLine; decide) fun T5 g41 s41 f41 gr41 up41 hT41 => ?_
      have hfv41 := hfvk.up gr41.up
      walk_at "mzr"
      refine subObjT f41 (by exact rfl) hfv41 (by k_is) (by k_is) (by k_is) ?_
      refine sp_getitem (Fn.st (Fn.at f41 (by exact rfl))) ((Room.in1 (hR' _)).less (by decide)) (hyvk.up gr41.up) (by omega) hT41 hei fun g42 s42 gr42 => ?_
      have f42 := (Fn.at f41 (by exact rfl)).gr gr42
      have sub42 : Sub gk g42 := fun b o e => gr42.up b o (gr41.up b o e)
      have hfi42 := hfi.up sub42
      have hfv42 := hfvk.up sub42
      walk_at "mzr"
      refine newTupleF f42 (by exact rfl) (by show 2 ≤ sizeLine; decide) fun T6 g43 s43 f43 gr43 up43 hT43 => ?_
      have hfv43 := hfv42.up gr43.up
      walk_at "mzr"
      refine subObjT f43 (by exact rfl) hfv43 (by k_is) (by k_is) (by k_is) ?_
      refine sp_getitem (Fn.st (Fn.at f43 (by exact rfl))) ((Room.in1 (hR' _)).less (by decide)) ((hyvk.up sub42).up gr43.up) (by omega) hT43 hei fun g44 s44 gr44 => ?_
      have f44 := (Fn.at f43 (by exact rfl)).gr gr44
      have sub44 : Sub gk g44 := fun b o e => gr44.up b o (gr43.up b o (sub42 b o e))
      have hfi44 := hfi.up sub44
      have hDr44 := IsList.up hDrk sub44
      walk_at "mzr"
      (with_reducible refine' O.mul_ ?hmu ?_); (case hmu => exact mulOkL (by decide))
      have eni : (256 : Int) * (i : Int) = ((256 * i : Nat) : Int) := by push_cast; rfl
      have eni2 : ((256 * i : Nat) : Int) + 256 = ((256 * i + 256 : Nat) : Int) := by push_cast; rfl
      rw [eni]
      walk_at "mzr"
      (with_reducible refine' O.mul_ ?hmu ?_); (case hmu => exact mulOkL (by decide))
      rw [eni]
      walk_at "mzr"
      rw [eni2]
      refine tailI (x := 256 * i) (y := 256 * i + 256) f44 (by exact rfl) (by constructor) (by constructor) hDr44 hur (by omega) (by rw [sizeLine_eq, hur.length, hrl]; omega) (fun D9 g45 s45 us9 f45 gr45 hD9 hus9 => ?_) (by with_unfolding_all rfl) (by intro _; with_unfolding_all rfl)
      rw [show 256 * i + 256 - 256 * i = 256 from by omega] at hus9
      walk_at "mzr"
      refine neIntsF f45 (by exact rfl) (IsList.up hli (fun b o e => gr45.up b o (sub44 b o e))) hvi hD9 hus9 (Room.u64 (hR' _)) ?_
      rw [decide_eq_true rfl]
      walk_at "mzr"
      exact ⟨_, _, Fn.at f45 (by exact rfl), fun b o e => gr45.up b o (sub44 b o e), fun x hx => (if_neg hx).trans (hI x hx)⟩
    intro ge se σe fe sube hI
    have hKe := (hI "k" (by decide)).trans hK
    have hKie := (hI "kind" (by decide)).trans hKi
    have hMe := (hI "module" (by decide)).trans hM
    have hOe := (hI "octets" (by decide)).trans hO
    have hRwe := (hI "row" (by decide)).trans hRw
    have sub34 : Sub g34 ge := fun b o e => sube b o (it8.gr.up b o e)
    have hmde : ModAt ge md rg := ⟨hmd34.1.up sub34, hmd34.2.up sub34⟩
    have hDre := IsList.up hDr34 sub34
    have hTe := sub34 _ _ hT34t
    walk_at "mjr"
    refine' kla_eval ?d0 ?_
    case d0 => exact rfl
    refine lamMake (c := 988) (P := 986) fe rfl (by kernel_rfl) (by rw [hts]; decide) (by rw [hex]; exact fun q => nomatch q) (delL_in (by simp)) hTe (by kernel_rfl) (by simp [TriplesOk, rawInt]) (by simp [codeAmong, rawInt]) (closureFor_eq rfl) (fun b o e q => by rw [q, hTg] at e; cases e) fun lc c3 g43 s43 f43 k43 hlc hT43 _ => ?_
    have hmd43 := (hmde.noP hTe).up (upP k43)
    have hDr43 := IsList.up (noP hTe hDre) (upP k43)
    walk_at "mjr"
    obtain ⟨Lb, hLb, hLb2⟩ : ∃ Lb, (byteArr Os).size = Lb + 1 ∧ Lb < 2000 := by
      have h1 : 1 ≤ wdN kd := by omega
      have h2 : wdN kd ≤ 20 := by omega
      rcases hk12 with rfl | rfl
      · exact ⟨32 * wdN kd - 1, by omega, by omega⟩
      · exact ⟨32 * wdN kd * 2 - 1, by omega, by omega⟩
    refine refusedF _ f43 (by exact rfl) (Around.frames_deeper hfr) rfl (by intro q; cases q) ((hR' _).less (by decide)) hlc (by intro p hp; simp only [List.mem_cons, List.not_mem_nil, or_false] at hp; rcases hp with rfl | rfl | rfl | rfl <;> rfl) rfl (of_decide_eq_true (by rfl)) (no_of (by decide)) (by decide) (fun base A' fl' g1 s50 s51 L c' E' fl up KB hR2 hE Q' => ?_) fun s44 f44 => ?_
    · have hR3 := fun env => hR2.deeper (n := 37) env
      have hmd5 := hmd43.up up
      have hm5 := hmd5.1
      walk_at "mzr"
      refine len_bytes (by omega) ?_
      walk_at "mzr"
      rw [hLb, show (((Lb + 1 : Nat) : Int) - 1) = (Lb : Int) from by omega]
      refine tailBytes (lo := none) (hi := some (Lb : Int)) fl (by exact rfl) .none (.int _ _) (by rw [sizeLine_eq]; omega) (fun b' s' t' hb' f' gr' => ?_) (by with_unfolding_all rfl) (by intro _; with_unfolding_all rfl)
      have hbz : b'.size = 32 * wdN kd * kk - 1 := by
        rw [← hbs, ← KBw.ints_length, hb', List.length_take, List.length_drop, KBw.ints_length, hLb]
        show min (clipAt (Lb + 1) (Lb : Int) - 0) (Lb + 1 - 0) = Lb + 1 - 1
        rw [clipAt_nat]; omega
      walk_at "mzr"
      refine sp_read_x (C := C.bare) hkd8 hP (Fn.st (Fn.at f' (by exact rfl))) rfl rfl (below_push (C := C.bare) KB (Fn.at f' (by exact rfl)) rfl (fun b hb => nomatch hb) rfl) ((hR3 _).less (by decide)) hmd5 hk12 hbz fun e s52 r => ?_
      exact exit_on (C := C.bare) KB (Fn.at f' (by exact rfl)) rfl rfl r.x (fun b hb => nomatch hb) fun s' r2 => hE e s' r2
    walk_at "mjr"
    refine' kla_eval ?d0 ?_
    case d0 => exact rfl
    refine lamMake (c := 988) (P := 986) f44 rfl (by kernel_rfl) (by rw [hts]; decide) (by rw [hex]; exact fun q => nomatch q) (delL_in (by simp)) hT43 (by kernel_rfl) (by simp [TriplesOk, rawInt]) (by simp [codeAmong, rawInt]) (closureFor_eq rfl) (fun b o e q => by rw [q, hTg] at e; cases e) fun ld c4 g45 s45 f45 k45 hld hT45 _ => ?_
    have hmd45 := (hmd43.noP hT43).up (upP k45)
    have hDr45 := IsList.up (noP hT43 hDr43) (upP k45)
    walk_at "mjr"
    refine refusedF _ f45 (by exact rfl) (Around.frames_deeper hfr) rfl (by intro q; cases q) ((hR' _).less (by decide)) hld (by intro p hp; simp only [List.mem_cons, List.not_mem_nil, or_false] at hp; rcases hp with rfl | rfl <;> rfl) rfl (of_decide_eq_true (by rfl)) (no_of (by decide)) (by decide) (fun base A' fl' g1 s50 s51 L c' E' fl up KB hR2 hE Q' => ?_) fun s46 f46 => ?_
    · have hR3 := fun env => hR2.deeper (n := 37) env
      have hm5 := (hmd45.up up).1
      have hr5 := (hmd45.up up).2
      have hDr5 := IsList.up hDr45 up
      walk_at "mzr"
      refine' fldMethT fl (by exact rfl) hm5 (by exact rfl) ?hg ?hh ?ha rfl ?_
      case hg => k_is
      case hh => k_is
      case ha => k_is
      have hr5' := hr5
      obtain ⟨t1', t2', v1', v2', v3', v4', hp5⟩ := hr5
      walk_at "mzr"
      refine tailIU (y := 256) fl (by exact rfl) (by constructor) hDr5 hur (by rw [sizeLine_eq, hur.length, hrl]; omega) (fun D6 g6 s6 us6 f6 gr6 hD6 hus6 => ?_) (by with_unfolding_all rfl) (by intro _; with_unfolding_all rfl)
      have hul6 : us6.length = 256 := by rw [hus6.length, List.length_take, hrl]; omega
      walk_at "mzr"
      refine newListF f6 (by exact rfl) (by show 1 ≤ sizeLine; decide) fun D7 g7 s7 f7 gr7 _ _ hpl7 => ?_
      walk_at "mzr"
      refine addListsF f7 (by exact rfl) (IsList.up hD6 gr7.up) (PlainList.toIs hpl7) (by rw [sizeLine_eq, hul6]; show 256 + 1 ≤ 16777216; decide) fun D8 g8 s8 f8 gr8 hpl8 => ?_
      have hp8 := ((hp5.up gr6.up).up gr7.up).up gr8.up
      have sub8 : Sub g1 g8 := fun b o e => gr8.up b o (gr7.up b o (gr6.up b o e))
      walk_at "mzr"
      refine ⟨fun b o e => f8.st.sub b o (sub8 b o e), ?_⟩
      refine sp_ringcall_x (C := C.bare) f8.st rfl rfl (below_push (C := C.bare) KB f8 rfl (fun b hb => nomatch hb) rfl) ((hR3 _).less (by decide)) (hr5'.up sub8) (PlainList.toIs hpl8) (by rw [List.length_append, hul6]; rfl) fun e s52 r => ?_
      dsimp only [VR]
      exact exit_on (C := C.bare) KB f8 rfl rfl r.x (fun b hb => nomatch hb) fun s' r2 => hE e s' r2
    walk_at "mjr"
    with_reducible refine BoolOp_or ?_
    walk_at "mjr"
    by_cases hk2 : kd < 2
    · rw [show decide ((kd : Int) < 2) = true from decide_eq_true (by omega)]
      walk_at "mjr"
      exact h 0 _ _ (Fn.done (Fn.at f46 (by exact rfl))) ⟨_, f46.st.sub _ _ hT45⟩
    · rw [show decide ((kd : Int) < 2) = false from decide_eq_false (by omega)]
      walk_at "mjr"
      with_reducible refine BoolOp_one ?_
      walk_at "mjr"
      refine' kla_eval ?d0 ?_
      case d0 => exact rfl
      refine lamMake (c := 988) (P := 986) (Fn.at f46 (by exact rfl)) rfl (by kernel_rfl) (by rw [hts]; decide) (by rw [hex]; exact fun q => nomatch q) (delL_in (by simp)) hT45 (by kernel_rfl) (by simp [TriplesOk, rawInt]) (by simp [codeAmong, rawInt]) (closureFor_eq rfl) (fun b o e q => by rw [q, hTg] at e; cases e) fun le c5 g47 s47 f47 k47 hle hT47 _ => ?_
      have hmd47 := (hmd45.noP hT45).up (upP k47)
      walk_at "mjr"
      refine refusedF _ f47 (by exact rfl) (Around.frames_deeper hfr) rfl (by intro q; cases q) ((hR' _).less (by decide)) hle (by intro p hp; simp only [List.mem_cons, List.not_mem_nil, or_false] at hp; rcases hp with rfl | rfl | rfl | rfl <;> rfl) rfl (of_decide_eq_true (by rfl)) (no_of (by decide)) (by decide) (fun base A' fl' g1 s50 s51 L c' E' fl up KB hR2 hE Q' => ?_) fun s48 f48 => ?_
      · have hR3 := fun env => hR2.deeper (n := 37) env
        have hmd5 := hmd47.up up
        walk_at "mzr"
        refine sp_read_b (C := C.bare) hkd8 (by omega) (Fn.st (Fn.at fl (by exact rfl))) rfl rfl (below_push (C := C.bare) KB (Fn.at fl (by exact rfl)) rfl (fun b hb => nomatch hb) rfl) ((hR3 _).less (by decide)) hmd5 fun e s52 r => ?_
        exact exit_on (C := C.bare) KB (Fn.at fl (by exact rfl)) rfl rfl r.x (fun b hb => nomatch hb) fun s' r2 => hE e s' r2
      walk_at "mjr"
      exact h 0 _ _ (Fn.done (Fn.at f48 (by exact rfl))) ⟨_, f48.st.sub _ _ hT47⟩

def tabs6 : List (Addr × Addr) := [(988, 986), (786, 782), (793, 789), (800, 796), (807, 803), (814, 810)]
theorem law_join {w : World} {s₁ : Shared} {p : Program} {loose : List Str} {mean : ExcName → Option Value} {mg mb : Str → Option Value} {l : Addr} {vs : List Value} {ns : List Int} {R : Result → Shared → Prop}
    (KX : (hd.K w.params).In s₁.heap) (T : Top p loose mean mg mb s₁.heap) (hT8 : ∀ P ∈ tabs, s₁.heap.get? P = some (tabObj #[])) (hg : s₁.gens = #[]) (hl : s₁.heap.IsList l vs.toArray) (hi : IntsAre vs ns) (hn : ns.length ≤ 63)
    (h : ∀ s', OldK s₁.heap s'.heap → s'.os = s₁.os → AllBare s'.gens → R (.ok (.ret (.bool true))) s') :
    codeAny (model PySem.Challenge.pw_bn0016_01 w) callerA (.call (.ref 989) ⟨[.ref l], []⟩) R s₁ := by
  have hTT : TabsAt tabs6 s₁.heap := by
    refine List.forall_mem_cons.mpr ⟨⟨codeHd_of_K (c := 988) (P := 986) KX (by kernel_rfl), hT8 986 (by decide)⟩, ?_⟩
    refine List.forall_mem_cons.mpr ⟨⟨codeHd_of_K (c := 786) (P := 782) KX (by kernel_rfl), hT8 782 (by decide)⟩, ?_⟩
    refine List.forall_mem_cons.mpr ⟨⟨codeHd_of_K (c := 793) (P := 789) KX (by kernel_rfl), hT8 789 (by decide)⟩, ?_⟩
    refine List.forall_mem_cons.mpr ⟨⟨codeHd_of_K (c := 800) (P := 796) KX (by kernel_rfl), hT8 796 (by decide)⟩, ?_⟩
    refine List.forall_mem_cons.mpr ⟨⟨codeHd_of_K (c := 807) (P := 803) KX (by kernel_rfl), hT8 803 (by decide)⟩, ?_⟩
    exact List.forall_mem_cons.mpr ⟨⟨codeHd_of_K (c := 814) (P := 810) KX (by kernel_rfl), hT8 810 (by decide)⟩, fun _ h => nomatch h⟩
  have hall : ∀ P ∈ tabs, P ∈ tabs6.map (·.2) := by decide
  have hpt : ∀ P ∈ ptabs, P ∈ tabs := by decide
  have hin : ∀ P ∈ tabs, P ≠ 986 → P ∈ ptabs := by decide
  have X' := ghost_K hTT KX (by kernel_rfl)
  have T' := ghost_top hTT T
  have ct : ∀ q ∈ tabs6, isCodeTable s₁.heap q.2 := fun q hq => ((hTT q hq).1.tab (hTT q hq).2).isCodeTable
  have ct2 : ∀ P ∈ tabs, isCodeTable s₁.heap P := fun P hP => by
    obtain ⟨q, hq, rfl⟩ := List.mem_map.mp (hall P hP)
    exact ct q hq
  refine law_a (C := { prog := PySem.Challenge.pw_bn0016_01, w := w, ts := ptabs, ex := [], p := topProg, loose := _, mean := mean, mg := mg, mb := mb }) (g := ghostOf s₁.heap tabs6) rfl rfl rfl
    ⟨fun b o e => of_hideAll _ e, fun P hP => hideAll_none _ (hall P (hpt P hP)), fun _ h => (nomatch h), fun _ h => (nomatch h), fun P hP => ⟨#[], hT8 P (hpt P hP), trivial⟩, .of_eq hg, X', T'⟩
    ⟨by decide, by decide, rfl⟩ rfl (ghost_list hTT hl) hi hn (hT8 986 (by decide)) (hideAll_none _ (hall 986 (by decide))) fun t g' s' gr hps => h s' ⟨fun b o e => ?_, fun b o e => ?_⟩ gr.os.1 gr.gens
  · have grown : ∀ P ∈ tabs, ∃ ps, s'.heap.get? P = some (tabObj ps) := fun P hP => by
      by_cases h9 : P = 986
      · subst h9; exact hps
      · exact (gr.tab P (hin P hP h9)).elim fun ps k => ⟨ps, k.1⟩
    by_cases hb : b ∈ tabs
    · obtain ⟨ps, hP⟩ := grown b hb
      have e2 := hT8 b hb
      rw [e] at e2
      cases e2
      exact .inr (.inl ⟨ct2 b hb, rfl, #[], ps, rfl, by rw [Array.empty_append]; exact hP⟩)
    · exact .inl (gr.keep b o (fun q => hb (hpt b q)) (fun q => nomatch q) (delL_ne e fun q => hb (by rw [List.mem_singleton.mp q]; decide)))
  · by_cases hb : b ∈ tabs
    · by_cases h9 : b = 986
      · subst h9; exact hps.elim fun ps k => ⟨_, k⟩
      · exact (gr.tab b (hin b hb h9)).elim fun ps k => ⟨_, k.1⟩
    · exact ⟨o, gr.keep b o (fun q => hb (hpt b q)) (fun q => nomatch q) (delL_ne e fun q => hb (by rw [List.mem_singleton.mp q]; decide))⟩
theorem entry : PySem.Challenge.rw_bn0016_01.Holds := Mine.top (by
  k_fill
  intro w s₀ s₁ mg mb G Y fa o pm cd doc dV kV ho hd hcd hD hmg hg args vals as hpre hlay hrd hwl hlo
  have KX := km_in_of Y
  have hT8 := km_tabs_of Y
  have X := (Ground.X G).1
  have V := (Ground.X G).2
  refine Ground.open G ?_
  intro T B D TE TW
  try (refine guard_noD D (by decide +kernel) ?_; clear D)
  have hfa : fa = 989 := by
    have h9 := mg_of KX T.g (n := "law") (v := .ref 989) (by kernel_rfl)
    rw [_root_.Mine.hd.dkName] at hmg
    rw [hmg] at h9
    cases h9; rfl
  subst hfa
  clear hmg
  wrow_args hpre hlay hrd hwl hlo
  all_goals (
    first | refine callC_kw (enter_call ?_) | refine enter_call ?_
    w_top on)
  all_goals (
    refine law_join KX T hT8 hg (by assumption) (by assumption) (by omega) fun s' k1 k2 k3 => ?_
    refine ⟨.inl ⟨.bool true, .bool true, [], rfl, fun _ => rfl, .bool _, (by first | rfl | kernel_rfl), fun _ => ⟨List.nodup_nil, fun _ h => nomatch h⟩⟩, k1, k2, k3⟩))
end Mine
end
theorem PySem.Challenge.cw_bn0016_01_holds : PySem.Challenge.rw_bn0016_01.Holds :=
  Mine.entry
