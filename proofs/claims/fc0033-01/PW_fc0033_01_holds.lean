import PyProof.Rows.All
import Wide.All
import OpenK.AllK
import Wide.FinOn
import Lean
import PySem.Challenge.RW_fc0033_01
set_option Elab.async false
section
open PySem PySem.W PyProof.Rows
set_option Elab.async false
set_option maxRecDepth 100000
set_option maxHeartbeats 0
set_option linter.unusedVariables false
namespace Mine
abbrev pw : Program := PySem.Challenge.pw_fc0033_01
def nthS : List Stmt → Nat → Stmt
  | [], _ => .Pass default
  | s :: _, 0 => s
  | _ :: r, n + 1 => nthS r n
def cbody : Stmt → List Stmt
  | .ClassDef _ _ _ b _ _ _ _ _ _ _ => b
  | _ => []
def st (i : Nat) : Stmt := nthS PySem.Challenge.pw_fc0033_01.main.body i
def sm (i j : Nat) : Stmt := nthS (cbody (st i)) j
def fd (s : Stmt) (name qual : Str) (g : Nat) (dV kV doc pm : Value) (an : Option Nat) (code ct : Value) (bi : Nat) : FuncData := match s with
  | .FunctionDef _ a b _ _ _ sc _ _ _ => { name := name, qualname := qual, params := a, body := .stmts b, scope := sc, globals := g, closure := [], defaults := dV, kwdefaults := kV, doc := doc, pyModule := pm, annotations := an, code := code, closureTuple := ct, builtins := bi }
  | _ => default
def E (P : Params) (x : Str) (t : Nat) (v : Value) : DictEntry := ⟨PyData.keyHash P x, .str x t, v⟩
def upd : List Obj → Nat → Obj → List Obj
  | [], _, _ => []
  | _ :: r, 0, o => o :: r
  | x :: r, n + 1, o => x :: upd r n o
def app : List Obj → List Obj → List Obj
  | [], l => l
  | x :: r, l => x :: app r l
def evn : List Obj → List Obj
  | [] => []
  | [x] => [x]
  | x :: _ :: r => x :: evn r
def odn : List Obj → List Obj
  | [] => []
  | [_] => []
  | _ :: y :: r => y :: odn r
def mkT : Nat → List Obj → BT
  | 0, _ => .nil
  | _ + 1, [] => .nil
  | n + 1, x :: r => .node x (mkT n (evn r)) (mkT n (odn r))
def G0 (P : Params) : List Obj := [
  ⟨(.type "dict"), none, (.dict #[E P "__name__" 1 (.str "builtins" 160), E P "__doc__" 2 (.builtin "builtins.__doc__:str#opaque"), E P "__package__" 3 (.builtin "builtins.__package__:str#opaque"), E P "__loader__" 4 (.builtin "builtins.__loader__:shared#opaque"), E P "__spec__" 5 (.builtin "builtins.__spec__#opaque"), E P "__build_class__" 6 (.builtin "__build_class__"), E P "__import__" 7 (.builtin "__import__"), E P "abs" 8 (.builtin "abs"), E P "all" 9 (.builtin "all"), E P "any" 10 (.builtin "any"), E P "ascii" 11 (.builtin "ascii"), E P "bin" 12 (.builtin "bin"), E P "breakpoint" 13 (.builtin "breakpoint"), E P "callable" 14 (.builtin "callable"), E P "chr" 15 (.builtin "chr"), E P "compile" 16 (.builtin "compile"), E P "delattr" 17 (.builtin "delattr"), E P "dir" 18 (.builtin "dir"), E P "divmod" 19 (.builtin "divmod"), E P "eval" 20 (.builtin "eval"), E P "exec" 21 (.builtin "exec"), E P "format" 22 (.builtin "format"), E P "getattr" 23 (.builtin "getattr"), E P "globals" 24 (.builtin "globals"), E P "hasattr" 25 (.builtin "hasattr"), E P "hash" 26 (.builtin "hash"), E P "hex" 27 (.builtin "hex"), E P "id" 28 (.builtin "id"), E P "input" 29 (.builtin "input"), E P "isinstance" 30 (.builtin "isinstance"), E P "issubclass" 31 (.builtin "issubclass"), E P "iter" 32 (.builtin "iter"), E P "aiter" 33 (.builtin "aiter"), E P "len" 34 (.builtin "len"), E P "locals" 35 (.builtin "locals"), E P "max" 36 (.builtin "max"), E P "min" 37 (.builtin "min"), E P "next" 38 (.builtin "next"), E P "anext" 39 (.builtin "anext"), E P "oct" 40 (.builtin "oct"), E P "ord" 41 (.builtin "ord"), E P "pow" 42 (.builtin "pow"), E P "print" 43 (.builtin "print"), E P "repr" 44 (.builtin "repr"), E P "round" 45 (.builtin "round"), E P "setattr" 46 (.builtin "setattr"), E P "sorted" 47 (.builtin "sorted"), E P "sum" 48 (.builtin "sum"), E P "vars" 49 (.builtin "vars"), E P "None" 50 .none, E P "Ellipsis" 51 .ellipsis, E P "NotImplemented" 52 .notImplemented, E P "False" 53 (.bool false), E P "True" 54 (.bool true), E P "bool" 55 (.type "bool"), E P "memoryview" 56 (.type "memoryview"), E P "bytearray" 57 (.type "bytearray"), E P "bytes" 58 (.type "bytes"), E P "classmethod" 59 (.type "classmethod"), E P "complex" 60 (.type "complex"), E P "dict" 61 (.type "dict"), E P "enumerate" 62 (.type "enumerate"), E P "filter" 63 (.type "filter"), E P "float" 64 (.type "float"), E P "frozenset" 65 (.type "frozenset"), E P "property" 66 (.type "property"), E P "int" 67 (.type "int"), E P "list" 68 (.type "list"), E P "map" 69 (.type "map"), E P "object" 70 (.type "object"), E P "range" 71 (.type "range"), E P "reversed" 72 (.type "reversed"), E P "set" 73 (.type "set"), E P "slice" 74 (.type "slice"), E P "staticmethod" 75 (.type "staticmethod"), E P "str" 76 (.type "str"), E P "super" 77 (.type "super"), E P "tuple" 78 (.type "tuple"), E P "type" 79 (.type "type"), E P "zip" 80 (.type "zip"), E P "__debug__" 81 (.bool true), E P "BaseException" 82 (.type "BaseException"), E P "BaseExceptionGroup" 83 (.type "BaseExceptionGroup"), E P "Exception" 84 (.type "Exception"), E P "GeneratorExit" 85 (.type "GeneratorExit"), E P "KeyboardInterrupt" 86 (.type "KeyboardInterrupt"), E P "SystemExit" 87 (.type "SystemExit"), E P "ArithmeticError" 88 (.type "ArithmeticError"), E P "AssertionError" 89 (.type "AssertionError"), E P "AttributeError" 90 (.type "AttributeError"), E P "BufferError" 91 (.type "BufferError"), E P "EOFError" 92 (.type "EOFError"), E P "ImportError" 93 (.type "ImportError"), E P "LookupError" 94 (.type "LookupError"), E P "MemoryError" 95 (.type "MemoryError"), E P "NameError" 96 (.type "NameError"), E P "OSError" 97 (.type "OSError"), E P "ReferenceError" 98 (.type "ReferenceError"), E P "RuntimeError" 99 (.type "RuntimeError"), E P "StopAsyncIteration" 100 (.type "StopAsyncIteration"), E P "StopIteration" 101 (.type "StopIteration"), E P "SyntaxError" 102 (.type "SyntaxError"), E P "SystemError" 103 (.type "SystemError"), E P "TypeError" 104 (.type "TypeError"), E P "ValueError" 105 (.type "ValueError"), E P "Warning" 106 (.type "Warning"), E P "FloatingPointError" 107 (.type "FloatingPointError"), E P "OverflowError" 108 (.type "OverflowError"), E P "ZeroDivisionError" 109 (.type "ZeroDivisionError"), E P "BytesWarning" 110 (.type "BytesWarning"), E P "DeprecationWarning" 111 (.type "DeprecationWarning"), E P "EncodingWarning" 112 (.type "EncodingWarning"), E P "FutureWarning" 113 (.type "FutureWarning"), E P "ImportWarning" 114 (.type "ImportWarning"), E P "PendingDeprecationWarning" 115 (.type "PendingDeprecationWarning"), E P "ResourceWarning" 116 (.type "ResourceWarning"), E P "RuntimeWarning" 117 (.type "RuntimeWarning"), E P "SyntaxWarning" 118 (.type "SyntaxWarning"), E P "UnicodeWarning" 119 (.type "UnicodeWarning"), E P "UserWarning" 120 (.type "UserWarning"), E P "BlockingIOError" 121 (.type "BlockingIOError"), E P "ChildProcessError" 122 (.type "ChildProcessError"), E P "ConnectionError" 123 (.type "ConnectionError"), E P "FileExistsError" 124 (.type "FileExistsError"), E P "FileNotFoundError" 125 (.type "FileNotFoundError"), E P "InterruptedError" 126 (.type "InterruptedError"), E P "IsADirectoryError" 127 (.type "IsADirectoryError"), E P "NotADirectoryError" 128 (.type "NotADirectoryError"), E P "PermissionError" 129 (.type "PermissionError"), E P "ProcessLookupError" 130 (.type "ProcessLookupError"), E P "TimeoutError" 131 (.type "TimeoutError"), E P "IndentationError" 132 (.type "IndentationError"), E P "_IncompleteInputError" 133 (.type "_IncompleteInputError"), E P "IndexError" 134 (.type "IndexError"), E P "KeyError" 135 (.type "KeyError"), E P "ModuleNotFoundError" 136 (.type "ModuleNotFoundError"), E P "NotImplementedError" 137 (.type "NotImplementedError"), E P "PythonFinalizationError" 138 (.type "PythonFinalizationError"), E P "RecursionError" 139 (.type "RecursionError"), E P "UnboundLocalError" 140 (.type "UnboundLocalError"), E P "UnicodeError" 141 (.type "UnicodeError"), E P "BrokenPipeError" 142 (.type "BrokenPipeError"), E P "ConnectionAbortedError" 143 (.type "ConnectionAbortedError"), E P "ConnectionRefusedError" 144 (.type "ConnectionRefusedError"), E P "ConnectionResetError" 145 (.type "ConnectionResetError"), E P "TabError" 146 (.type "TabError"), E P "UnicodeDecodeError" 147 (.type "UnicodeDecodeError"), E P "UnicodeEncodeError" 148 (.type "UnicodeEncodeError"), E P "UnicodeTranslateError" 149 (.type "UnicodeTranslateError"), E P "ExceptionGroup" 150 (.type "ExceptionGroup"), E P "EnvironmentError" 151 (.type "OSError"), E P "IOError" 152 (.type "OSError"), E P "open" 153 (.builtin "open"), E P "quit" 154 (.builtin "builtins.quit#opaque"), E P "exit" 155 (.builtin "builtins.exit#opaque"), E P "copyright" 156 (.builtin "builtins.copyright#opaque"), E P "credits" 157 (.builtin "builtins.credits#opaque"), E P "license" 158 (.builtin "builtins.license#opaque"), E P "help" 159 (.builtin "builtins.help#opaque")] 159), #[]⟩,
  ⟨(.type "dict"), none, (.dict #[E P "builtins" 162 (.ref 4), E P "__main__" 163 (.ref 5), E P "_collections" 246 (.ref 13)] 3), #[]⟩,
  ⟨.none, none, (.dict #[E P "\x69mport.loaded._collections" 185 (.bool true), E P "class._frozen_importlib.BuiltinImporter" 187 (.ref 15), E P "watched.\x69mport" 208 (.ref 19), E P "class._frozen_importlib.ModuleSpec" 218 (.ref 23), E P "sys.modules.booked-epoch" 247 (.int 3 0), E P "sys.modules.landed._collections" 248 (.bool true), E P "\x69mport.later-laid._collections" 263 (.bool true), E P "watched.library" 265 (.ref 28), E P "watched.library-objects" 0 (.str (Str.mk #[13]) 0), E P "watched.library-deep._collections" 266 (.str (Str.mk #[4, 0, 0, 12, 4, 0, 0, 12, 4, 0, 0, 3, 4, 0, 0, 12, 8, 4, 100, 105, 99, 116, 2]) 0)] 10), #[]⟩,
  ⟨(.type "dict"), none, (.dict #[E P "__name__" 165 (.str "__main__" 164), E P "__doc__" 166 .none, E P "__package__" 167 .none, E P "__loader__" 168 (.builtin "__main__.__loader__#opaque"), E P "__spec__" 169 .none, E P "__annotations__" 170 (.ref 6), E P "__builtins__" 171 (.ref 4), E P "__file__" 173 (.str "/claim/cut.py" 172), E P "__cached__" 174 .none, E P "deque" 272 (.type "collections.deque")] 10), #[]⟩,
  ⟨(.type "module"), some 0, .plain, #[]⟩,
  ⟨(.type "module"), some 3, .plain, #[]⟩,
  ⟨(.type "dict"), none, (.dict #[] 0), #[]⟩,
  ⟨(.type "tuple"), none, (.seq #[] 0), #[]⟩,
  ⟨.none, none, (.fields #[]), #[]⟩,
  ⟨(.type "code"), none, (.fields #[(.str "<module>" 176), (.str "<module>" 177), (.str "/claim/cut.py" 178), (.int 1 0), (.int 0 0), (.int 0 0), (.int 0 0), (.int 0 0), (.ref 7), (.bool false), (.int 175 0), (.ref 8), .none, .none, .none, .none, (.int 179 0), (.int 1 0), (.str "/claim/cut.py" 180)]), #[]⟩,
  ⟨(.type "frame"), none, .plain, #[some (.ref 9), some (.ref 3), some (.ref 3), none, some (.str "__main__" 164), none, some (.ref 0)]⟩,
  ⟨(.type "tuple"), none, (.seq #[(.str "deque" 182)] 0), #[]⟩,
  ⟨(.type "dict"), none, (.dict #[E P "__name__" 250 (.str "_collections" 249), E P "__doc__" 251 (.builtin "off-the-table:_collections.__doc__:shared#opaque"), E P "__package__" 253 (.str "" 252), E P "__loader__" 254 (.builtin "off-the-table:_collections.__loader__:shared#opaque"), E P "__spec__" 255 (.builtin "off-the-table:_collections.__spec__:shared#opaque"), E P "_count_elements" 256 (.builtin "_collections._count_elements"), E P "deque" 257 (.type "collections.deque"), E P "defaultdict" 258 (.type "collections.defaultdict"), E P "_deque_iterator" 259 (.builtin "off-the-table:_collections._deque_iterator:shared#opaque"), E P "_deque_reverse_iterator" 260 (.builtin "off-the-table:_collections._deque_reverse_iterator:shared#opaque"), E P "_tuplegetter" 261 (.type "collections._tuplegetter"), E P "OrderedDict" 262 (.type "collections.OrderedDict")] 12), #[]⟩,
  ⟨(.type "module"), some 12, .plain, #[]⟩,
  ⟨(.type "dict"), none, (.dict #[E P "__module__" 191 (.str "_frozen_importlib" 188), E P "__firstlineno__" 192 (.int 971 189), E P "__doc__" 193 (.builtin "_frozen_importlib.BuiltinImporter.__doc__:str#opaque"), E P "_ORIGIN" 194 (.str "built-in" 190), E P "find_spec" 195 (.builtin "_frozen_importlib.BuiltinImporter.find_spec#opaque"), E P "create_module" 196 (.builtin "_frozen_importlib.BuiltinImporter.create_module#opaque"), E P "exec_module" 197 (.builtin "_frozen_importlib.BuiltinImporter.exec_module#opaque"), E P "get_code" 198 (.builtin "_frozen_importlib.BuiltinImporter.get_code#opaque"), E P "get_source" 199 (.builtin "_frozen_importlib.BuiltinImporter.get_source#opaque"), E P "is_package" 200 (.builtin "_frozen_importlib.BuiltinImporter.is_package#opaque"), E P "load_module" 201 (.builtin "_frozen_importlib.BuiltinImporter.load_module#opaque"), E P "__static_attributes__" 202 (.ref 16), E P "__dict__" 204 (.ref 17), E P "__weakref__" 206 (.ref 18)] 14), #[]⟩,
  ⟨(.type "type"), none, (.cls ⟨"BuiltinImporter", [(.type "object")], [(.ref 15), (.type "object")], 14, "BuiltinImporter", true, [], [], false, none, false⟩), #[]⟩,
  ⟨(.type "tuple"), none, (.seq #[] 0), #[]⟩,
  ⟨(.type "getset_descriptor"), none, (.fields #[(.str "__dict__" 203), (.ref 15), (.builtin "function.__dict__"), (.builtin "function.__dict__#set")]), #[]⟩,
  ⟨(.type "getset_descriptor"), none, (.fields #[(.str "__weakref__" 205), (.ref 15), (.builtin "ExceptionGroup.__weakref__"), .none]), #[]⟩,
  ⟨.none, none, (.seq #[(.int 14 0), (.str (Str.mk #[6, 191, 10, 95, 95, 109, 111, 100, 117, 108, 101, 95, 95, 6, 188, 17, 95, 102, 114, 111, 122, 101, 110, 95, 105, 109, 112, 111, 114, 116, 108, 105, 98, 6, 192, 15, 95, 95, 102, 105, 114, 115, 116, 108, 105, 110, 101, 110, 111, 95, 95, 4, 189, 0, 971, 6, 193, 7, 95, 95, 100, 111, 99, 95, 95, 9, 52, 95, 102, 114, 111, 122, 101, 110, 95, 105, 109, 112, 111, 114, 116, 108, 105, 98, 46, 66, 117, 105, 108, 116, 105, 110, 73, 109, 112, 111, 114, 116, 101, 114, 46, 95, 95, 100, 111, 99, 95, 95, 58, 115, 116, 114, 35, 111, 112, 97, 113, 117, 101, 6, 194, 7, 95, 79, 82, 73, 71, 73, 78, 6, 190, 8, 98, 117, 105, 108, 116, 45, 105, 110, 6, 195, 9, 102, 105, 110, 100, 95, 115, 112, 101, 99, 9, 50, 95, 102, 114, 111, 122, 101, 110, 95, 105, 109, 112, 111, 114, 116, 108, 105, 98, 46, 66, 117, 105, 108, 116, 105, 110, 73, 109, 112, 111, 114, 116, 101, 114, 46, 102, 105, 110, 100, 95, 115, 112, 101, 99, 35, 111, 112, 97, 113, 117, 101, 6, 196, 13, 99, 114, 101, 97, 116, 101, 95, 109, 111, 100, 117, 108, 101, 9, 54, 95, 102, 114, 111, 122, 101, 110, 95, 105, 109, 112, 111, 114, 116, 108, 105, 98, 46, 66, 117, 105, 108, 116, 105, 110, 73, 109, 112, 111, 114, 116, 101, 114, 46, 99, 114, 101, 97, 116, 101, 95, 109, 111, 100, 117, 108, 101, 35, 111, 112, 97, 113, 117, 101, 6, 197, 11, 101, 120, 101, 99, 95, 109, 111, 100, 117, 108, 101, 9, 52, 95, 102, 114, 111, 122, 101, 110, 95, 105, 109, 112, 111, 114, 116, 108, 105, 98, 46, 66, 117, 105, 108, 116, 105, 110, 73, 109, 112, 111, 114, 116, 101, 114, 46, 101, 120, 101, 99, 95, 109, 111, 100, 117, 108, 101, 35, 111, 112, 97, 113, 117, 101, 6, 198, 8, 103, 101, 116, 95, 99, 111, 100, 101, 9, 49, 95, 102, 114, 111, 122, 101, 110, 95, 105, 109, 112, 111, 114, 116, 108, 105, 98, 46, 66, 117, 105, 108, 116, 105, 110, 73, 109, 112, 111, 114, 116, 101, 114, 46, 103, 101, 116, 95, 99, 111, 100, 101, 35, 111, 112, 97, 113, 117, 101, 6, 199, 10, 103, 101, 116, 95, 115, 111, 117, 114, 99, 101, 9, 51, 95, 102, 114, 111, 122, 101, 110, 95, 105, 109, 112, 111, 114, 116, 108, 105, 98, 46, 66, 117, 105, 108, 116, 105, 110, 73, 109, 112, 111, 114, 116, 101, 114, 46, 103, 101, 116, 95, 115, 111, 117, 114, 99, 101, 35, 111, 112, 97, 113, 117, 101, 6, 200, 10, 105, 115, 95, 112, 97, 99, 107, 97, 103, 101, 9, 51, 95, 102, 114, 111, 122, 101, 110, 95, 105, 109, 112, 111, 114, 116, 108, 105, 98, 46, 66, 117, 105, 108, 116, 105, 110, 73, 109, 112, 111, 114, 116, 101, 114, 46, 105, 115, 95, 112, 97, 99, 107, 97, 103, 101, 35, 111, 112, 97, 113, 117, 101, 6, 201, 11, 108, 111, 97, 100, 95, 109, 111, 100, 117, 108, 101, 9, 52, 95, 102, 114, 111, 122, 101, 110, 95, 105, 109, 112, 111, 114, 116, 108, 105, 98, 46, 66, 117, 105, 108, 116, 105, 110, 73, 109, 112, 111, 114, 116, 101, 114, 46, 108, 111, 97, 100, 95, 109, 111, 100, 117, 108, 101, 35, 111, 112, 97, 113, 117, 101, 6, 202, 21, 95, 95, 115, 116, 97, 116, 105, 99, 95, 97, 116, 116, 114, 105, 98, 117, 116, 101, 115, 95, 95, 4, 0, 0, 16, 6, 204, 8, 95, 95, 100, 105, 99, 116, 95, 95, 4, 0, 0, 17, 6, 206, 11, 95, 95, 119, 101, 97, 107, 114, 101, 102, 95, 95, 4, 0, 0, 18]) 0), (.bool true), (.bool true), (.str "" 207), (.int 22 0), (.str (Str.mk #[6, 229, 10, 95, 95, 109, 111, 100, 117, 108, 101, 95, 95, 6, 219, 17, 95, 102, 114, 111, 122, 101, 110, 95, 105, 109, 112, 111, 114, 116, 108, 105, 98, 6, 230, 15, 95, 95, 102, 105, 114, 115, 116, 108, 105, 110, 101, 110, 111, 95, 95, 4, 220, 0, 562, 6, 231, 7, 95, 95, 100, 111, 99, 95, 95, 9, 47, 95, 102, 114, 111, 122, 101, 110, 95, 105, 109, 112, 111, 114, 116, 108, 105, 98, 46, 77, 111, 100, 117, 108, 101, 83, 112, 101, 99, 46, 95, 95, 100, 111, 99, 95, 95, 58, 115, 116, 114, 35, 111, 112, 97, 113, 117, 101, 6, 232, 8, 95, 95, 105, 110, 105, 116, 95, 95, 9, 44, 95, 102, 114, 111, 122, 101, 110, 95, 105, 109, 112, 111, 114, 116, 108, 105, 98, 46, 77, 111, 100, 117, 108, 101, 83, 112, 101, 99, 46, 95, 95, 105, 110, 105, 116, 95, 95, 35, 111, 112, 97, 113, 117, 101, 6, 233, 8, 95, 95, 114, 101, 112, 114, 95, 95, 9, 44, 95, 102, 114, 111, 122, 101, 110, 95, 105, 109, 112, 111, 114, 116, 108, 105, 98, 46, 77, 111, 100, 117, 108, 101, 83, 112, 101, 99, 46, 95, 95, 114, 101, 112, 114, 95, 95, 35, 111, 112, 97, 113, 117, 101, 6, 234, 6, 95, 95, 101, 113, 95, 95, 9, 42, 95, 102, 114, 111, 122, 101, 110, 95, 105, 109, 112, 111, 114, 116, 108, 105, 98, 46, 77, 111, 100, 117, 108, 101, 83, 112, 101, 99, 46, 95, 95, 101, 113, 95, 95, 35, 111, 112, 97, 113, 117, 101, 6, 235, 6, 99, 97, 99, 104, 101, 100, 9, 42, 95, 102, 114, 111, 122, 101, 110, 95, 105, 109, 112, 111, 114, 116, 108, 105, 98, 46, 77, 111, 100, 117, 108, 101, 83, 112, 101, 99, 46, 99, 97, 99, 104, 101, 100, 35, 111, 112, 97, 113, 117, 101, 6, 236, 6, 112, 97, 114, 101, 110, 116, 9, 42, 95, 102, 114, 111, 122, 101, 110, 95, 105, 109, 112, 111, 114, 116, 108, 105, 98, 46, 77, 111, 100, 117, 108, 101, 83, 112, 101, 99, 46, 112, 97, 114, 101, 110, 116, 35, 111, 112, 97, 113, 117, 101, 6, 237, 12, 104, 97, 115, 95, 108, 111, 99, 97, 116, 105, 111, 110, 9, 48, 95, 102, 114, 111, 122, 101, 110, 95, 105, 109, 112, 111, 114, 116, 108, 105, 98, 46, 77, 111, 100, 117, 108, 101, 83, 112, 101, 99, 46, 104, 97, 115, 95, 108, 111, 99, 97, 116, 105, 111, 110, 35, 111, 112, 97, 113, 117, 101, 6, 238, 21, 95, 95, 115, 116, 97, 116, 105, 99, 95, 97, 116, 116, 114, 105, 98, 117, 116, 101, 115, 95, 95, 4, 0, 0, 24, 6, 240, 8, 95, 95, 100, 105, 99, 116, 95, 95, 4, 0, 0, 25, 6, 242, 11, 95, 95, 119, 101, 97, 107, 114, 101, 102, 95, 95, 4, 0, 0, 26, 6, 243, 8, 95, 95, 104, 97, 115, 104, 95, 95, 0]) 0), (.bool true), (.bool true), (.str "" 244)] 1), #[]⟩,
  ⟨(.type "list"), none, (.seq #[] 0), #[]⟩,
  ⟨(.type "dict"), none, (.dict #[E P "name" 210 (.str "_collections" 209), E P "loader" 211 (.ref 15), E P "origin" 212 (.str "built-in" 186), E P "loader_state" 213 .none, E P "submodule_search_locations" 214 .none, E P "_uninitialized_submodules" 215 (.ref 20), E P "_set_fileattr" 216 (.bool false), E P "_cached" 217 .none, E P "_initializing" 245 (.bool false)] 9), #[]⟩,
  ⟨(.type "dict"), none, (.dict #[E P "__module__" 229 (.str "_frozen_importlib" 219), E P "__firstlineno__" 230 (.int 562 220), E P "__doc__" 231 (.builtin "_frozen_importlib.ModuleSpec.__doc__:str#opaque"), E P "__init__" 232 (.builtin "_frozen_importlib.ModuleSpec.__init__#opaque"), E P "__repr__" 233 (.builtin "_frozen_importlib.ModuleSpec.__repr__#opaque"), E P "__eq__" 234 (.builtin "_frozen_importlib.ModuleSpec.__eq__#opaque"), E P "cached" 235 (.builtin "_frozen_importlib.ModuleSpec.cached#opaque"), E P "parent" 236 (.builtin "_frozen_importlib.ModuleSpec.parent#opaque"), E P "has_location" 237 (.builtin "_frozen_importlib.ModuleSpec.has_location#opaque"), E P "__static_attributes__" 238 (.ref 24), E P "__dict__" 240 (.ref 25), E P "__weakref__" 242 (.ref 26), E P "__hash__" 243 .none] 13), #[]⟩,
  ⟨(.type "type"), none, (.cls ⟨"ModuleSpec", [(.type "object")], [(.ref 23), (.type "object")], 22, "ModuleSpec", true, [], [], false, none, false⟩), #[]⟩,
  ⟨(.type "tuple"), none, (.seq #[(.str "_cached" 221), (.str "_set_fileattr" 222), (.str "_uninitialized_submodules" 223), (.str "loader" 224), (.str "loader_state" 225), (.str "name" 226), (.str "origin" 227), (.str "submodule_search_locations" 228)] 0), #[]⟩,
  ⟨(.type "getset_descriptor"), none, (.fields #[(.str "__dict__" 239), (.ref 23), (.builtin "function.__dict__"), (.builtin "function.__dict__#set")]), #[]⟩,
  ⟨(.type "getset_descriptor"), none, (.fields #[(.str "__weakref__" 241), (.ref 23), (.builtin "ExceptionGroup.__weakref__"), .none]), #[]⟩,
  ⟨(.ref 23), some 21, .plain, #[]⟩,
  ⟨.none, none, (.seq #[(.int 12 0), (.str (Str.mk #[6, 250, 8, 95, 95, 110, 97, 109, 101, 95, 95, 6, 249, 12, 95, 99, 111, 108, 108, 101, 99, 116, 105, 111, 110, 115, 6, 251, 7, 95, 95, 100, 111, 99, 95, 95, 9, 31, 95, 99, 111, 108, 108, 101, 99, 116, 105, 111, 110, 115, 46, 95, 95, 100, 111, 99, 95, 95, 58, 115, 116, 114, 35, 111, 112, 97, 113, 117, 101, 6, 253, 11, 95, 95, 112, 97, 99, 107, 97, 103, 101, 95, 95, 6, 252, 0, 6, 254, 10, 95, 95, 108, 111, 97, 100, 101, 114, 95, 95, 4, 0, 0, 15, 6, 255, 8, 95, 95, 115, 112, 101, 99, 95, 95, 4, 0, 0, 27, 6, 256, 15, 95, 99, 111, 117, 110, 116, 95, 101, 108, 101, 109, 101, 110, 116, 115, 9, 28, 95, 99, 111, 108, 108, 101, 99, 116, 105, 111, 110, 115, 46, 95, 99, 111, 117, 110, 116, 95, 101, 108, 101, 109, 101, 110, 116, 115, 6, 257, 5, 100, 101, 113, 117, 101, 8, 17, 99, 111, 108, 108, 101, 99, 116, 105, 111, 110, 115, 46, 100, 101, 113, 117, 101, 6, 258, 11, 100, 101, 102, 97, 117, 108, 116, 100, 105, 99, 116, 8, 23, 99, 111, 108, 108, 101, 99, 116, 105, 111, 110, 115, 46, 100, 101, 102, 97, 117, 108, 116, 100, 105, 99, 116, 6, 259, 15, 95, 100, 101, 113, 117, 101, 95, 105, 116, 101, 114, 97, 116, 111, 114, 8, 27, 99, 111, 108, 108, 101, 99, 116, 105, 111, 110, 115, 46, 95, 100, 101, 113, 117, 101, 95, 105, 116, 101, 114, 97, 116, 111, 114, 6, 260, 23, 95, 100, 101, 113, 117, 101, 95, 114, 101, 118, 101, 114, 115, 101, 95, 105, 116, 101, 114, 97, 116, 111, 114, 8, 35, 99, 111, 108, 108, 101, 99, 116, 105, 111, 110, 115, 46, 95, 100, 101, 113, 117, 101, 95, 114, 101, 118, 101, 114, 115, 101, 95, 105, 116, 101, 114, 97, 116, 111, 114, 6, 261, 12, 95, 116, 117, 112, 108, 101, 103, 101, 116, 116, 101, 114, 8, 24, 99, 111, 108, 108, 101, 99, 116, 105, 111, 110, 115, 46, 95, 116, 117, 112, 108, 101, 103, 101, 116, 116, 101, 114, 6, 262, 11, 79, 114, 100, 101, 114, 101, 100, 68, 105, 99, 116, 8, 23, 99, 111, 108, 108, 101, 99, 116, 105, 111, 110, 115, 46, 79, 114, 100, 101, 114, 101, 100, 68, 105, 99, 116]) 0), (.bool true), (.bool false), (.str "_collections" 264)] 0), #[]⟩]
def T0 (P : Params) : List Obj := G0 P
def G1 (P : Params) : List Obj := [
  ⟨(.type "tuple"), none, (.seq #[] 0), #[]⟩,
  ⟨.none, none, (.fields #[]), #[]⟩,
  ⟨(.type "code"), none, (.fields #[(.str "<module>" 274), (.str "<module>" 275), (.str "/claim/cut.py" 276), (.int 1 0), (.int 0 0), (.int 0 0), (.int 0 0), (.int 0 0), (.ref 29), (.bool false), (.int 273 0), (.ref 30), .none, .none, .none, .none, (.int 277 0), (.int 1 0), (.str "/claim/cut.py" 278)]), #[]⟩,
  ⟨(.type "frame"), none, .plain, #[some (.ref 31), some (.ref 3), some (.ref 3), none, some (.str "__main__" 164), none, some (.ref 0)]⟩]
def T1 (P : Params) : List Obj := app (T0 P) (G1 P)
def G2 (P : Params) : List Obj := [
  ⟨(.type "tuple"), none, (.seq #[] 0), #[]⟩,
  ⟨.none, none, (.fields #[]), #[]⟩,
  ⟨(.type "tuple"), none, (.seq #[(.str "k" 282)] 0), #[]⟩,
  ⟨(.type "tuple"), none, (.seq #[] 0), #[]⟩,
  ⟨.none, none, (.func (fd (st 1) "_wall" "_wall" 0 .none .none .none .none (none) .none .none 0)), #[]⟩,
  ⟨(.type "code"), none, (.fields #[(.str "_wall" 279), (.str "_wall" 280), (.str "/claim/cut.py" 281), (.int 2 0), (.int 1 0), (.int 0 0), (.int 0 0), (.int 3 0), (.ref 33), (.bool true), (.int 273 0), (.ref 34), .none, (.ref 35), (.ref 36), (.ref 37), (.int 283 0), (.int 2 0), (.str "/claim/cut.py" 284)]), #[]⟩,
  ⟨(.type "function"), none, (.func (fd (st 1) "_wall" "_wall" 3 .none .none .none (.str "__main__" 164) (none) (.ref 38) .none 0)), #[]⟩,
  ⟨(.type "tuple"), none, (.seq #[(.type "type")] 0), #[]⟩,
  ⟨(.type "builtin_function_or_method"), none, (.fields #[(.builtin "type.__prepare__"), (.type "type")]), #[]⟩,
  ⟨(.type "dict"), none, (.dict #[E P "__module__" 295 (.str "abc" 286), E P "__qualname__" 297 (.str "ABCMeta" 296), E P "__firstlineno__" 299 (.int 6 298), E P "register" 307 (.ref 53), E P "__static_attributes__" 308 (.ref 54)] 5), #[]⟩,
  ⟨(.type "tuple"), none, (.seq #[] 0), #[]⟩,
  ⟨.none, none, (.fields #[(.int 8 0), (.int 4 0), (.ref 52)]), #[]⟩,
  ⟨(.type "code"), none, (.fields #[(.str "ABCMeta" 290), (.str "ABCMeta" 291), (.str "/claim/cut.py" 292), (.int 6 0), (.int 0 0), (.int 0 0), (.int 0 0), (.int 0 0), (.ref 43), (.bool false), (.int 273 0), (.ref 44), .none, .none, .none, .none, (.int 293 0), (.int 6 0), (.str "/claim/cut.py" 294)]), #[]⟩,
  ⟨(.type "frame"), none, .plain, #[some (.ref 45), some (.ref 3), some (.ref 42), none, some (.str "abc" 286), none, some (.ref 0)]⟩,
  ⟨(.type "tuple"), none, (.seq #[] 0), #[]⟩,
  ⟨.none, none, (.fields #[]), #[]⟩,
  ⟨(.type "tuple"), none, (.seq #[(.str "cls" 303), (.str "subclass" 304)] 0), #[]⟩,
  ⟨(.type "tuple"), none, (.seq #[] 0), #[]⟩,
  ⟨.none, none, (.func (fd (sm 3 0) "register" "ABCMeta.register" 0 .none .none .none .none (none) .none .none 0)), #[]⟩,
  ⟨(.type "code"), none, (.fields #[(.str "register" 300), (.str "ABCMeta.register" 301), (.str "/claim/cut.py" 302), (.int 8 0), (.int 2 0), (.int 0 0), (.int 0 0), (.int 3 0), (.ref 47), (.bool true), (.int 273 0), (.ref 48), .none, (.ref 49), (.ref 50), (.ref 51), (.int 305 0), (.int 8 0), (.str "/claim/cut.py" 306)]), #[]⟩,
  ⟨(.type "function"), none, (.func (fd (sm 3 0) "register" "ABCMeta.register" 3 .none .none .none (.str "abc" 286) (none) (.ref 52) .none 0)), #[]⟩,
  ⟨(.type "tuple"), none, (.seq #[] 0), #[]⟩,
  ⟨(.type "dict"), none, (.dict #[E P "__module__" 295 (.str "abc" 286), E P "__firstlineno__" 299 (.int 6 298), E P "register" 307 (.ref 53), E P "__static_attributes__" 308 (.ref 54), E P "__doc__" 309 .none] 2), #[]⟩,
  ⟨(.type "type"), none, (.cls ⟨"ABCMeta", [(.type "type")], [(.ref 56), (.type "type"), (.type "object")], 55, "ABCMeta", true, [], [(.ref 89)], false, none, false⟩), #[some (.ref 40), none, some (.str "ABCMeta" 288), some (.str "ABCMeta" 296), some (.builtin "type.__new__"), some (.bool true)]⟩,
  ⟨(.type "super"), none, (.fields #[(.ref 56), (.ref 56), (.ref 56)]), #[]⟩,
  ⟨(.type "builtin_function_or_method"), none, (.fields #[(.builtin "object.__init_subclass__"), (.ref 56)]), #[]⟩,
  ⟨(.type "tuple"), none, (.seq #[(.ref 56)] 0), #[]⟩,
  ⟨(.type "builtin_function_or_method"), none, (.fields #[(.builtin "type.__prepare__"), (.type "type")]), #[]⟩,
  ⟨(.type "dict"), none, (.dict #[E P "__module__" 321 (.str "collections.abc" 312), E P "__qualname__" 323 (.str "_ABCLike" 322), E P "__firstlineno__" 325 (.int 11 324), E P "__instancecheck__" 334 (.ref 72), E P "__subclasscheck__" 342 (.ref 79), E P "register" 350 (.ref 86), E P "__static_attributes__" 351 (.ref 87)] 7), #[]⟩,
  ⟨(.type "tuple"), none, (.seq #[] 0), #[]⟩,
  ⟨.none, none, (.fields #[(.int 13 0), (.int 4 0), (.ref 71), (.int 19 0), (.int 4 0), (.ref 78), (.int 24 0), (.int 4 0), (.ref 85)]), #[]⟩,
  ⟨(.type "code"), none, (.fields #[(.str "_ABCLike" 316), (.str "_ABCLike" 317), (.str "/claim/cut.py" 318), (.int 11 0), (.int 0 0), (.int 0 0), (.int 0 0), (.int 0 0), (.ref 62), (.bool false), (.int 273 0), (.ref 63), .none, .none, .none, .none, (.int 319 0), (.int 11 0), (.str "/claim/cut.py" 320)]), #[]⟩,
  ⟨(.type "frame"), none, .plain, #[some (.ref 64), some (.ref 3), some (.ref 61), none, some (.str "collections.abc" 312), none, some (.ref 0)]⟩,
  ⟨(.type "tuple"), none, (.seq #[] 0), #[]⟩,
  ⟨.none, none, (.fields #[]), #[]⟩,
  ⟨(.type "tuple"), none, (.seq #[(.str "cls" 329), (.str "\x69nstance" 330), (.str "C" 331)] 0), #[]⟩,
  ⟨(.type "tuple"), none, (.seq #[] 0), #[]⟩,
  ⟨.none, none, (.func (fd (sm 5 0) "__instancecheck__" "_ABCLike.__instancecheck__" 0 .none .none .none .none (none) .none .none 0)), #[]⟩,
  ⟨(.type "code"), none, (.fields #[(.str "__instancecheck__" 326), (.str "_ABCLike.__instancecheck__" 327), (.str "/claim/cut.py" 328), (.int 13 0), (.int 2 0), (.int 0 0), (.int 0 0), (.int 3 0), (.ref 66), (.bool true), (.int 273 0), (.ref 67), .none, (.ref 68), (.ref 69), (.ref 70), (.int 332 0), (.int 13 0), (.str "/claim/cut.py" 333)]), #[]⟩,
  ⟨(.type "function"), none, (.func (fd (sm 5 0) "__instancecheck__" "_ABCLike.__instancecheck__" 3 .none .none .none (.str "collections.abc" 312) (none) (.ref 71) .none 0)), #[]⟩,
  ⟨(.type "tuple"), none, (.seq #[] 0), #[]⟩,
  ⟨.none, none, (.fields #[]), #[]⟩,
  ⟨(.type "tuple"), none, (.seq #[(.str "cls" 338), (.str "C" 339)] 0), #[]⟩,
  ⟨(.type "tuple"), none, (.seq #[] 0), #[]⟩,
  ⟨.none, none, (.func (fd (sm 5 1) "__subclasscheck__" "_ABCLike.__subclasscheck__" 0 .none .none .none .none (none) .none .none 0)), #[]⟩,
  ⟨(.type "code"), none, (.fields #[(.str "__subclasscheck__" 335), (.str "_ABCLike.__subclasscheck__" 336), (.str "/claim/cut.py" 337), (.int 19 0), (.int 2 0), (.int 0 0), (.int 0 0), (.int 3 0), (.ref 73), (.bool true), (.int 273 0), (.ref 74), .none, (.ref 75), (.ref 76), (.ref 77), (.int 340 0), (.int 19 0), (.str "/claim/cut.py" 341)]), #[]⟩,
  ⟨(.type "function"), none, (.func (fd (sm 5 1) "__subclasscheck__" "_ABCLike.__subclasscheck__" 3 .none .none .none (.str "collections.abc" 312) (none) (.ref 78) .none 0)), #[]⟩,
  ⟨(.type "tuple"), none, (.seq #[] 0), #[]⟩,
  ⟨.none, none, (.fields #[]), #[]⟩,
  ⟨(.type "tuple"), none, (.seq #[(.str "cls" 346), (.str "subclass" 347)] 0), #[]⟩,
  ⟨(.type "tuple"), none, (.seq #[] 0), #[]⟩,
  ⟨.none, none, (.func (fd (sm 5 2) "register" "_ABCLike.register" 0 .none .none .none .none (none) .none .none 0)), #[]⟩,
  ⟨(.type "code"), none, (.fields #[(.str "register" 343), (.str "_ABCLike.register" 344), (.str "/claim/cut.py" 345), (.int 24 0), (.int 2 0), (.int 0 0), (.int 0 0), (.int 3 0), (.ref 80), (.bool true), (.int 273 0), (.ref 81), .none, (.ref 82), (.ref 83), (.ref 84), (.int 348 0), (.int 24 0), (.str "/claim/cut.py" 349)]), #[]⟩,
  ⟨(.type "function"), none, (.func (fd (sm 5 2) "register" "_ABCLike.register" 3 .none .none .none (.str "collections.abc" 312) (none) (.ref 85) .none 0)), #[]⟩,
  ⟨(.type "tuple"), none, (.seq #[] 0), #[]⟩,
  ⟨(.type "dict"), none, (.dict #[E P "__module__" 321 (.str "collections.abc" 312), E P "__firstlineno__" 325 (.int 11 324), E P "__instancecheck__" 334 (.ref 72), E P "__subclasscheck__" 342 (.ref 79), E P "register" 350 (.ref 86), E P "__static_attributes__" 351 (.ref 87), E P "__doc__" 352 .none] 2), #[]⟩,
  ⟨(.type "type"), none, (.cls ⟨"_ABCLike", [(.ref 56)], [(.ref 89), (.ref 56), (.type "type"), (.type "object")], 88, "_ABCLike", true, [], [], false, none, false⟩), #[some (.ref 59), none, some (.str "_ABCLike" 314), some (.str "_ABCLike" 322), some (.builtin "type.__new__"), some (.bool true)]⟩,
  ⟨(.type "super"), none, (.fields #[(.ref 89), (.ref 89), (.ref 89)]), #[]⟩,
  ⟨(.type "builtin_function_or_method"), none, (.fields #[(.builtin "object.__init_subclass__"), (.ref 89)]), #[]⟩,
  ⟨(.type "tuple"), none, (.seq #[] 0), #[]⟩,
  ⟨.none, none, (.fields #[]), #[]⟩,
  ⟨(.type "tuple"), none, (.seq #[(.str "C" 358)] 0), #[]⟩,
  ⟨(.type "tuple"), none, (.seq #[] 0), #[]⟩,
  ⟨.none, none, (.func (fd (st 6) "_abc_plain_meta" "_abc_plain_meta" 0 .none .none .none .none (none) .none .none 0)), #[]⟩,
  ⟨(.type "code"), none, (.fields #[(.str "_abc_plain_meta" 355), (.str "_abc_plain_meta" 356), (.str "/claim/cut.py" 357), (.int 26 0), (.int 1 0), (.int 0 0), (.int 0 0), (.int 3 0), (.ref 92), (.bool true), (.int 273 0), (.ref 93), .none, (.ref 94), (.ref 95), (.ref 96), (.int 359 0), (.int 26 0), (.str "/claim/cut.py" 360)]), #[]⟩,
  ⟨(.type "function"), none, (.func (fd (st 6) "_abc_plain_meta" "_abc_plain_meta" 3 .none .none .none (.str "collections.abc" 312) (none) (.ref 97) .none 0)), #[]⟩,
  ⟨(.type "tuple"), none, (.seq #[] 0), #[]⟩,
  ⟨.none, none, (.fields #[]), #[]⟩,
  ⟨(.type "tuple"), none, (.seq #[(.str "C" 365)] 0), #[]⟩,
  ⟨(.type "tuple"), none, (.seq #[] 0), #[]⟩,
  ⟨.none, none, (.func (fd (st 7) "_abc_has_iter" "_abc_has_iter" 0 .none .none .none .none (none) .none .none 0)), #[]⟩,
  ⟨(.type "code"), none, (.fields #[(.str "_abc_has_iter" 362), (.str "_abc_has_iter" 363), (.str "/claim/cut.py" 364), (.int 29 0), (.int 1 0), (.int 0 0), (.int 0 0), (.int 3 0), (.ref 99), (.bool true), (.int 273 0), (.ref 100), .none, (.ref 101), (.ref 102), (.ref 103), (.int 366 0), (.int 29 0), (.str "/claim/cut.py" 367)]), #[]⟩,
  ⟨(.type "function"), none, (.func (fd (st 7) "_abc_has_iter" "_abc_has_iter" 3 .none .none .none (.str "collections.abc" 312) (none) (.ref 104) .none 0)), #[]⟩,
  ⟨(.type "tuple"), none, (.seq #[] 0), #[]⟩,
  ⟨.none, none, (.fields #[]), #[]⟩,
  ⟨(.type "tuple"), none, (.seq #[(.str "C" 372)] 0), #[]⟩,
  ⟨(.type "tuple"), none, (.seq #[] 0), #[]⟩,
  ⟨.none, none, (.func (fd (st 8) "_abc_has_len" "_abc_has_len" 0 .none .none .none .none (none) .none .none 0)), #[]⟩,
  ⟨(.type "code"), none, (.fields #[(.str "_abc_has_len" 369), (.str "_abc_has_len" 370), (.str "/claim/cut.py" 371), (.int 32 0), (.int 1 0), (.int 0 0), (.int 0 0), (.int 3 0), (.ref 106), (.bool true), (.int 273 0), (.ref 107), .none, (.ref 108), (.ref 109), (.ref 110), (.int 373 0), (.int 32 0), (.str "/claim/cut.py" 374)]), #[]⟩,
  ⟨(.type "function"), none, (.func (fd (st 8) "_abc_has_len" "_abc_has_len" 3 .none .none .none (.str "collections.abc" 312) (none) (.ref 111) .none 0)), #[]⟩,
  ⟨(.type "tuple"), none, (.seq #[] 0), #[]⟩,
  ⟨.none, none, (.fields #[]), #[]⟩,
  ⟨(.type "tuple"), none, (.seq #[(.str "C" 379)] 0), #[]⟩,
  ⟨(.type "tuple"), none, (.seq #[] 0), #[]⟩,
  ⟨.none, none, (.func (fd (st 9) "_abc_has_contains" "_abc_has_contains" 0 .none .none .none .none (none) .none .none 0)), #[]⟩,
  ⟨(.type "code"), none, (.fields #[(.str "_abc_has_contains" 376), (.str "_abc_has_contains" 377), (.str "/claim/cut.py" 378), (.int 35 0), (.int 1 0), (.int 0 0), (.int 0 0), (.int 3 0), (.ref 113), (.bool true), (.int 273 0), (.ref 114), .none, (.ref 115), (.ref 116), (.ref 117), (.int 380 0), (.int 35 0), (.str "/claim/cut.py" 381)]), #[]⟩,
  ⟨(.type "function"), none, (.func (fd (st 9) "_abc_has_contains" "_abc_has_contains" 3 .none .none .none (.str "collections.abc" 312) (none) (.ref 118) .none 0)), #[]⟩]
def U2_3 (P : Params) : Obj := ⟨(.type "dict"), none, (.dict #[E P "__name__" 165 (.str "collections.abc" 312), E P "__doc__" 166 .none, E P "__package__" 167 .none, E P "__loader__" 168 (.builtin "__main__.__loader__#opaque"), E P "__spec__" 169 .none, E P "__annotations__" 170 (.ref 6), E P "__builtins__" 171 (.ref 4), E P "__file__" 173 (.str "/claim/cut.py" 172), E P "__cached__" 174 .none, E P "deque" 272 (.type "collections.deque"), E P "_wall" 285 (.ref 39), E P "ABCMeta" 311 (.ref 56), E P "_ABCLike" 354 (.ref 89), E P "_abc_plain_meta" 361 (.ref 98), E P "_abc_has_iter" 368 (.ref 105), E P "_abc_has_len" 375 (.ref 112), E P "_abc_has_contains" 382 (.ref 119)] 17), #[]⟩
def U2_30 (P : Params) : Obj := ⟨.none, none, (.fields #[(.int 2 0), (.int 0 0), (.ref 38), (.int 6 0), (.int 0 0), (.ref 45), (.int 11 0), (.int 0 0), (.ref 64), (.int 26 0), (.int 0 0), (.ref 97), (.int 29 0), (.int 0 0), (.ref 104), (.int 32 0), (.int 0 0), (.ref 111), (.int 35 0), (.int 0 0), (.ref 118)]), #[]⟩
def T2 (P : Params) : List Obj := app (upd (upd (T1 P) 3 (U2_3 P)) 30 (U2_30 P)) (G2 P)
def G3 (P : Params) : List Obj := [
  ⟨(.type "tuple"), none, (.seq #[] 0), #[]⟩,
  ⟨.none, none, (.fields #[]), #[]⟩,
  ⟨(.type "tuple"), none, (.seq #[(.str "C" 386)] 0), #[]⟩,
  ⟨(.type "tuple"), none, (.seq #[] 0), #[]⟩,
  ⟨.none, none, (.func (fd (st 10) "_abc_is_mappingproxy" "_abc_is_mappingproxy" 0 .none .none .none .none (none) .none .none 0)), #[]⟩,
  ⟨(.type "code"), none, (.fields #[(.str "_abc_is_mappingproxy" 383), (.str "_abc_is_mappingproxy" 384), (.str "/claim/cut.py" 385), (.int 38 0), (.int 1 0), (.int 0 0), (.int 0 0), (.int 3 0), (.ref 120), (.bool true), (.int 273 0), (.ref 121), .none, (.ref 122), (.ref 123), (.ref 124), (.int 387 0), (.int 38 0), (.str "/claim/cut.py" 388)]), #[]⟩,
  ⟨(.type "function"), none, (.func (fd (st 10) "_abc_is_mappingproxy" "_abc_is_mappingproxy" 3 .none .none .none (.str "collections.abc" 312) (none) (.ref 125) .none 0)), #[]⟩,
  ⟨(.type "tuple"), none, (.seq #[] 0), #[]⟩,
  ⟨.none, none, (.fields #[]), #[]⟩,
  ⟨(.type "tuple"), none, (.seq #[(.str "C" 393)] 0), #[]⟩,
  ⟨(.type "tuple"), none, (.seq #[] 0), #[]⟩,
  ⟨.none, none, (.func (fd (st 11) "_abc_is_builtin_collection" "_abc_is_builtin_collection" 0 .none .none .none .none (none) .none .none 0)), #[]⟩,
  ⟨(.type "code"), none, (.fields #[(.str "_abc_is_builtin_collection" 390), (.str "_abc_is_builtin_collection" 391), (.str "/claim/cut.py" 392), (.int 40 0), (.int 1 0), (.int 0 0), (.int 0 0), (.int 3 0), (.ref 127), (.bool true), (.int 273 0), (.ref 128), .none, (.ref 129), (.ref 130), (.ref 131), (.int 394 0), (.int 40 0), (.str "/claim/cut.py" 395)]), #[]⟩,
  ⟨(.type "function"), none, (.func (fd (st 11) "_abc_is_builtin_collection" "_abc_is_builtin_collection" 3 .none .none .none (.str "collections.abc" 312) (none) (.ref 132) .none 0)), #[]⟩,
  ⟨(.type "tuple"), none, (.seq #[] 0), #[]⟩,
  ⟨(.type "builtin_function_or_method"), none, (.fields #[(.builtin "type.__prepare__"), (.ref 89)]), #[]⟩,
  ⟨(.type "dict"), none, (.dict #[E P "__module__" 404 (.str "collections.abc" 312), E P "__qualname__" 406 (.str "Iterable" 405), E P "__firstlineno__" 408 (.int 42 407), E P "__slots__" 409 (.ref 141), E P "__iter__" 416 (.ref 148), E P "_abc_kind" 424 (.ref 155), E P "__class_getitem__" 432 (.ref 162), E P "__static_attributes__" 433 (.ref 163)] 8), #[]⟩,
  ⟨(.type "tuple"), none, (.seq #[] 0), #[]⟩,
  ⟨.none, none, (.fields #[(.int 45 0), (.int 4 0), (.ref 147), (.int 49 0), (.int 4 0), (.ref 154), (.int 55 0), (.int 4 0), (.ref 161)]), #[]⟩,
  ⟨(.type "code"), none, (.fields #[(.str "Iterable" 399), (.str "Iterable" 400), (.str "/claim/cut.py" 401), (.int 42 0), (.int 0 0), (.int 0 0), (.int 0 0), (.int 0 0), (.ref 137), (.bool false), (.int 273 0), (.ref 138), .none, .none, .none, .none, (.int 402 0), (.int 42 0), (.str "/claim/cut.py" 403)]), #[]⟩,
  ⟨(.type "frame"), none, .plain, #[some (.ref 139), some (.ref 3), some (.ref 136), none, some (.str "collections.abc" 312), none, some (.ref 0)]⟩,
  ⟨(.type "tuple"), none, (.seq #[] 0), #[]⟩,
  ⟨(.type "tuple"), none, (.seq #[] 0), #[]⟩,
  ⟨.none, none, (.fields #[]), #[]⟩,
  ⟨(.type "tuple"), none, (.seq #[(.str "self" 413)] 0), #[]⟩,
  ⟨(.type "tuple"), none, (.seq #[] 0), #[]⟩,
  ⟨.none, none, (.func (fd (sm 12 1) "__iter__" "Iterable.__iter__" 0 .none .none .none .none (none) .none .none 0)), #[]⟩,
  ⟨(.type "code"), none, (.fields #[(.str "__iter__" 410), (.str "Iterable.__iter__" 411), (.str "/claim/cut.py" 412), (.int 45 0), (.int 1 0), (.int 0 0), (.int 0 0), (.int 35 0), (.ref 142), (.bool true), (.int 273 0), (.ref 143), .none, (.ref 144), (.ref 145), (.ref 146), (.int 414 0), (.int 45 0), (.str "/claim/cut.py" 415)]), #[]⟩,
  ⟨(.type "function"), none, (.func (fd (sm 12 1) "__iter__" "Iterable.__iter__" 3 .none .none .none (.str "collections.abc" 312) (none) (.ref 147) .none 0)), #[]⟩,
  ⟨(.type "tuple"), none, (.seq #[] 0), #[]⟩,
  ⟨.none, none, (.fields #[]), #[]⟩,
  ⟨(.type "tuple"), none, (.seq #[(.str "cls" 420), (.str "C" 421)] 0), #[]⟩,
  ⟨(.type "tuple"), none, (.seq #[] 0), #[]⟩,
  ⟨.none, none, (.func (fd (sm 12 2) "_abc_kind" "Iterable._abc_kind" 0 .none .none .none .none (none) .none .none 0)), #[]⟩,
  ⟨(.type "code"), none, (.fields #[(.str "_abc_kind" 417), (.str "Iterable._abc_kind" 418), (.str "/claim/cut.py" 419), (.int 49 0), (.int 2 0), (.int 0 0), (.int 0 0), (.int 3 0), (.ref 149), (.bool true), (.int 273 0), (.ref 150), .none, (.ref 151), (.ref 152), (.ref 153), (.int 422 0), (.int 49 0), (.str "/claim/cut.py" 423)]), #[]⟩,
  ⟨(.type "function"), none, (.func (fd (sm 12 2) "_abc_kind" "Iterable._abc_kind" 3 .none .none .none (.str "collections.abc" 312) (none) (.ref 154) .none 0)), #[]⟩,
  ⟨(.type "tuple"), none, (.seq #[] 0), #[]⟩,
  ⟨.none, none, (.fields #[]), #[]⟩,
  ⟨(.type "tuple"), none, (.seq #[(.str "cls" 428), (.str "item" 429)] 0), #[]⟩,
  ⟨(.type "tuple"), none, (.seq #[] 0), #[]⟩,
  ⟨.none, none, (.func (fd (sm 12 3) "__class_getitem__" "Iterable.__class_getitem__" 0 .none .none .none .none (none) .none .none 0)), #[]⟩,
  ⟨(.type "code"), none, (.fields #[(.str "__class_getitem__" 425), (.str "Iterable.__class_getitem__" 426), (.str "/claim/cut.py" 427), (.int 55 0), (.int 2 0), (.int 0 0), (.int 0 0), (.int 3 0), (.ref 156), (.bool true), (.int 273 0), (.ref 157), .none, (.ref 158), (.ref 159), (.ref 160), (.int 430 0), (.int 55 0), (.str "/claim/cut.py" 431)]), #[]⟩,
  ⟨(.type "function"), none, (.func (fd (sm 12 3) "__class_getitem__" "Iterable.__class_getitem__" 3 .none .none .none (.str "collections.abc" 312) (none) (.ref 161) .none 0)), #[]⟩,
  ⟨(.type "tuple"), none, (.seq #[] 0), #[]⟩,
  ⟨(.type "list"), none, (.seq #[] 0), #[]⟩,
  ⟨(.type "dict"), none, (.dict #[E P "__module__" 404 (.str "collections.abc" 312), E P "__firstlineno__" 408 (.int 42 407), E P "__slots__" 409 (.ref 141), E P "__iter__" 416 (.ref 148), E P "_abc_kind" 424 (.ref 155), E P "__class_getitem__" 432 (.ref 167), E P "__static_attributes__" 433 (.ref 163), E P "__doc__" 435 .none, E P "__abstractmethods__" 442 (.ref 170)] 3), #[]⟩,
  ⟨(.ref 89), none, (.cls ⟨"Iterable", [(.type "object")], [(.ref 166), (.type "object")], 165, "Iterable", false, [], [], true, none, false⟩), #[none, none, some (.str "Iterable" 397), some (.str "Iterable" 405), some (.builtin "object.__new__"), some (.bool false)]⟩,
  ⟨(.type "classmethod"), none, (.fields #[(.ref 162)]), #[]⟩,
  ⟨(.type "super"), none, (.fields #[(.ref 166), (.ref 166), (.ref 166)]), #[]⟩,
  ⟨(.type "builtin_function_or_method"), none, (.fields #[(.builtin "object.__init_subclass__"), (.ref 166)]), #[]⟩,
  ⟨(.type "tuple"), none, (.seq #[(.str "__iter__" 438)] 0), #[]⟩]
def U3_3 (P : Params) : Obj := ⟨(.type "dict"), none, (.dict #[E P "__name__" 165 (.str "collections.abc" 312), E P "__doc__" 166 .none, E P "__package__" 167 .none, E P "__loader__" 168 (.builtin "__main__.__loader__#opaque"), E P "__spec__" 169 .none, E P "__annotations__" 170 (.ref 6), E P "__builtins__" 171 (.ref 4), E P "__file__" 173 (.str "/claim/cut.py" 172), E P "__cached__" 174 .none, E P "deque" 272 (.type "collections.deque"), E P "_wall" 285 (.ref 39), E P "ABCMeta" 311 (.ref 56), E P "_ABCLike" 354 (.ref 89), E P "_abc_plain_meta" 361 (.ref 98), E P "_abc_has_iter" 368 (.ref 105), E P "_abc_has_len" 375 (.ref 112), E P "_abc_has_contains" 382 (.ref 119), E P "_abc_is_mappingproxy" 389 (.ref 126), E P "_abc_is_builtin_collection" 396 (.ref 133), E P "Iterable" 437 (.ref 166)] 20), #[]⟩
def U3_30 (P : Params) : Obj := ⟨.none, none, (.fields #[(.int 2 0), (.int 0 0), (.ref 38), (.int 6 0), (.int 0 0), (.ref 45), (.int 11 0), (.int 0 0), (.ref 64), (.int 26 0), (.int 0 0), (.ref 97), (.int 29 0), (.int 0 0), (.ref 104), (.int 32 0), (.int 0 0), (.ref 111), (.int 35 0), (.int 0 0), (.ref 118), (.int 38 0), (.int 0 0), (.ref 125), (.int 40 0), (.int 0 0), (.ref 132), (.int 42 0), (.int 0 0), (.ref 139)]), #[]⟩
def T3 (P : Params) : List Obj := app (upd (upd (T2 P) 3 (U3_3 P)) 30 (U3_30 P)) (G3 P)
def G4 (P : Params) : List Obj := [
  ⟨(.type "tuple"), none, (.seq #[] 0), #[]⟩,
  ⟨(.type "builtin_function_or_method"), none, (.fields #[(.builtin "type.__prepare__"), (.ref 89)]), #[]⟩,
  ⟨(.type "dict"), none, (.dict #[E P "__module__" 450 (.str "collections.abc" 312), E P "__qualname__" 452 (.str "Sized" 451), E P "__firstlineno__" 454 (.int 58 453), E P "__slots__" 455 (.ref 178), E P "__len__" 462 (.ref 185), E P "_abc_kind" 470 (.ref 192), E P "__static_attributes__" 471 (.ref 193)] 7), #[]⟩,
  ⟨(.type "tuple"), none, (.seq #[] 0), #[]⟩,
  ⟨.none, none, (.fields #[(.int 61 0), (.int 4 0), (.ref 184), (.int 64 0), (.int 4 0), (.ref 191)]), #[]⟩,
  ⟨(.type "code"), none, (.fields #[(.str "Sized" 445), (.str "Sized" 446), (.str "/claim/cut.py" 447), (.int 58 0), (.int 0 0), (.int 0 0), (.int 0 0), (.int 0 0), (.ref 174), (.bool false), (.int 273 0), (.ref 175), .none, .none, .none, .none, (.int 448 0), (.int 58 0), (.str "/claim/cut.py" 449)]), #[]⟩,
  ⟨(.type "frame"), none, .plain, #[some (.ref 176), some (.ref 3), some (.ref 173), none, some (.str "collections.abc" 312), none, some (.ref 0)]⟩,
  ⟨(.type "tuple"), none, (.seq #[] 0), #[]⟩,
  ⟨(.type "tuple"), none, (.seq #[] 0), #[]⟩,
  ⟨.none, none, (.fields #[]), #[]⟩,
  ⟨(.type "tuple"), none, (.seq #[(.str "self" 459)] 0), #[]⟩,
  ⟨(.type "tuple"), none, (.seq #[] 0), #[]⟩,
  ⟨.none, none, (.func (fd (sm 14 1) "__len__" "Sized.__len__" 0 .none .none .none .none (none) .none .none 0)), #[]⟩,
  ⟨(.type "code"), none, (.fields #[(.str "__len__" 456), (.str "Sized.__len__" 457), (.str "/claim/cut.py" 458), (.int 61 0), (.int 1 0), (.int 0 0), (.int 0 0), (.int 3 0), (.ref 179), (.bool true), (.int 273 0), (.ref 180), .none, (.ref 181), (.ref 182), (.ref 183), (.int 460 0), (.int 61 0), (.str "/claim/cut.py" 461)]), #[]⟩,
  ⟨(.type "function"), none, (.func (fd (sm 14 1) "__len__" "Sized.__len__" 3 .none .none .none (.str "collections.abc" 312) (none) (.ref 184) .none 0)), #[]⟩,
  ⟨(.type "tuple"), none, (.seq #[] 0), #[]⟩,
  ⟨.none, none, (.fields #[]), #[]⟩,
  ⟨(.type "tuple"), none, (.seq #[(.str "cls" 466), (.str "C" 467)] 0), #[]⟩,
  ⟨(.type "tuple"), none, (.seq #[] 0), #[]⟩,
  ⟨.none, none, (.func (fd (sm 14 2) "_abc_kind" "Sized._abc_kind" 0 .none .none .none .none (none) .none .none 0)), #[]⟩,
  ⟨(.type "code"), none, (.fields #[(.str "_abc_kind" 463), (.str "Sized._abc_kind" 464), (.str "/claim/cut.py" 465), (.int 64 0), (.int 2 0), (.int 0 0), (.int 0 0), (.int 3 0), (.ref 186), (.bool true), (.int 273 0), (.ref 187), .none, (.ref 188), (.ref 189), (.ref 190), (.int 468 0), (.int 64 0), (.str "/claim/cut.py" 469)]), #[]⟩,
  ⟨(.type "function"), none, (.func (fd (sm 14 2) "_abc_kind" "Sized._abc_kind" 3 .none .none .none (.str "collections.abc" 312) (none) (.ref 191) .none 0)), #[]⟩,
  ⟨(.type "tuple"), none, (.seq #[] 0), #[]⟩,
  ⟨(.type "list"), none, (.seq #[] 0), #[]⟩,
  ⟨(.type "dict"), none, (.dict #[E P "__module__" 450 (.str "collections.abc" 312), E P "__firstlineno__" 454 (.int 58 453), E P "__slots__" 455 (.ref 178), E P "__len__" 462 (.ref 185), E P "_abc_kind" 470 (.ref 192), E P "__static_attributes__" 471 (.ref 193), E P "__doc__" 472 .none, E P "__abstractmethods__" 479 (.ref 199)] 3), #[]⟩,
  ⟨(.ref 89), none, (.cls ⟨"Sized", [(.type "object")], [(.ref 196), (.type "object")], 195, "Sized", false, [], [], true, none, false⟩), #[none, none, some (.str "Sized" 443), some (.str "Sized" 451), some (.builtin "object.__new__"), some (.bool false)]⟩,
  ⟨(.type "super"), none, (.fields #[(.ref 196), (.ref 196), (.ref 196)]), #[]⟩,
  ⟨(.type "builtin_function_or_method"), none, (.fields #[(.builtin "object.__init_subclass__"), (.ref 196)]), #[]⟩,
  ⟨(.type "tuple"), none, (.seq #[(.str "__len__" 475)] 0), #[]⟩]
def U4_3 (P : Params) : Obj := ⟨(.type "dict"), none, (.dict #[E P "__name__" 165 (.str "collections.abc" 312), E P "__doc__" 166 .none, E P "__package__" 167 .none, E P "__loader__" 168 (.builtin "__main__.__loader__#opaque"), E P "__spec__" 169 .none, E P "__annotations__" 170 (.ref 6), E P "__builtins__" 171 (.ref 4), E P "__file__" 173 (.str "/claim/cut.py" 172), E P "__cached__" 174 .none, E P "deque" 272 (.type "collections.deque"), E P "_wall" 285 (.ref 39), E P "ABCMeta" 311 (.ref 56), E P "_ABCLike" 354 (.ref 89), E P "_abc_plain_meta" 361 (.ref 98), E P "_abc_has_iter" 368 (.ref 105), E P "_abc_has_len" 375 (.ref 112), E P "_abc_has_contains" 382 (.ref 119), E P "_abc_is_mappingproxy" 389 (.ref 126), E P "_abc_is_builtin_collection" 396 (.ref 133), E P "Iterable" 437 (.ref 166), E P "Sized" 474 (.ref 196)] 21), #[]⟩
def U4_30 (P : Params) : Obj := ⟨.none, none, (.fields #[(.int 2 0), (.int 0 0), (.ref 38), (.int 6 0), (.int 0 0), (.ref 45), (.int 11 0), (.int 0 0), (.ref 64), (.int 26 0), (.int 0 0), (.ref 97), (.int 29 0), (.int 0 0), (.ref 104), (.int 32 0), (.int 0 0), (.ref 111), (.int 35 0), (.int 0 0), (.ref 118), (.int 38 0), (.int 0 0), (.ref 125), (.int 40 0), (.int 0 0), (.ref 132), (.int 42 0), (.int 0 0), (.ref 139), (.int 58 0), (.int 0 0), (.ref 176)]), #[]⟩
def T4 (P : Params) : List Obj := app (upd (upd (T3 P) 3 (U4_3 P)) 30 (U4_30 P)) (G4 P)
def G5 (P : Params) : List Obj := [
  ⟨(.type "tuple"), none, (.seq #[] 0), #[]⟩,
  ⟨(.type "builtin_function_or_method"), none, (.fields #[(.builtin "type.__prepare__"), (.ref 89)]), #[]⟩,
  ⟨(.type "dict"), none, (.dict #[E P "__module__" 487 (.str "collections.abc" 312), E P "__qualname__" 489 (.str "Container" 488), E P "__firstlineno__" 491 (.int 70 490), E P "__slots__" 492 (.ref 207), E P "__contains__" 500 (.ref 214), E P "_abc_kind" 508 (.ref 221), E P "__class_getitem__" 516 (.ref 228), E P "__static_attributes__" 517 (.ref 229)] 8), #[]⟩,
  ⟨(.type "tuple"), none, (.seq #[] 0), #[]⟩,
  ⟨.none, none, (.fields #[(.int 73 0), (.int 4 0), (.ref 213), (.int 76 0), (.int 4 0), (.ref 220), (.int 82 0), (.int 4 0), (.ref 227)]), #[]⟩,
  ⟨(.type "code"), none, (.fields #[(.str "Container" 482), (.str "Container" 483), (.str "/claim/cut.py" 484), (.int 70 0), (.int 0 0), (.int 0 0), (.int 0 0), (.int 0 0), (.ref 203), (.bool false), (.int 273 0), (.ref 204), .none, .none, .none, .none, (.int 485 0), (.int 70 0), (.str "/claim/cut.py" 486)]), #[]⟩,
  ⟨(.type "frame"), none, .plain, #[some (.ref 205), some (.ref 3), some (.ref 202), none, some (.str "collections.abc" 312), none, some (.ref 0)]⟩,
  ⟨(.type "tuple"), none, (.seq #[] 0), #[]⟩,
  ⟨(.type "tuple"), none, (.seq #[] 0), #[]⟩,
  ⟨.none, none, (.fields #[]), #[]⟩,
  ⟨(.type "tuple"), none, (.seq #[(.str "self" 496), (.str "x" 497)] 0), #[]⟩,
  ⟨(.type "tuple"), none, (.seq #[] 0), #[]⟩,
  ⟨.none, none, (.func (fd (sm 16 1) "__contains__" "Container.__contains__" 0 .none .none .none .none (none) .none .none 0)), #[]⟩,
  ⟨(.type "code"), none, (.fields #[(.str "__contains__" 493), (.str "Container.__contains__" 494), (.str "/claim/cut.py" 495), (.int 73 0), (.int 2 0), (.int 0 0), (.int 0 0), (.int 3 0), (.ref 208), (.bool true), (.int 273 0), (.ref 209), .none, (.ref 210), (.ref 211), (.ref 212), (.int 498 0), (.int 73 0), (.str "/claim/cut.py" 499)]), #[]⟩,
  ⟨(.type "function"), none, (.func (fd (sm 16 1) "__contains__" "Container.__contains__" 3 .none .none .none (.str "collections.abc" 312) (none) (.ref 213) .none 0)), #[]⟩,
  ⟨(.type "tuple"), none, (.seq #[] 0), #[]⟩,
  ⟨.none, none, (.fields #[]), #[]⟩,
  ⟨(.type "tuple"), none, (.seq #[(.str "cls" 504), (.str "C" 505)] 0), #[]⟩,
  ⟨(.type "tuple"), none, (.seq #[] 0), #[]⟩,
  ⟨.none, none, (.func (fd (sm 16 2) "_abc_kind" "Container._abc_kind" 0 .none .none .none .none (none) .none .none 0)), #[]⟩,
  ⟨(.type "code"), none, (.fields #[(.str "_abc_kind" 501), (.str "Container._abc_kind" 502), (.str "/claim/cut.py" 503), (.int 76 0), (.int 2 0), (.int 0 0), (.int 0 0), (.int 3 0), (.ref 215), (.bool true), (.int 273 0), (.ref 216), .none, (.ref 217), (.ref 218), (.ref 219), (.int 506 0), (.int 76 0), (.str "/claim/cut.py" 507)]), #[]⟩,
  ⟨(.type "function"), none, (.func (fd (sm 16 2) "_abc_kind" "Container._abc_kind" 3 .none .none .none (.str "collections.abc" 312) (none) (.ref 220) .none 0)), #[]⟩,
  ⟨(.type "tuple"), none, (.seq #[] 0), #[]⟩,
  ⟨.none, none, (.fields #[]), #[]⟩,
  ⟨(.type "tuple"), none, (.seq #[(.str "cls" 512), (.str "item" 513)] 0), #[]⟩,
  ⟨(.type "tuple"), none, (.seq #[] 0), #[]⟩,
  ⟨.none, none, (.func (fd (sm 16 3) "__class_getitem__" "Container.__class_getitem__" 0 .none .none .none .none (none) .none .none 0)), #[]⟩,
  ⟨(.type "code"), none, (.fields #[(.str "__class_getitem__" 509), (.str "Container.__class_getitem__" 510), (.str "/claim/cut.py" 511), (.int 82 0), (.int 2 0), (.int 0 0), (.int 0 0), (.int 3 0), (.ref 222), (.bool true), (.int 273 0), (.ref 223), .none, (.ref 224), (.ref 225), (.ref 226), (.int 514 0), (.int 82 0), (.str "/claim/cut.py" 515)]), #[]⟩,
  ⟨(.type "function"), none, (.func (fd (sm 16 3) "__class_getitem__" "Container.__class_getitem__" 3 .none .none .none (.str "collections.abc" 312) (none) (.ref 227) .none 0)), #[]⟩,
  ⟨(.type "tuple"), none, (.seq #[] 0), #[]⟩,
  ⟨(.type "list"), none, (.seq #[] 0), #[]⟩,
  ⟨(.type "dict"), none, (.dict #[E P "__module__" 487 (.str "collections.abc" 312), E P "__firstlineno__" 491 (.int 70 490), E P "__slots__" 492 (.ref 207), E P "__contains__" 500 (.ref 214), E P "_abc_kind" 508 (.ref 221), E P "__class_getitem__" 516 (.ref 233), E P "__static_attributes__" 517 (.ref 229), E P "__doc__" 519 .none, E P "__abstractmethods__" 526 (.ref 236)] 3), #[]⟩,
  ⟨(.ref 89), none, (.cls ⟨"Container", [(.type "object")], [(.ref 232), (.type "object")], 231, "Container", false, [], [], true, none, false⟩), #[none, none, some (.str "Container" 480), some (.str "Container" 488), some (.builtin "object.__new__"), some (.bool false)]⟩,
  ⟨(.type "classmethod"), none, (.fields #[(.ref 228)]), #[]⟩,
  ⟨(.type "super"), none, (.fields #[(.ref 232), (.ref 232), (.ref 232)]), #[]⟩,
  ⟨(.type "builtin_function_or_method"), none, (.fields #[(.builtin "object.__init_subclass__"), (.ref 232)]), #[]⟩,
  ⟨(.type "tuple"), none, (.seq #[(.str "__contains__" 522)] 0), #[]⟩]
def U5_3 (P : Params) : Obj := ⟨(.type "dict"), none, (.dict #[E P "__name__" 165 (.str "collections.abc" 312), E P "__doc__" 166 .none, E P "__package__" 167 .none, E P "__loader__" 168 (.builtin "__main__.__loader__#opaque"), E P "__spec__" 169 .none, E P "__annotations__" 170 (.ref 6), E P "__builtins__" 171 (.ref 4), E P "__file__" 173 (.str "/claim/cut.py" 172), E P "__cached__" 174 .none, E P "deque" 272 (.type "collections.deque"), E P "_wall" 285 (.ref 39), E P "ABCMeta" 311 (.ref 56), E P "_ABCLike" 354 (.ref 89), E P "_abc_plain_meta" 361 (.ref 98), E P "_abc_has_iter" 368 (.ref 105), E P "_abc_has_len" 375 (.ref 112), E P "_abc_has_contains" 382 (.ref 119), E P "_abc_is_mappingproxy" 389 (.ref 126), E P "_abc_is_builtin_collection" 396 (.ref 133), E P "Iterable" 437 (.ref 166), E P "Sized" 474 (.ref 196), E P "Container" 521 (.ref 232)] 22), #[]⟩
def U5_30 (P : Params) : Obj := ⟨.none, none, (.fields #[(.int 2 0), (.int 0 0), (.ref 38), (.int 6 0), (.int 0 0), (.ref 45), (.int 11 0), (.int 0 0), (.ref 64), (.int 26 0), (.int 0 0), (.ref 97), (.int 29 0), (.int 0 0), (.ref 104), (.int 32 0), (.int 0 0), (.ref 111), (.int 35 0), (.int 0 0), (.ref 118), (.int 38 0), (.int 0 0), (.ref 125), (.int 40 0), (.int 0 0), (.ref 132), (.int 42 0), (.int 0 0), (.ref 139), (.int 58 0), (.int 0 0), (.ref 176), (.int 70 0), (.int 0 0), (.ref 205)]), #[]⟩
def T5 (P : Params) : List Obj := app (upd (upd (T4 P) 3 (U5_3 P)) 30 (U5_30 P)) (G5 P)
def G6 (P : Params) : List Obj := [
  ⟨(.type "tuple"), none, (.seq #[(.ref 196), (.ref 166), (.ref 232)] 0), #[]⟩,
  ⟨(.type "builtin_function_or_method"), none, (.fields #[(.builtin "type.__prepare__"), (.ref 89)]), #[]⟩,
  ⟨(.type "dict"), none, (.dict #[E P "__module__" 534 (.str "collections.abc" 312), E P "__qualname__" 536 (.str "Collection" 535), E P "__firstlineno__" 538 (.int 85 537), E P "__slots__" 539 (.ref 244), E P "_abc_kind" 547 (.ref 251), E P "__static_attributes__" 548 (.ref 252)] 6), #[]⟩,
  ⟨(.type "tuple"), none, (.seq #[] 0), #[]⟩,
  ⟨.none, none, (.fields #[(.int 88 0), (.int 4 0), (.ref 250)]), #[]⟩,
  ⟨(.type "code"), none, (.fields #[(.str "Collection" 529), (.str "Collection" 530), (.str "/claim/cut.py" 531), (.int 85 0), (.int 0 0), (.int 0 0), (.int 0 0), (.int 0 0), (.ref 240), (.bool false), (.int 273 0), (.ref 241), .none, .none, .none, .none, (.int 532 0), (.int 85 0), (.str "/claim/cut.py" 533)]), #[]⟩,
  ⟨(.type "frame"), none, .plain, #[some (.ref 242), some (.ref 3), some (.ref 239), none, some (.str "collections.abc" 312), none, some (.ref 0)]⟩,
  ⟨(.type "tuple"), none, (.seq #[] 0), #[]⟩,
  ⟨(.type "tuple"), none, (.seq #[] 0), #[]⟩,
  ⟨.none, none, (.fields #[]), #[]⟩,
  ⟨(.type "tuple"), none, (.seq #[(.str "cls" 543), (.str "C" 544)] 0), #[]⟩,
  ⟨(.type "tuple"), none, (.seq #[] 0), #[]⟩,
  ⟨.none, none, (.func (fd (sm 18 1) "_abc_kind" "Collection._abc_kind" 0 .none .none .none .none (none) .none .none 0)), #[]⟩,
  ⟨(.type "code"), none, (.fields #[(.str "_abc_kind" 540), (.str "Collection._abc_kind" 541), (.str "/claim/cut.py" 542), (.int 88 0), (.int 2 0), (.int 0 0), (.int 0 0), (.int 3 0), (.ref 245), (.bool true), (.int 273 0), (.ref 246), .none, (.ref 247), (.ref 248), (.ref 249), (.int 545 0), (.int 88 0), (.str "/claim/cut.py" 546)]), #[]⟩,
  ⟨(.type "function"), none, (.func (fd (sm 18 1) "_abc_kind" "Collection._abc_kind" 3 .none .none .none (.str "collections.abc" 312) (none) (.ref 250) .none 0)), #[]⟩,
  ⟨(.type "tuple"), none, (.seq #[] 0), #[]⟩,
  ⟨(.type "list"), none, (.seq #[] 0), #[]⟩,
  ⟨(.type "dict"), none, (.dict #[E P "__module__" 534 (.str "collections.abc" 312), E P "__firstlineno__" 538 (.int 85 537), E P "__slots__" 539 (.ref 244), E P "_abc_kind" 547 (.ref 251), E P "__static_attributes__" 548 (.ref 252), E P "__doc__" 549 .none, E P "__abstractmethods__" 558 (.ref 258)] 3), #[]⟩,
  ⟨(.ref 89), none, (.cls ⟨"Collection", [(.ref 196), (.ref 166), (.ref 232)], [(.ref 255), (.ref 196), (.ref 166), (.ref 232), (.type "object")], 254, "Collection", false, [], [], true, none, false⟩), #[some (.ref 237), none, some (.str "Collection" 527), some (.str "Collection" 535), some (.builtin "object.__new__"), some (.bool false)]⟩,
  ⟨(.type "super"), none, (.fields #[(.ref 255), (.ref 255), (.ref 255)]), #[]⟩,
  ⟨(.type "builtin_function_or_method"), none, (.fields #[(.builtin "object.__init_subclass__"), (.ref 255)]), #[]⟩,
  ⟨(.type "tuple"), none, (.seq #[(.str "__contains__" 552), (.str "__iter__" 553), (.str "__len__" 554)] 0), #[]⟩]
def U6_3 (P : Params) : Obj := ⟨(.type "dict"), none, (.dict #[E P "__name__" 165 (.str "collections.abc" 312), E P "__doc__" 166 .none, E P "__package__" 167 .none, E P "__loader__" 168 (.builtin "__main__.__loader__#opaque"), E P "__spec__" 169 .none, E P "__annotations__" 170 (.ref 6), E P "__builtins__" 171 (.ref 4), E P "__file__" 173 (.str "/claim/cut.py" 172), E P "__cached__" 174 .none, E P "deque" 272 (.type "collections.deque"), E P "_wall" 285 (.ref 39), E P "ABCMeta" 311 (.ref 56), E P "_ABCLike" 354 (.ref 89), E P "_abc_plain_meta" 361 (.ref 98), E P "_abc_has_iter" 368 (.ref 105), E P "_abc_has_len" 375 (.ref 112), E P "_abc_has_contains" 382 (.ref 119), E P "_abc_is_mappingproxy" 389 (.ref 126), E P "_abc_is_builtin_collection" 396 (.ref 133), E P "Iterable" 437 (.ref 166), E P "Sized" 474 (.ref 196), E P "Container" 521 (.ref 232), E P "Collection" 551 (.ref 255)] 23), #[]⟩
def U6_30 (P : Params) : Obj := ⟨.none, none, (.fields #[(.int 2 0), (.int 0 0), (.ref 38), (.int 6 0), (.int 0 0), (.ref 45), (.int 11 0), (.int 0 0), (.ref 64), (.int 26 0), (.int 0 0), (.ref 97), (.int 29 0), (.int 0 0), (.ref 104), (.int 32 0), (.int 0 0), (.ref 111), (.int 35 0), (.int 0 0), (.ref 118), (.int 38 0), (.int 0 0), (.ref 125), (.int 40 0), (.int 0 0), (.ref 132), (.int 42 0), (.int 0 0), (.ref 139), (.int 58 0), (.int 0 0), (.ref 176), (.int 70 0), (.int 0 0), (.ref 205), (.int 85 0), (.int 0 0), (.ref 242)]), #[]⟩
def U6_166 (P : Params) : Obj := ⟨(.ref 89), none, (.cls ⟨"Iterable", [(.type "object")], [(.ref 166), (.type "object")], 165, "Iterable", false, [], [(.ref 255)], true, none, false⟩), #[none, none, some (.str "Iterable" 397), some (.str "Iterable" 405), some (.builtin "object.__new__"), some (.bool false)]⟩
def U6_196 (P : Params) : Obj := ⟨(.ref 89), none, (.cls ⟨"Sized", [(.type "object")], [(.ref 196), (.type "object")], 195, "Sized", false, [], [(.ref 255)], true, none, false⟩), #[none, none, some (.str "Sized" 443), some (.str "Sized" 451), some (.builtin "object.__new__"), some (.bool false)]⟩
def U6_232 (P : Params) : Obj := ⟨(.ref 89), none, (.cls ⟨"Container", [(.type "object")], [(.ref 232), (.type "object")], 231, "Container", false, [], [(.ref 255)], true, none, false⟩), #[none, none, some (.str "Container" 480), some (.str "Container" 488), some (.builtin "object.__new__"), some (.bool false)]⟩
def T6 (P : Params) : List Obj := app (upd (upd (upd (upd (upd (T5 P) 3 (U6_3 P)) 30 (U6_30 P)) 166 (U6_166 P)) 196 (U6_196 P)) 232 (U6_232 P)) (G6 P)
def G7 (P : Params) : List Obj := [
  ⟨(.type "tuple"), none, (.seq #[(.ref 255)] 0), #[]⟩,
  ⟨(.type "builtin_function_or_method"), none, (.fields #[(.builtin "type.__prepare__"), (.ref 89)]), #[]⟩,
  ⟨(.type "dict"), none, (.dict #[E P "__module__" 566 (.str "collections.abc" 312), E P "__qualname__" 568 (.str "Set" 567), E P "__firstlineno__" 570 (.int 96 569), E P "__slots__" 571 (.ref 266), E P "__le__" 580 (.ref 273), E P "__lt__" 588 (.ref 280), E P "__gt__" 596 (.ref 287), E P "__ge__" 605 (.ref 294), E P "__eq__" 613 (.ref 301), E P "_from_iterable" 633 (.ref 310), E P "__and__" 642 (.ref 318), E P "__rand__" 643 (.ref 318), E P "isdisjoint" 651 (.ref 325), E P "__or__" 660 (.ref 332), E P "__ror__" 661 (.ref 332), E P "__sub__" 670 (.ref 339), E P "__rsub__" 679 (.ref 346), E P "__xor__" 687 (.ref 353), E P "__rxor__" 688 (.ref 353), E P "_hash" 695 (.ref 360), E P "_abc_kind" 703 (.ref 367), E P "__static_attributes__" 704 (.ref 368)] 22), #[]⟩,
  ⟨(.type "tuple"), none, (.seq #[] 0), #[]⟩,
  ⟨.none, none, (.fields #[(.int 99 0), (.int 4 0), (.ref 272), (.int 109 0), (.int 4 0), (.ref 279), (.int 114 0), (.int 4 0), (.ref 286), (.int 119 0), (.int 4 0), (.ref 293), (.int 129 0), (.int 4 0), (.ref 300), (.int 135 0), (.int 4 0), (.ref 307), (.int 138 0), (.int 4 0), (.ref 317), (.int 144 0), (.int 4 0), (.ref 324), (.int 147 0), (.int 4 0), (.ref 331), (.int 154 0), (.int 4 0), (.ref 338), (.int 161 0), (.int 4 0), (.ref 345), (.int 168 0), (.int 4 0), (.ref 352), (.int 176 0), (.int 4 0), (.ref 359), (.int 179 0), (.int 4 0), (.ref 366)]), #[]⟩,
  ⟨(.type "code"), none, (.fields #[(.str "Set" 561), (.str "Set" 562), (.str "/claim/cut.py" 563), (.int 96 0), (.int 0 0), (.int 0 0), (.int 0 0), (.int 0 0), (.ref 262), (.bool false), (.int 273 0), (.ref 263), .none, .none, .none, .none, (.int 564 0), (.int 96 0), (.str "/claim/cut.py" 565)]), #[]⟩,
  ⟨(.type "frame"), none, .plain, #[some (.ref 264), some (.ref 3), some (.ref 261), none, some (.str "collections.abc" 312), none, some (.ref 0)]⟩,
  ⟨(.type "tuple"), none, (.seq #[] 0), #[]⟩,
  ⟨(.type "tuple"), none, (.seq #[] 0), #[]⟩,
  ⟨.none, none, (.fields #[]), #[]⟩,
  ⟨(.type "tuple"), none, (.seq #[(.str "self" 575), (.str "other" 576), (.str "elem" 577)] 0), #[]⟩,
  ⟨(.type "tuple"), none, (.seq #[] 0), #[]⟩,
  ⟨.none, none, (.func (fd (sm 20 1) "__le__" "Set.__le__" 0 .none .none .none .none (none) .none .none 0)), #[]⟩,
  ⟨(.type "code"), none, (.fields #[(.str "__le__" 572), (.str "Set.__le__" 573), (.str "/claim/cut.py" 574), (.int 99 0), (.int 2 0), (.int 0 0), (.int 0 0), (.int 3 0), (.ref 267), (.bool true), (.int 273 0), (.ref 268), .none, (.ref 269), (.ref 270), (.ref 271), (.int 578 0), (.int 99 0), (.str "/claim/cut.py" 579)]), #[]⟩,
  ⟨(.type "function"), none, (.func (fd (sm 20 1) "__le__" "Set.__le__" 3 .none .none .none (.str "collections.abc" 312) (none) (.ref 272) .none 0)), #[]⟩,
  ⟨(.type "tuple"), none, (.seq #[] 0), #[]⟩,
  ⟨.none, none, (.fields #[]), #[]⟩,
  ⟨(.type "tuple"), none, (.seq #[(.str "self" 584), (.str "other" 585)] 0), #[]⟩,
  ⟨(.type "tuple"), none, (.seq #[] 0), #[]⟩,
  ⟨.none, none, (.func (fd (sm 20 2) "__lt__" "Set.__lt__" 0 .none .none .none .none (none) .none .none 0)), #[]⟩,
  ⟨(.type "code"), none, (.fields #[(.str "__lt__" 581), (.str "Set.__lt__" 582), (.str "/claim/cut.py" 583), (.int 109 0), (.int 2 0), (.int 0 0), (.int 0 0), (.int 3 0), (.ref 274), (.bool true), (.int 273 0), (.ref 275), .none, (.ref 276), (.ref 277), (.ref 278), (.int 586 0), (.int 109 0), (.str "/claim/cut.py" 587)]), #[]⟩,
  ⟨(.type "function"), none, (.func (fd (sm 20 2) "__lt__" "Set.__lt__" 3 .none .none .none (.str "collections.abc" 312) (none) (.ref 279) .none 0)), #[]⟩,
  ⟨(.type "tuple"), none, (.seq #[] 0), #[]⟩,
  ⟨.none, none, (.fields #[]), #[]⟩,
  ⟨(.type "tuple"), none, (.seq #[(.str "self" 592), (.str "other" 593)] 0), #[]⟩,
  ⟨(.type "tuple"), none, (.seq #[] 0), #[]⟩,
  ⟨.none, none, (.func (fd (sm 20 3) "__gt__" "Set.__gt__" 0 .none .none .none .none (none) .none .none 0)), #[]⟩,
  ⟨(.type "code"), none, (.fields #[(.str "__gt__" 589), (.str "Set.__gt__" 590), (.str "/claim/cut.py" 591), (.int 114 0), (.int 2 0), (.int 0 0), (.int 0 0), (.int 3 0), (.ref 281), (.bool true), (.int 273 0), (.ref 282), .none, (.ref 283), (.ref 284), (.ref 285), (.int 594 0), (.int 114 0), (.str "/claim/cut.py" 595)]), #[]⟩,
  ⟨(.type "function"), none, (.func (fd (sm 20 3) "__gt__" "Set.__gt__" 3 .none .none .none (.str "collections.abc" 312) (none) (.ref 286) .none 0)), #[]⟩,
  ⟨(.type "tuple"), none, (.seq #[] 0), #[]⟩,
  ⟨.none, none, (.fields #[]), #[]⟩,
  ⟨(.type "tuple"), none, (.seq #[(.str "self" 600), (.str "other" 601), (.str "elem" 602)] 0), #[]⟩,
  ⟨(.type "tuple"), none, (.seq #[] 0), #[]⟩,
  ⟨.none, none, (.func (fd (sm 20 4) "__ge__" "Set.__ge__" 0 .none .none .none .none (none) .none .none 0)), #[]⟩,
  ⟨(.type "code"), none, (.fields #[(.str "__ge__" 597), (.str "Set.__ge__" 598), (.str "/claim/cut.py" 599), (.int 119 0), (.int 2 0), (.int 0 0), (.int 0 0), (.int 3 0), (.ref 288), (.bool true), (.int 273 0), (.ref 289), .none, (.ref 290), (.ref 291), (.ref 292), (.int 603 0), (.int 119 0), (.str "/claim/cut.py" 604)]), #[]⟩,
  ⟨(.type "function"), none, (.func (fd (sm 20 4) "__ge__" "Set.__ge__" 3 .none .none .none (.str "collections.abc" 312) (none) (.ref 293) .none 0)), #[]⟩,
  ⟨(.type "tuple"), none, (.seq #[] 0), #[]⟩,
  ⟨.none, none, (.fields #[]), #[]⟩,
  ⟨(.type "tuple"), none, (.seq #[(.str "self" 609), (.str "other" 610)] 0), #[]⟩,
  ⟨(.type "tuple"), none, (.seq #[] 0), #[]⟩,
  ⟨.none, none, (.func (fd (sm 20 5) "__eq__" "Set.__eq__" 0 .none .none .none .none (none) .none .none 0)), #[]⟩,
  ⟨(.type "code"), none, (.fields #[(.str "__eq__" 606), (.str "Set.__eq__" 607), (.str "/claim/cut.py" 608), (.int 129 0), (.int 2 0), (.int 0 0), (.int 0 0), (.int 3 0), (.ref 295), (.bool true), (.int 273 0), (.ref 296), .none, (.ref 297), (.ref 298), (.ref 299), (.int 611 0), (.int 129 0), (.str "/claim/cut.py" 612)]), #[]⟩,
  ⟨(.type "function"), none, (.func (fd (sm 20 5) "__eq__" "Set.__eq__" 3 .none .none .none (.str "collections.abc" 312) (none) (.ref 300) .none 0)), #[]⟩,
  ⟨(.type "tuple"), none, (.seq #[] 0), #[]⟩,
  ⟨.none, none, (.fields #[]), #[]⟩,
  ⟨(.type "tuple"), none, (.seq #[(.str "cls" 617), (.str "it" 618)] 0), #[]⟩,
  ⟨(.type "tuple"), none, (.seq #[] 0), #[]⟩,
  ⟨.none, none, (.func (fd (sm 20 6) "_from_iterable" "Set._from_iterable" 0 .none .none .none .none (none) .none .none 0)), #[]⟩,
  ⟨(.type "code"), none, (.fields #[(.str "_from_iterable" 614), (.str "Set._from_iterable" 615), (.str "/claim/cut.py" 616), (.int 134 0), (.int 2 0), (.int 0 0), (.int 0 0), (.int 3 0), (.ref 302), (.bool true), (.int 273 0), (.ref 303), .none, (.ref 304), (.ref 305), (.ref 306), (.int 619 0), (.int 134 0), (.str "/claim/cut.py" 620)]), #[]⟩,
  ⟨(.type "function"), none, (.func (fd (sm 20 6) "_from_iterable" "Set._from_iterable" 3 .none .none .none (.str "collections.abc" 312) (some 311) (.ref 307) .none 0)), #[]⟩,
  ⟨(.type "dict"), none, (.dict #[E P "__module__" 622 (.str "collections.abc" 312), E P "__name__" 625 (.str "_from_iterable" 624), E P "__qualname__" 628 (.str "Set._from_iterable" 627), E P "__doc__" 630 .none, E P "__annotations__" 632 (.ref 311)] 5), #[]⟩,
  ⟨(.type "classmethod"), some 309, (.fields #[(.ref 308), (.bool false)]), #[]⟩,
  ⟨(.type "dict"), none, (.dict #[] 0), #[]⟩,
  ⟨(.type "tuple"), none, (.seq #[] 0), #[]⟩,
  ⟨.none, none, (.fields #[]), #[]⟩,
  ⟨(.type "tuple"), none, (.seq #[(.str "self" 637), (.str "other" 638)] 0), #[]⟩,
  ⟨(.type "tuple"), none, (.seq #[(.str "self" 639)] 0), #[]⟩,
  ⟨.none, none, (.func (fd (sm 20 7) "__and__" "Set.__and__" 0 .none .none .none .none (none) .none .none 0)), #[]⟩,
  ⟨(.type "code"), none, (.fields #[(.str "__and__" 634), (.str "Set.__and__" 635), (.str "/claim/cut.py" 636), (.int 138 0), (.int 2 0), (.int 0 0), (.int 0 0), (.int 3 0), (.ref 312), (.bool true), (.int 273 0), (.ref 313), .none, (.ref 314), (.ref 315), (.ref 316), (.int 640 0), (.int 138 0), (.str "/claim/cut.py" 641)]), #[]⟩,
  ⟨(.type "function"), none, (.func (fd (sm 20 7) "__and__" "Set.__and__" 3 .none .none .none (.str "collections.abc" 312) (none) (.ref 317) .none 0)), #[]⟩,
  ⟨(.type "tuple"), none, (.seq #[] 0), #[]⟩,
  ⟨.none, none, (.fields #[]), #[]⟩,
  ⟨(.type "tuple"), none, (.seq #[(.str "self" 647), (.str "other" 648)] 0), #[]⟩,
  ⟨(.type "tuple"), none, (.seq #[] 0), #[]⟩,
  ⟨.none, none, (.func (fd (sm 20 9) "isdisjoint" "Set.isdisjoint" 0 .none .none .none .none (none) .none .none 0)), #[]⟩,
  ⟨(.type "code"), none, (.fields #[(.str "isdisjoint" 644), (.str "Set.isdisjoint" 645), (.str "/claim/cut.py" 646), (.int 144 0), (.int 2 0), (.int 0 0), (.int 0 0), (.int 3 0), (.ref 319), (.bool true), (.int 273 0), (.ref 320), .none, (.ref 321), (.ref 322), (.ref 323), (.int 649 0), (.int 144 0), (.str "/claim/cut.py" 650)]), #[]⟩,
  ⟨(.type "function"), none, (.func (fd (sm 20 9) "isdisjoint" "Set.isdisjoint" 3 .none .none .none (.str "collections.abc" 312) (none) (.ref 324) .none 0)), #[]⟩,
  ⟨(.type "tuple"), none, (.seq #[] 0), #[]⟩,
  ⟨.none, none, (.fields #[]), #[]⟩,
  ⟨(.type "tuple"), none, (.seq #[(.str "self" 655), (.str "other" 656), (.str "chain" 657)] 0), #[]⟩,
  ⟨(.type "tuple"), none, (.seq #[] 0), #[]⟩,
  ⟨.none, none, (.func (fd (sm 20 10) "__or__" "Set.__or__" 0 .none .none .none .none (none) .none .none 0)), #[]⟩,
  ⟨(.type "code"), none, (.fields #[(.str "__or__" 652), (.str "Set.__or__" 653), (.str "/claim/cut.py" 654), (.int 147 0), (.int 2 0), (.int 0 0), (.int 0 0), (.int 3 0), (.ref 326), (.bool true), (.int 273 0), (.ref 327), .none, (.ref 328), (.ref 329), (.ref 330), (.int 658 0), (.int 147 0), (.str "/claim/cut.py" 659)]), #[]⟩,
  ⟨(.type "function"), none, (.func (fd (sm 20 10) "__or__" "Set.__or__" 3 .none .none .none (.str "collections.abc" 312) (none) (.ref 331) .none 0)), #[]⟩,
  ⟨(.type "tuple"), none, (.seq #[] 0), #[]⟩,
  ⟨.none, none, (.fields #[]), #[]⟩,
  ⟨(.type "tuple"), none, (.seq #[(.str "self" 665), (.str "other" 666)] 0), #[]⟩,
  ⟨(.type "tuple"), none, (.seq #[(.str "other" 667)] 0), #[]⟩,
  ⟨.none, none, (.func (fd (sm 20 12) "__sub__" "Set.__sub__" 0 .none .none .none .none (none) .none .none 0)), #[]⟩,
  ⟨(.type "code"), none, (.fields #[(.str "__sub__" 662), (.str "Set.__sub__" 663), (.str "/claim/cut.py" 664), (.int 154 0), (.int 2 0), (.int 0 0), (.int 0 0), (.int 3 0), (.ref 333), (.bool true), (.int 273 0), (.ref 334), .none, (.ref 335), (.ref 336), (.ref 337), (.int 668 0), (.int 154 0), (.str "/claim/cut.py" 669)]), #[]⟩,
  ⟨(.type "function"), none, (.func (fd (sm 20 12) "__sub__" "Set.__sub__" 3 .none .none .none (.str "collections.abc" 312) (none) (.ref 338) .none 0)), #[]⟩,
  ⟨(.type "tuple"), none, (.seq #[] 0), #[]⟩,
  ⟨.none, none, (.fields #[]), #[]⟩,
  ⟨(.type "tuple"), none, (.seq #[(.str "self" 674), (.str "other" 675)] 0), #[]⟩,
  ⟨(.type "tuple"), none, (.seq #[(.str "self" 676)] 0), #[]⟩,
  ⟨.none, none, (.func (fd (sm 20 13) "__rsub__" "Set.__rsub__" 0 .none .none .none .none (none) .none .none 0)), #[]⟩,
  ⟨(.type "code"), none, (.fields #[(.str "__rsub__" 671), (.str "Set.__rsub__" 672), (.str "/claim/cut.py" 673), (.int 161 0), (.int 2 0), (.int 0 0), (.int 0 0), (.int 3 0), (.ref 340), (.bool true), (.int 273 0), (.ref 341), .none, (.ref 342), (.ref 343), (.ref 344), (.int 677 0), (.int 161 0), (.str "/claim/cut.py" 678)]), #[]⟩,
  ⟨(.type "function"), none, (.func (fd (sm 20 13) "__rsub__" "Set.__rsub__" 3 .none .none .none (.str "collections.abc" 312) (none) (.ref 345) .none 0)), #[]⟩,
  ⟨(.type "tuple"), none, (.seq #[] 0), #[]⟩,
  ⟨.none, none, (.fields #[]), #[]⟩,
  ⟨(.type "tuple"), none, (.seq #[(.str "self" 683), (.str "other" 684)] 0), #[]⟩,
  ⟨(.type "tuple"), none, (.seq #[] 0), #[]⟩,
  ⟨.none, none, (.func (fd (sm 20 14) "__xor__" "Set.__xor__" 0 .none .none .none .none (none) .none .none 0)), #[]⟩,
  ⟨(.type "code"), none, (.fields #[(.str "__xor__" 680), (.str "Set.__xor__" 681), (.str "/claim/cut.py" 682), (.int 168 0), (.int 2 0), (.int 0 0), (.int 0 0), (.int 3 0), (.ref 347), (.bool true), (.int 273 0), (.ref 348), .none, (.ref 349), (.ref 350), (.ref 351), (.int 685 0), (.int 168 0), (.str "/claim/cut.py" 686)]), #[]⟩,
  ⟨(.type "function"), none, (.func (fd (sm 20 14) "__xor__" "Set.__xor__" 3 .none .none .none (.str "collections.abc" 312) (none) (.ref 352) .none 0)), #[]⟩,
  ⟨(.type "tuple"), none, (.seq #[] 0), #[]⟩,
  ⟨.none, none, (.fields #[]), #[]⟩,
  ⟨(.type "tuple"), none, (.seq #[(.str "self" 692)] 0), #[]⟩,
  ⟨(.type "tuple"), none, (.seq #[] 0), #[]⟩,
  ⟨.none, none, (.func (fd (sm 20 16) "_hash" "Set._hash" 0 .none .none .none .none (none) .none .none 0)), #[]⟩,
  ⟨(.type "code"), none, (.fields #[(.str "_hash" 689), (.str "Set._hash" 690), (.str "/claim/cut.py" 691), (.int 176 0), (.int 1 0), (.int 0 0), (.int 0 0), (.int 3 0), (.ref 354), (.bool true), (.int 273 0), (.ref 355), .none, (.ref 356), (.ref 357), (.ref 358), (.int 693 0), (.int 176 0), (.str "/claim/cut.py" 694)]), #[]⟩,
  ⟨(.type "function"), none, (.func (fd (sm 20 16) "_hash" "Set._hash" 3 .none .none .none (.str "collections.abc" 312) (none) (.ref 359) .none 0)), #[]⟩,
  ⟨(.type "tuple"), none, (.seq #[] 0), #[]⟩,
  ⟨.none, none, (.fields #[]), #[]⟩,
  ⟨(.type "tuple"), none, (.seq #[(.str "cls" 699), (.str "C" 700)] 0), #[]⟩,
  ⟨(.type "tuple"), none, (.seq #[] 0), #[]⟩,
  ⟨.none, none, (.func (fd (sm 20 17) "_abc_kind" "Set._abc_kind" 0 .none .none .none .none (none) .none .none 0)), #[]⟩,
  ⟨(.type "code"), none, (.fields #[(.str "_abc_kind" 696), (.str "Set._abc_kind" 697), (.str "/claim/cut.py" 698), (.int 179 0), (.int 2 0), (.int 0 0), (.int 0 0), (.int 3 0), (.ref 361), (.bool true), (.int 273 0), (.ref 362), .none, (.ref 363), (.ref 364), (.ref 365), (.int 701 0), (.int 179 0), (.str "/claim/cut.py" 702)]), #[]⟩,
  ⟨(.type "function"), none, (.func (fd (sm 20 17) "_abc_kind" "Set._abc_kind" 3 .none .none .none (.str "collections.abc" 312) (none) (.ref 366) .none 0)), #[]⟩,
  ⟨(.type "tuple"), none, (.seq #[] 0), #[]⟩,
  ⟨(.type "list"), none, (.seq #[] 0), #[]⟩,
  ⟨(.type "dict"), none, (.dict #[E P "__module__" 566 (.str "collections.abc" 312), E P "__firstlineno__" 570 (.int 96 569), E P "__slots__" 571 (.ref 266), E P "__le__" 580 (.ref 273), E P "__lt__" 588 (.ref 280), E P "__gt__" 596 (.ref 287), E P "__ge__" 605 (.ref 294), E P "__eq__" 613 (.ref 301), E P "_from_iterable" 633 (.ref 310), E P "__and__" 642 (.ref 318), E P "__rand__" 643 (.ref 318), E P "isdisjoint" 651 (.ref 325), E P "__or__" 660 (.ref 332), E P "__ror__" 661 (.ref 332), E P "__sub__" 670 (.ref 339), E P "__rsub__" 679 (.ref 346), E P "__xor__" 687 (.ref 353), E P "__rxor__" 688 (.ref 353), E P "_hash" 695 (.ref 360), E P "_abc_kind" 703 (.ref 367), E P "__static_attributes__" 704 (.ref 368), E P "__doc__" 705 .none, E P "__hash__" 706 .none] 3), #[]⟩,
  ⟨(.ref 89), none, (.cls ⟨"Set", [(.ref 255)], [(.ref 371), (.ref 255), (.ref 196), (.ref 166), (.ref 232), (.type "object")], 370, "Set", false, [], [], false, none, false⟩), #[some (.ref 259), none, some (.str "Set" 559), some (.str "Set" 567), some (.builtin "object.__new__"), some (.bool false)]⟩,
  ⟨(.type "super"), none, (.fields #[(.ref 371), (.ref 371), (.ref 371)]), #[]⟩,
  ⟨(.type "builtin_function_or_method"), none, (.fields #[(.builtin "object.__init_subclass__"), (.ref 371)]), #[]⟩]
def U7_3 (P : Params) : Obj := ⟨(.type "dict"), none, (.dict #[E P "__name__" 165 (.str "collections.abc" 312), E P "__doc__" 166 .none, E P "__package__" 167 .none, E P "__loader__" 168 (.builtin "__main__.__loader__#opaque"), E P "__spec__" 169 .none, E P "__annotations__" 170 (.ref 6), E P "__builtins__" 171 (.ref 4), E P "__file__" 173 (.str "/claim/cut.py" 172), E P "__cached__" 174 .none, E P "deque" 272 (.type "collections.deque"), E P "_wall" 285 (.ref 39), E P "ABCMeta" 311 (.ref 56), E P "_ABCLike" 354 (.ref 89), E P "_abc_plain_meta" 361 (.ref 98), E P "_abc_has_iter" 368 (.ref 105), E P "_abc_has_len" 375 (.ref 112), E P "_abc_has_contains" 382 (.ref 119), E P "_abc_is_mappingproxy" 389 (.ref 126), E P "_abc_is_builtin_collection" 396 (.ref 133), E P "Iterable" 437 (.ref 166), E P "Sized" 474 (.ref 196), E P "Container" 521 (.ref 232), E P "Collection" 551 (.ref 255), E P "Set" 708 (.ref 371)] 24), #[]⟩
def U7_30 (P : Params) : Obj := ⟨.none, none, (.fields #[(.int 2 0), (.int 0 0), (.ref 38), (.int 6 0), (.int 0 0), (.ref 45), (.int 11 0), (.int 0 0), (.ref 64), (.int 26 0), (.int 0 0), (.ref 97), (.int 29 0), (.int 0 0), (.ref 104), (.int 32 0), (.int 0 0), (.ref 111), (.int 35 0), (.int 0 0), (.ref 118), (.int 38 0), (.int 0 0), (.ref 125), (.int 40 0), (.int 0 0), (.ref 132), (.int 42 0), (.int 0 0), (.ref 139), (.int 58 0), (.int 0 0), (.ref 176), (.int 70 0), (.int 0 0), (.ref 205), (.int 85 0), (.int 0 0), (.ref 242), (.int 96 0), (.int 0 0), (.ref 264)]), #[]⟩
def U7_255 (P : Params) : Obj := ⟨(.ref 89), none, (.cls ⟨"Collection", [(.ref 196), (.ref 166), (.ref 232)], [(.ref 255), (.ref 196), (.ref 166), (.ref 232), (.type "object")], 254, "Collection", false, [], [(.ref 371)], true, none, false⟩), #[some (.ref 237), none, some (.str "Collection" 527), some (.str "Collection" 535), some (.builtin "object.__new__"), some (.bool false)]⟩
def T7 (P : Params) : List Obj := app (upd (upd (upd (T6 P) 3 (U7_3 P)) 30 (U7_30 P)) 255 (U7_255 P)) (G7 P)
def G8 (P : Params) : List Obj := [
  ⟨(.type "tuple"), none, (.seq #[(.str "__contains__" 709), (.str "__iter__" 710), (.str "__len__" 711)] 0), #[]⟩,
  ⟨(.type "tuple"), none, (.seq #[(.ref 255)] 0), #[]⟩,
  ⟨(.type "builtin_function_or_method"), none, (.fields #[(.builtin "type.__prepare__"), (.ref 89)]), #[]⟩,
  ⟨(.type "dict"), none, (.dict #[E P "__module__" 723 (.str "collections.abc" 312), E P "__qualname__" 725 (.str "Mapping" 724), E P "__firstlineno__" 727 (.int 185 726), E P "__slots__" 728 (.ref 382), E P "__getitem__" 736 (.ref 389), E P "get" 745 (.ref 397), E P "__contains__" 753 (.ref 404), E P "keys" 760 (.ref 411), E P "items" 767 (.ref 418), E P "values" 774 (.ref 425), E P "__eq__" 782 (.ref 432), E P "__reversed__" 783 .none, E P "_abc_kind" 791 (.ref 439), E P "__static_attributes__" 792 (.ref 440)] 14), #[]⟩,
  ⟨(.type "tuple"), none, (.seq #[] 0), #[]⟩,
  ⟨.none, none, (.fields #[(.int 188 0), (.int 4 0), (.ref 388), (.int 191 0), (.int 4 0), (.ref 396), (.int 197 0), (.int 4 0), (.ref 403), (.int 205 0), (.int 4 0), (.ref 410), (.int 208 0), (.int 4 0), (.ref 417), (.int 211 0), (.int 4 0), (.ref 424), (.int 214 0), (.int 4 0), (.ref 431), (.int 220 0), (.int 4 0), (.ref 438)]), #[]⟩,
  ⟨(.type "code"), none, (.fields #[(.str "Mapping" 718), (.str "Mapping" 719), (.str "/claim/cut.py" 720), (.int 185 0), (.int 0 0), (.int 0 0), (.int 0 0), (.int 0 0), (.ref 378), (.bool false), (.int 273 0), (.ref 379), .none, .none, .none, .none, (.int 721 0), (.int 185 0), (.str "/claim/cut.py" 722)]), #[]⟩,
  ⟨(.type "frame"), none, .plain, #[some (.ref 380), some (.ref 3), some (.ref 377), none, some (.str "collections.abc" 312), none, some (.ref 0)]⟩,
  ⟨(.type "tuple"), none, (.seq #[] 0), #[]⟩,
  ⟨(.type "tuple"), none, (.seq #[] 0), #[]⟩,
  ⟨.none, none, (.fields #[]), #[]⟩,
  ⟨(.type "tuple"), none, (.seq #[(.str "self" 732), (.str "key" 733)] 0), #[]⟩,
  ⟨(.type "tuple"), none, (.seq #[] 0), #[]⟩,
  ⟨.none, none, (.func (fd (sm 22 1) "__getitem__" "Mapping.__getitem__" 0 .none .none .none .none (none) .none .none 0)), #[]⟩,
  ⟨(.type "code"), none, (.fields #[(.str "__getitem__" 729), (.str "Mapping.__getitem__" 730), (.str "/claim/cut.py" 731), (.int 188 0), (.int 2 0), (.int 0 0), (.int 0 0), (.int 3 0), (.ref 383), (.bool true), (.int 273 0), (.ref 384), .none, (.ref 385), (.ref 386), (.ref 387), (.int 734 0), (.int 188 0), (.str "/claim/cut.py" 735)]), #[]⟩,
  ⟨(.type "function"), none, (.func (fd (sm 22 1) "__getitem__" "Mapping.__getitem__" 3 .none .none .none (.str "collections.abc" 312) (none) (.ref 388) .none 0)), #[]⟩,
  ⟨(.type "tuple"), none, (.seq #[.none] 0), #[]⟩,
  ⟨(.type "tuple"), none, (.seq #[] 0), #[]⟩,
  ⟨.none, none, (.fields #[]), #[]⟩,
  ⟨(.type "tuple"), none, (.seq #[(.str "self" 740), (.str "key" 741), (.str "default" 742)] 0), #[]⟩,
  ⟨(.type "tuple"), none, (.seq #[] 0), #[]⟩,
  ⟨.none, none, (.func (fd (sm 22 2) "get" "Mapping.get" 0 .none .none .none .none (none) .none .none 0)), #[]⟩,
  ⟨(.type "code"), none, (.fields #[(.str "get" 737), (.str "Mapping.get" 738), (.str "/claim/cut.py" 739), (.int 191 0), (.int 3 0), (.int 0 0), (.int 0 0), (.int 3 0), (.ref 391), (.bool true), (.int 273 0), (.ref 392), .none, (.ref 393), (.ref 394), (.ref 395), (.int 743 0), (.int 191 0), (.str "/claim/cut.py" 744)]), #[]⟩,
  ⟨(.type "function"), none, (.func (fd (sm 22 2) "get" "Mapping.get" 3 (.ref 390) .none .none (.str "collections.abc" 312) (none) (.ref 396) .none 0)), #[]⟩,
  ⟨(.type "tuple"), none, (.seq #[] 0), #[]⟩,
  ⟨.none, none, (.fields #[]), #[]⟩,
  ⟨(.type "tuple"), none, (.seq #[(.str "self" 749), (.str "key" 750)] 0), #[]⟩,
  ⟨(.type "tuple"), none, (.seq #[] 0), #[]⟩,
  ⟨.none, none, (.func (fd (sm 22 3) "__contains__" "Mapping.__contains__" 0 .none .none .none .none (none) .none .none 0)), #[]⟩,
  ⟨(.type "code"), none, (.fields #[(.str "__contains__" 746), (.str "Mapping.__contains__" 747), (.str "/claim/cut.py" 748), (.int 197 0), (.int 2 0), (.int 0 0), (.int 0 0), (.int 3 0), (.ref 398), (.bool true), (.int 273 0), (.ref 399), .none, (.ref 400), (.ref 401), (.ref 402), (.int 751 0), (.int 197 0), (.str "/claim/cut.py" 752)]), #[]⟩,
  ⟨(.type "function"), none, (.func (fd (sm 22 3) "__contains__" "Mapping.__contains__" 3 .none .none .none (.str "collections.abc" 312) (none) (.ref 403) .none 0)), #[]⟩,
  ⟨(.type "tuple"), none, (.seq #[] 0), #[]⟩,
  ⟨.none, none, (.fields #[]), #[]⟩,
  ⟨(.type "tuple"), none, (.seq #[(.str "self" 757)] 0), #[]⟩,
  ⟨(.type "tuple"), none, (.seq #[] 0), #[]⟩,
  ⟨.none, none, (.func (fd (sm 22 4) "keys" "Mapping.keys" 0 .none .none .none .none (none) .none .none 0)), #[]⟩,
  ⟨(.type "code"), none, (.fields #[(.str "keys" 754), (.str "Mapping.keys" 755), (.str "/claim/cut.py" 756), (.int 205 0), (.int 1 0), (.int 0 0), (.int 0 0), (.int 3 0), (.ref 405), (.bool true), (.int 273 0), (.ref 406), .none, (.ref 407), (.ref 408), (.ref 409), (.int 758 0), (.int 205 0), (.str "/claim/cut.py" 759)]), #[]⟩,
  ⟨(.type "function"), none, (.func (fd (sm 22 4) "keys" "Mapping.keys" 3 .none .none .none (.str "collections.abc" 312) (none) (.ref 410) .none 0)), #[]⟩,
  ⟨(.type "tuple"), none, (.seq #[] 0), #[]⟩,
  ⟨.none, none, (.fields #[]), #[]⟩,
  ⟨(.type "tuple"), none, (.seq #[(.str "self" 764)] 0), #[]⟩,
  ⟨(.type "tuple"), none, (.seq #[] 0), #[]⟩,
  ⟨.none, none, (.func (fd (sm 22 5) "items" "Mapping.items" 0 .none .none .none .none (none) .none .none 0)), #[]⟩,
  ⟨(.type "code"), none, (.fields #[(.str "items" 761), (.str "Mapping.items" 762), (.str "/claim/cut.py" 763), (.int 208 0), (.int 1 0), (.int 0 0), (.int 0 0), (.int 3 0), (.ref 412), (.bool true), (.int 273 0), (.ref 413), .none, (.ref 414), (.ref 415), (.ref 416), (.int 765 0), (.int 208 0), (.str "/claim/cut.py" 766)]), #[]⟩,
  ⟨(.type "function"), none, (.func (fd (sm 22 5) "items" "Mapping.items" 3 .none .none .none (.str "collections.abc" 312) (none) (.ref 417) .none 0)), #[]⟩,
  ⟨(.type "tuple"), none, (.seq #[] 0), #[]⟩,
  ⟨.none, none, (.fields #[]), #[]⟩,
  ⟨(.type "tuple"), none, (.seq #[(.str "self" 771)] 0), #[]⟩,
  ⟨(.type "tuple"), none, (.seq #[] 0), #[]⟩,
  ⟨.none, none, (.func (fd (sm 22 6) "values" "Mapping.values" 0 .none .none .none .none (none) .none .none 0)), #[]⟩,
  ⟨(.type "code"), none, (.fields #[(.str "values" 768), (.str "Mapping.values" 769), (.str "/claim/cut.py" 770), (.int 211 0), (.int 1 0), (.int 0 0), (.int 0 0), (.int 3 0), (.ref 419), (.bool true), (.int 273 0), (.ref 420), .none, (.ref 421), (.ref 422), (.ref 423), (.int 772 0), (.int 211 0), (.str "/claim/cut.py" 773)]), #[]⟩,
  ⟨(.type "function"), none, (.func (fd (sm 22 6) "values" "Mapping.values" 3 .none .none .none (.str "collections.abc" 312) (none) (.ref 424) .none 0)), #[]⟩,
  ⟨(.type "tuple"), none, (.seq #[] 0), #[]⟩,
  ⟨.none, none, (.fields #[]), #[]⟩,
  ⟨(.type "tuple"), none, (.seq #[(.str "self" 778), (.str "other" 779)] 0), #[]⟩,
  ⟨(.type "tuple"), none, (.seq #[] 0), #[]⟩,
  ⟨.none, none, (.func (fd (sm 22 7) "__eq__" "Mapping.__eq__" 0 .none .none .none .none (none) .none .none 0)), #[]⟩,
  ⟨(.type "code"), none, (.fields #[(.str "__eq__" 775), (.str "Mapping.__eq__" 776), (.str "/claim/cut.py" 777), (.int 214 0), (.int 2 0), (.int 0 0), (.int 0 0), (.int 3 0), (.ref 426), (.bool true), (.int 273 0), (.ref 427), .none, (.ref 428), (.ref 429), (.ref 430), (.int 780 0), (.int 214 0), (.str "/claim/cut.py" 781)]), #[]⟩,
  ⟨(.type "function"), none, (.func (fd (sm 22 7) "__eq__" "Mapping.__eq__" 3 .none .none .none (.str "collections.abc" 312) (none) (.ref 431) .none 0)), #[]⟩,
  ⟨(.type "tuple"), none, (.seq #[] 0), #[]⟩,
  ⟨.none, none, (.fields #[]), #[]⟩,
  ⟨(.type "tuple"), none, (.seq #[(.str "cls" 787), (.str "C" 788)] 0), #[]⟩,
  ⟨(.type "tuple"), none, (.seq #[] 0), #[]⟩,
  ⟨.none, none, (.func (fd (sm 22 9) "_abc_kind" "Mapping._abc_kind" 0 .none .none .none .none (none) .none .none 0)), #[]⟩,
  ⟨(.type "code"), none, (.fields #[(.str "_abc_kind" 784), (.str "Mapping._abc_kind" 785), (.str "/claim/cut.py" 786), (.int 220 0), (.int 2 0), (.int 0 0), (.int 0 0), (.int 3 0), (.ref 433), (.bool true), (.int 273 0), (.ref 434), .none, (.ref 435), (.ref 436), (.ref 437), (.int 789 0), (.int 220 0), (.str "/claim/cut.py" 790)]), #[]⟩,
  ⟨(.type "function"), none, (.func (fd (sm 22 9) "_abc_kind" "Mapping._abc_kind" 3 .none .none .none (.str "collections.abc" 312) (none) (.ref 438) .none 0)), #[]⟩,
  ⟨(.type "tuple"), none, (.seq #[] 0), #[]⟩,
  ⟨(.type "list"), none, (.seq #[] 0), #[]⟩,
  ⟨(.type "dict"), none, (.dict #[E P "__module__" 723 (.str "collections.abc" 312), E P "__firstlineno__" 727 (.int 185 726), E P "__slots__" 728 (.ref 382), E P "__getitem__" 736 (.ref 389), E P "get" 745 (.ref 397), E P "__contains__" 753 (.ref 404), E P "keys" 760 (.ref 411), E P "items" 767 (.ref 418), E P "values" 774 (.ref 425), E P "__eq__" 782 (.ref 432), E P "__reversed__" 783 .none, E P "_abc_kind" 791 (.ref 439), E P "__static_attributes__" 792 (.ref 440), E P "__doc__" 793 .none, E P "__hash__" 794 .none] 3), #[]⟩,
  ⟨(.ref 89), none, (.cls ⟨"Mapping", [(.ref 255)], [(.ref 443), (.ref 255), (.ref 196), (.ref 166), (.ref 232), (.type "object")], 442, "Mapping", false, [], [], false, none, false⟩), #[some (.ref 375), none, some (.str "Mapping" 716), some (.str "Mapping" 724), some (.builtin "object.__new__"), some (.bool false)]⟩,
  ⟨(.type "super"), none, (.fields #[(.ref 443), (.ref 443), (.ref 443)]), #[]⟩,
  ⟨(.type "builtin_function_or_method"), none, (.fields #[(.builtin "object.__init_subclass__"), (.ref 443)]), #[]⟩]
def U8_3 (P : Params) : Obj := ⟨(.type "dict"), none, (.dict #[E P "__name__" 165 (.str "collections.abc" 312), E P "__doc__" 166 .none, E P "__package__" 167 .none, E P "__loader__" 168 (.builtin "__main__.__loader__#opaque"), E P "__spec__" 169 .none, E P "__annotations__" 170 (.ref 6), E P "__builtins__" 171 (.ref 4), E P "__file__" 173 (.str "/claim/cut.py" 172), E P "__cached__" 174 .none, E P "deque" 272 (.type "collections.deque"), E P "_wall" 285 (.ref 39), E P "ABCMeta" 311 (.ref 56), E P "_ABCLike" 354 (.ref 89), E P "_abc_plain_meta" 361 (.ref 98), E P "_abc_has_iter" 368 (.ref 105), E P "_abc_has_len" 375 (.ref 112), E P "_abc_has_contains" 382 (.ref 119), E P "_abc_is_mappingproxy" 389 (.ref 126), E P "_abc_is_builtin_collection" 396 (.ref 133), E P "Iterable" 437 (.ref 166), E P "Sized" 474 (.ref 196), E P "Container" 521 (.ref 232), E P "Collection" 551 (.ref 255), E P "Set" 708 (.ref 371), E P "Mapping" 796 (.ref 443)] 25), #[]⟩
def U8_30 (P : Params) : Obj := ⟨.none, none, (.fields #[(.int 2 0), (.int 0 0), (.ref 38), (.int 6 0), (.int 0 0), (.ref 45), (.int 11 0), (.int 0 0), (.ref 64), (.int 26 0), (.int 0 0), (.ref 97), (.int 29 0), (.int 0 0), (.ref 104), (.int 32 0), (.int 0 0), (.ref 111), (.int 35 0), (.int 0 0), (.ref 118), (.int 38 0), (.int 0 0), (.ref 125), (.int 40 0), (.int 0 0), (.ref 132), (.int 42 0), (.int 0 0), (.ref 139), (.int 58 0), (.int 0 0), (.ref 176), (.int 70 0), (.int 0 0), (.ref 205), (.int 85 0), (.int 0 0), (.ref 242), (.int 96 0), (.int 0 0), (.ref 264), (.int 185 0), (.int 0 0), (.ref 380)]), #[]⟩
def U8_255 (P : Params) : Obj := ⟨(.ref 89), none, (.cls ⟨"Collection", [(.ref 196), (.ref 166), (.ref 232)], [(.ref 255), (.ref 196), (.ref 166), (.ref 232), (.type "object")], 254, "Collection", false, [], [(.ref 371), (.ref 443)], true, none, false⟩), #[some (.ref 237), none, some (.str "Collection" 527), some (.str "Collection" 535), some (.builtin "object.__new__"), some (.bool false)]⟩
def U8_370 (P : Params) : Obj := ⟨(.type "dict"), none, (.dict #[E P "__module__" 566 (.str "collections.abc" 312), E P "__firstlineno__" 570 (.int 96 569), E P "__slots__" 571 (.ref 266), E P "__le__" 580 (.ref 273), E P "__lt__" 588 (.ref 280), E P "__gt__" 596 (.ref 287), E P "__ge__" 605 (.ref 294), E P "__eq__" 613 (.ref 301), E P "_from_iterable" 633 (.ref 310), E P "__and__" 642 (.ref 318), E P "__rand__" 643 (.ref 318), E P "isdisjoint" 651 (.ref 325), E P "__or__" 660 (.ref 332), E P "__ror__" 661 (.ref 332), E P "__sub__" 670 (.ref 339), E P "__rsub__" 679 (.ref 346), E P "__xor__" 687 (.ref 353), E P "__rxor__" 688 (.ref 353), E P "_hash" 695 (.ref 360), E P "_abc_kind" 703 (.ref 367), E P "__static_attributes__" 704 (.ref 368), E P "__doc__" 705 .none, E P "__hash__" 706 .none, E P "__abstractmethods__" 715 (.ref 374)] 4), #[]⟩
def U8_371 (P : Params) : Obj := ⟨(.ref 89), none, (.cls ⟨"Set", [(.ref 255)], [(.ref 371), (.ref 255), (.ref 196), (.ref 166), (.ref 232), (.type "object")], 370, "Set", false, [], [], true, none, false⟩), #[some (.ref 259), none, some (.str "Set" 559), some (.str "Set" 567), some (.builtin "object.__new__"), some (.bool false)]⟩
def T8 (P : Params) : List Obj := app (upd (upd (upd (upd (upd (T7 P) 3 (U8_3 P)) 30 (U8_30 P)) 255 (U8_255 P)) 370 (U8_370 P)) 371 (U8_371 P)) (G8 P)
def G9 (P : Params) : List Obj := [
  ⟨(.type "tuple"), none, (.seq #[(.str "__getitem__" 797), (.str "__iter__" 798), (.str "__len__" 799)] 0), #[]⟩,
  ⟨(.type "tuple"), none, (.seq #[(.ref 196)] 0), #[]⟩,
  ⟨(.type "builtin_function_or_method"), none, (.fields #[(.builtin "type.__prepare__"), (.ref 89)]), #[]⟩,
  ⟨(.type "dict"), none, (.dict #[E P "__module__" 811 (.str "collections.abc" 312), E P "__qualname__" 813 (.str "MappingView" 812), E P "__firstlineno__" 815 (.int 226 814), E P "__slots__" 817 (.ref 454), E P "__init__" 825 (.ref 461), E P "__len__" 832 (.ref 468), E P "__repr__" 840 (.ref 475), E P "_abc_kind" 848 (.ref 482), E P "__class_getitem__" 856 (.ref 489), E P "__static_attributes__" 858 (.ref 490)] 10), #[]⟩,
  ⟨(.type "tuple"), none, (.seq #[] 0), #[]⟩,
  ⟨.none, none, (.fields #[(.int 229 0), (.int 4 0), (.ref 460), (.int 232 0), (.int 4 0), (.ref 467), (.int 235 0), (.int 4 0), (.ref 474), (.int 239 0), (.int 4 0), (.ref 481), (.int 245 0), (.int 4 0), (.ref 488)]), #[]⟩,
  ⟨(.type "code"), none, (.fields #[(.str "MappingView" 806), (.str "MappingView" 807), (.str "/claim/cut.py" 808), (.int 226 0), (.int 0 0), (.int 0 0), (.int 0 0), (.int 0 0), (.ref 450), (.bool false), (.int 273 0), (.ref 451), .none, .none, .none, .none, (.int 809 0), (.int 226 0), (.str "/claim/cut.py" 810)]), #[]⟩,
  ⟨(.type "frame"), none, .plain, #[some (.ref 452), some (.ref 3), some (.ref 449), none, some (.str "collections.abc" 312), none, some (.ref 0)]⟩,
  ⟨(.type "tuple"), none, (.seq #[(.str "_mapping" 816)] 0), #[]⟩,
  ⟨(.type "tuple"), none, (.seq #[] 0), #[]⟩,
  ⟨.none, none, (.fields #[]), #[]⟩,
  ⟨(.type "tuple"), none, (.seq #[(.str "self" 821), (.str "mapping" 822)] 0), #[]⟩,
  ⟨(.type "tuple"), none, (.seq #[] 0), #[]⟩,
  ⟨.none, none, (.func (fd (sm 24 1) "__init__" "MappingView.__init__" 0 .none .none .none .none (none) .none .none 0)), #[]⟩,
  ⟨(.type "code"), none, (.fields #[(.str "__init__" 818), (.str "MappingView.__init__" 819), (.str "/claim/cut.py" 820), (.int 229 0), (.int 2 0), (.int 0 0), (.int 0 0), (.int 3 0), (.ref 455), (.bool true), (.int 273 0), (.ref 456), .none, (.ref 457), (.ref 458), (.ref 459), (.int 823 0), (.int 229 0), (.str "/claim/cut.py" 824)]), #[]⟩,
  ⟨(.type "function"), none, (.func (fd (sm 24 1) "__init__" "MappingView.__init__" 3 .none .none .none (.str "collections.abc" 312) (none) (.ref 460) .none 0)), #[]⟩,
  ⟨(.type "tuple"), none, (.seq #[] 0), #[]⟩,
  ⟨.none, none, (.fields #[]), #[]⟩,
  ⟨(.type "tuple"), none, (.seq #[(.str "self" 829)] 0), #[]⟩,
  ⟨(.type "tuple"), none, (.seq #[] 0), #[]⟩,
  ⟨.none, none, (.func (fd (sm 24 2) "__len__" "MappingView.__len__" 0 .none .none .none .none (none) .none .none 0)), #[]⟩,
  ⟨(.type "code"), none, (.fields #[(.str "__len__" 826), (.str "MappingView.__len__" 827), (.str "/claim/cut.py" 828), (.int 232 0), (.int 1 0), (.int 0 0), (.int 0 0), (.int 3 0), (.ref 462), (.bool true), (.int 273 0), (.ref 463), .none, (.ref 464), (.ref 465), (.ref 466), (.int 830 0), (.int 232 0), (.str "/claim/cut.py" 831)]), #[]⟩,
  ⟨(.type "function"), none, (.func (fd (sm 24 2) "__len__" "MappingView.__len__" 3 .none .none .none (.str "collections.abc" 312) (none) (.ref 467) .none 0)), #[]⟩,
  ⟨(.type "tuple"), none, (.seq #[] 0), #[]⟩,
  ⟨.none, none, (.fields #[]), #[]⟩,
  ⟨(.type "tuple"), none, (.seq #[(.str "self" 836), (.str "name" 837)] 0), #[]⟩,
  ⟨(.type "tuple"), none, (.seq #[] 0), #[]⟩,
  ⟨.none, none, (.func (fd (sm 24 3) "__repr__" "MappingView.__repr__" 0 .none .none .none .none (none) .none .none 0)), #[]⟩,
  ⟨(.type "code"), none, (.fields #[(.str "__repr__" 833), (.str "MappingView.__repr__" 834), (.str "/claim/cut.py" 835), (.int 235 0), (.int 1 0), (.int 0 0), (.int 0 0), (.int 3 0), (.ref 469), (.bool true), (.int 273 0), (.ref 470), .none, (.ref 471), (.ref 472), (.ref 473), (.int 838 0), (.int 235 0), (.str "/claim/cut.py" 839)]), #[]⟩,
  ⟨(.type "function"), none, (.func (fd (sm 24 3) "__repr__" "MappingView.__repr__" 3 .none .none .none (.str "collections.abc" 312) (none) (.ref 474) .none 0)), #[]⟩,
  ⟨(.type "tuple"), none, (.seq #[] 0), #[]⟩,
  ⟨.none, none, (.fields #[]), #[]⟩,
  ⟨(.type "tuple"), none, (.seq #[(.str "cls" 844), (.str "C" 845)] 0), #[]⟩,
  ⟨(.type "tuple"), none, (.seq #[] 0), #[]⟩,
  ⟨.none, none, (.func (fd (sm 24 4) "_abc_kind" "MappingView._abc_kind" 0 .none .none .none .none (none) .none .none 0)), #[]⟩,
  ⟨(.type "code"), none, (.fields #[(.str "_abc_kind" 841), (.str "MappingView._abc_kind" 842), (.str "/claim/cut.py" 843), (.int 239 0), (.int 2 0), (.int 0 0), (.int 0 0), (.int 3 0), (.ref 476), (.bool true), (.int 273 0), (.ref 477), .none, (.ref 478), (.ref 479), (.ref 480), (.int 846 0), (.int 239 0), (.str "/claim/cut.py" 847)]), #[]⟩,
  ⟨(.type "function"), none, (.func (fd (sm 24 4) "_abc_kind" "MappingView._abc_kind" 3 .none .none .none (.str "collections.abc" 312) (none) (.ref 481) .none 0)), #[]⟩,
  ⟨(.type "tuple"), none, (.seq #[] 0), #[]⟩,
  ⟨.none, none, (.fields #[]), #[]⟩,
  ⟨(.type "tuple"), none, (.seq #[(.str "cls" 852), (.str "item" 853)] 0), #[]⟩,
  ⟨(.type "tuple"), none, (.seq #[] 0), #[]⟩,
  ⟨.none, none, (.func (fd (sm 24 5) "__class_getitem__" "MappingView.__class_getitem__" 0 .none .none .none .none (none) .none .none 0)), #[]⟩,
  ⟨(.type "code"), none, (.fields #[(.str "__class_getitem__" 849), (.str "MappingView.__class_getitem__" 850), (.str "/claim/cut.py" 851), (.int 245 0), (.int 2 0), (.int 0 0), (.int 0 0), (.int 3 0), (.ref 483), (.bool true), (.int 273 0), (.ref 484), .none, (.ref 485), (.ref 486), (.ref 487), (.int 854 0), (.int 245 0), (.str "/claim/cut.py" 855)]), #[]⟩,
  ⟨(.type "function"), none, (.func (fd (sm 24 5) "__class_getitem__" "MappingView.__class_getitem__" 3 .none .none .none (.str "collections.abc" 312) (none) (.ref 488) .none 0)), #[]⟩,
  ⟨(.type "tuple"), none, (.seq #[(.str "_mapping" 857)] 0), #[]⟩,
  ⟨(.type "list"), none, (.seq #[(.str "_mapping" 816)] 1), #[]⟩,
  ⟨(.type "dict"), none, (.dict #[E P "__module__" 811 (.str "collections.abc" 312), E P "__firstlineno__" 815 (.int 226 814), E P "__slots__" 817 (.ref 454), E P "__init__" 825 (.ref 461), E P "__len__" 832 (.ref 468), E P "__repr__" 840 (.ref 475), E P "_abc_kind" 848 (.ref 482), E P "__class_getitem__" 856 (.ref 494), E P "__static_attributes__" 858 (.ref 490), E P "_mapping" 861 (.ref 495), E P "__doc__" 862 .none] 3), #[]⟩,
  ⟨(.ref 89), none, (.cls ⟨"MappingView", [(.ref 196)], [(.ref 493), (.ref 196), (.type "object")], 492, "MappingView", false, ["_mapping"], [], false, none, false⟩), #[some (.ref 447), none, some (.str "MappingView" 804), some (.str "MappingView" 812), some (.builtin "object.__new__"), some (.bool false)]⟩,
  ⟨(.type "classmethod"), none, (.fields #[(.ref 489)]), #[]⟩,
  ⟨(.type "member_descriptor"), none, (.fields #[(.str "_mapping" 860), (.ref 493), (.builtin "proto.slot"), (.builtin "proto.slot#set"), (.int 0 0)]), #[]⟩,
  ⟨(.type "super"), none, (.fields #[(.ref 493), (.ref 493), (.ref 493)]), #[]⟩,
  ⟨(.type "builtin_function_or_method"), none, (.fields #[(.builtin "object.__init_subclass__"), (.ref 493)]), #[]⟩]
def U9_3 (P : Params) : Obj := ⟨(.type "dict"), none, (.dict #[E P "__name__" 165 (.str "collections.abc" 312), E P "__doc__" 166 .none, E P "__package__" 167 .none, E P "__loader__" 168 (.builtin "__main__.__loader__#opaque"), E P "__spec__" 169 .none, E P "__annotations__" 170 (.ref 6), E P "__builtins__" 171 (.ref 4), E P "__file__" 173 (.str "/claim/cut.py" 172), E P "__cached__" 174 .none, E P "deque" 272 (.type "collections.deque"), E P "_wall" 285 (.ref 39), E P "ABCMeta" 311 (.ref 56), E P "_ABCLike" 354 (.ref 89), E P "_abc_plain_meta" 361 (.ref 98), E P "_abc_has_iter" 368 (.ref 105), E P "_abc_has_len" 375 (.ref 112), E P "_abc_has_contains" 382 (.ref 119), E P "_abc_is_mappingproxy" 389 (.ref 126), E P "_abc_is_builtin_collection" 396 (.ref 133), E P "Iterable" 437 (.ref 166), E P "Sized" 474 (.ref 196), E P "Container" 521 (.ref 232), E P "Collection" 551 (.ref 255), E P "Set" 708 (.ref 371), E P "Mapping" 796 (.ref 443), E P "MappingView" 864 (.ref 493)] 26), #[]⟩
def U9_30 (P : Params) : Obj := ⟨.none, none, (.fields #[(.int 2 0), (.int 0 0), (.ref 38), (.int 6 0), (.int 0 0), (.ref 45), (.int 11 0), (.int 0 0), (.ref 64), (.int 26 0), (.int 0 0), (.ref 97), (.int 29 0), (.int 0 0), (.ref 104), (.int 32 0), (.int 0 0), (.ref 111), (.int 35 0), (.int 0 0), (.ref 118), (.int 38 0), (.int 0 0), (.ref 125), (.int 40 0), (.int 0 0), (.ref 132), (.int 42 0), (.int 0 0), (.ref 139), (.int 58 0), (.int 0 0), (.ref 176), (.int 70 0), (.int 0 0), (.ref 205), (.int 85 0), (.int 0 0), (.ref 242), (.int 96 0), (.int 0 0), (.ref 264), (.int 185 0), (.int 0 0), (.ref 380), (.int 226 0), (.int 0 0), (.ref 452)]), #[]⟩
def U9_196 (P : Params) : Obj := ⟨(.ref 89), none, (.cls ⟨"Sized", [(.type "object")], [(.ref 196), (.type "object")], 195, "Sized", false, [], [(.ref 255), (.ref 493)], true, none, false⟩), #[none, none, some (.str "Sized" 443), some (.str "Sized" 451), some (.builtin "object.__new__"), some (.bool false)]⟩
def U9_442 (P : Params) : Obj := ⟨(.type "dict"), none, (.dict #[E P "__module__" 723 (.str "collections.abc" 312), E P "__firstlineno__" 727 (.int 185 726), E P "__slots__" 728 (.ref 382), E P "__getitem__" 736 (.ref 389), E P "get" 745 (.ref 397), E P "__contains__" 753 (.ref 404), E P "keys" 760 (.ref 411), E P "items" 767 (.ref 418), E P "values" 774 (.ref 425), E P "__eq__" 782 (.ref 432), E P "__reversed__" 783 .none, E P "_abc_kind" 791 (.ref 439), E P "__static_attributes__" 792 (.ref 440), E P "__doc__" 793 .none, E P "__hash__" 794 .none, E P "__abstractmethods__" 803 (.ref 446)] 4), #[]⟩
def U9_443 (P : Params) : Obj := ⟨(.ref 89), none, (.cls ⟨"Mapping", [(.ref 255)], [(.ref 443), (.ref 255), (.ref 196), (.ref 166), (.ref 232), (.type "object")], 442, "Mapping", false, [], [], true, none, false⟩), #[some (.ref 375), none, some (.str "Mapping" 716), some (.str "Mapping" 724), some (.builtin "object.__new__"), some (.bool false)]⟩
def T9 (P : Params) : List Obj := app (upd (upd (upd (upd (upd (T8 P) 3 (U9_3 P)) 30 (U9_30 P)) 196 (U9_196 P)) 442 (U9_442 P)) 443 (U9_443 P)) (G9 P)
def G10 (P : Params) : List Obj := [
  ⟨(.type "tuple"), none, (.seq #[(.ref 493), (.ref 371)] 0), #[]⟩,
  ⟨(.type "builtin_function_or_method"), none, (.fields #[(.builtin "type.__prepare__"), (.ref 89)]), #[]⟩,
  ⟨(.type "dict"), none, (.dict #[E P "__module__" 872 (.str "collections.abc" 312), E P "__qualname__" 874 (.str "KeysView" 873), E P "__firstlineno__" 876 (.int 247 875), E P "__slots__" 877 (.ref 505), E P "_from_iterable" 897 (.ref 514), E P "__contains__" 905 (.ref 522), E P "__iter__" 912 (.ref 529), E P "_abc_kind" 920 (.ref 536), E P "__static_attributes__" 921 (.ref 537)] 9), #[]⟩,
  ⟨(.type "tuple"), none, (.seq #[] 0), #[]⟩,
  ⟨.none, none, (.fields #[(.int 251 0), (.int 4 0), (.ref 511), (.int 254 0), (.int 4 0), (.ref 521), (.int 257 0), (.int 4 0), (.ref 528), (.int 260 0), (.int 4 0), (.ref 535)]), #[]⟩,
  ⟨(.type "code"), none, (.fields #[(.str "KeysView" 867), (.str "KeysView" 868), (.str "/claim/cut.py" 869), (.int 247 0), (.int 0 0), (.int 0 0), (.int 0 0), (.int 0 0), (.ref 501), (.bool false), (.int 273 0), (.ref 502), .none, .none, .none, .none, (.int 870 0), (.int 247 0), (.str "/claim/cut.py" 871)]), #[]⟩,
  ⟨(.type "frame"), none, .plain, #[some (.ref 503), some (.ref 3), some (.ref 500), none, some (.str "collections.abc" 312), none, some (.ref 0)]⟩,
  ⟨(.type "tuple"), none, (.seq #[] 0), #[]⟩,
  ⟨(.type "tuple"), none, (.seq #[] 0), #[]⟩,
  ⟨.none, none, (.fields #[]), #[]⟩,
  ⟨(.type "tuple"), none, (.seq #[(.str "cls" 881), (.str "it" 882)] 0), #[]⟩,
  ⟨(.type "tuple"), none, (.seq #[] 0), #[]⟩,
  ⟨.none, none, (.func (fd (sm 25 1) "_from_iterable" "KeysView._from_iterable" 0 .none .none .none .none (none) .none .none 0)), #[]⟩,
  ⟨(.type "code"), none, (.fields #[(.str "_from_iterable" 878), (.str "KeysView._from_iterable" 879), (.str "/claim/cut.py" 880), (.int 250 0), (.int 2 0), (.int 0 0), (.int 0 0), (.int 3 0), (.ref 506), (.bool true), (.int 273 0), (.ref 507), .none, (.ref 508), (.ref 509), (.ref 510), (.int 883 0), (.int 250 0), (.str "/claim/cut.py" 884)]), #[]⟩,
  ⟨(.type "function"), none, (.func (fd (sm 25 1) "_from_iterable" "KeysView._from_iterable" 3 .none .none .none (.str "collections.abc" 312) (some 515) (.ref 511) .none 0)), #[]⟩,
  ⟨(.type "dict"), none, (.dict #[E P "__module__" 886 (.str "collections.abc" 312), E P "__name__" 889 (.str "_from_iterable" 888), E P "__qualname__" 892 (.str "KeysView._from_iterable" 891), E P "__doc__" 894 .none, E P "__annotations__" 896 (.ref 515)] 5), #[]⟩,
  ⟨(.type "classmethod"), some 513, (.fields #[(.ref 512), (.bool false)]), #[]⟩,
  ⟨(.type "dict"), none, (.dict #[] 0), #[]⟩,
  ⟨(.type "tuple"), none, (.seq #[] 0), #[]⟩,
  ⟨.none, none, (.fields #[]), #[]⟩,
  ⟨(.type "tuple"), none, (.seq #[(.str "self" 901), (.str "key" 902)] 0), #[]⟩,
  ⟨(.type "tuple"), none, (.seq #[] 0), #[]⟩,
  ⟨.none, none, (.func (fd (sm 25 2) "__contains__" "KeysView.__contains__" 0 .none .none .none .none (none) .none .none 0)), #[]⟩,
  ⟨(.type "code"), none, (.fields #[(.str "__contains__" 898), (.str "KeysView.__contains__" 899), (.str "/claim/cut.py" 900), (.int 254 0), (.int 2 0), (.int 0 0), (.int 0 0), (.int 3 0), (.ref 516), (.bool true), (.int 273 0), (.ref 517), .none, (.ref 518), (.ref 519), (.ref 520), (.int 903 0), (.int 254 0), (.str "/claim/cut.py" 904)]), #[]⟩,
  ⟨(.type "function"), none, (.func (fd (sm 25 2) "__contains__" "KeysView.__contains__" 3 .none .none .none (.str "collections.abc" 312) (none) (.ref 521) .none 0)), #[]⟩,
  ⟨(.type "tuple"), none, (.seq #[] 0), #[]⟩,
  ⟨.none, none, (.fields #[]), #[]⟩,
  ⟨(.type "tuple"), none, (.seq #[(.str "self" 909)] 0), #[]⟩,
  ⟨(.type "tuple"), none, (.seq #[] 0), #[]⟩,
  ⟨.none, none, (.func (fd (sm 25 3) "__iter__" "KeysView.__iter__" 0 .none .none .none .none (none) .none .none 0)), #[]⟩,
  ⟨(.type "code"), none, (.fields #[(.str "__iter__" 906), (.str "KeysView.__iter__" 907), (.str "/claim/cut.py" 908), (.int 257 0), (.int 1 0), (.int 0 0), (.int 0 0), (.int 35 0), (.ref 523), (.bool true), (.int 273 0), (.ref 524), .none, (.ref 525), (.ref 526), (.ref 527), (.int 910 0), (.int 257 0), (.str "/claim/cut.py" 911)]), #[]⟩,
  ⟨(.type "function"), none, (.func (fd (sm 25 3) "__iter__" "KeysView.__iter__" 3 .none .none .none (.str "collections.abc" 312) (none) (.ref 528) .none 0)), #[]⟩,
  ⟨(.type "tuple"), none, (.seq #[] 0), #[]⟩,
  ⟨.none, none, (.fields #[]), #[]⟩,
  ⟨(.type "tuple"), none, (.seq #[(.str "cls" 916), (.str "C" 917)] 0), #[]⟩,
  ⟨(.type "tuple"), none, (.seq #[] 0), #[]⟩,
  ⟨.none, none, (.func (fd (sm 25 4) "_abc_kind" "KeysView._abc_kind" 0 .none .none .none .none (none) .none .none 0)), #[]⟩,
  ⟨(.type "code"), none, (.fields #[(.str "_abc_kind" 913), (.str "KeysView._abc_kind" 914), (.str "/claim/cut.py" 915), (.int 260 0), (.int 2 0), (.int 0 0), (.int 0 0), (.int 3 0), (.ref 530), (.bool true), (.int 273 0), (.ref 531), .none, (.ref 532), (.ref 533), (.ref 534), (.int 918 0), (.int 260 0), (.str "/claim/cut.py" 919)]), #[]⟩,
  ⟨(.type "function"), none, (.func (fd (sm 25 4) "_abc_kind" "KeysView._abc_kind" 3 .none .none .none (.str "collections.abc" 312) (none) (.ref 535) .none 0)), #[]⟩,
  ⟨(.type "tuple"), none, (.seq #[] 0), #[]⟩,
  ⟨(.type "list"), none, (.seq #[] 0), #[]⟩,
  ⟨(.type "dict"), none, (.dict #[E P "__module__" 872 (.str "collections.abc" 312), E P "__firstlineno__" 876 (.int 247 875), E P "__slots__" 877 (.ref 505), E P "_from_iterable" 897 (.ref 514), E P "__contains__" 905 (.ref 522), E P "__iter__" 912 (.ref 529), E P "_abc_kind" 920 (.ref 536), E P "__static_attributes__" 921 (.ref 537), E P "__doc__" 922 .none] 2), #[]⟩,
  ⟨(.ref 89), none, (.cls ⟨"KeysView", [(.ref 493), (.ref 371)], [(.ref 540), (.ref 493), (.ref 371), (.ref 255), (.ref 196), (.ref 166), (.ref 232), (.type "object")], 539, "KeysView", false, ["_mapping"], [], false, none, false⟩), #[some (.ref 498), none, some (.str "KeysView" 865), some (.str "KeysView" 873), some (.builtin "object.__new__"), some (.bool false)]⟩,
  ⟨(.type "super"), none, (.fields #[(.ref 540), (.ref 540), (.ref 540)]), #[]⟩,
  ⟨(.type "builtin_function_or_method"), none, (.fields #[(.builtin "object.__init_subclass__"), (.ref 540)]), #[]⟩]
def U10_3 (P : Params) : Obj := ⟨(.type "dict"), none, (.dict #[E P "__name__" 165 (.str "collections.abc" 312), E P "__doc__" 166 .none, E P "__package__" 167 .none, E P "__loader__" 168 (.builtin "__main__.__loader__#opaque"), E P "__spec__" 169 .none, E P "__annotations__" 170 (.ref 6), E P "__builtins__" 171 (.ref 4), E P "__file__" 173 (.str "/claim/cut.py" 172), E P "__cached__" 174 .none, E P "deque" 272 (.type "collections.deque"), E P "_wall" 285 (.ref 39), E P "ABCMeta" 311 (.ref 56), E P "_ABCLike" 354 (.ref 89), E P "_abc_plain_meta" 361 (.ref 98), E P "_abc_has_iter" 368 (.ref 105), E P "_abc_has_len" 375 (.ref 112), E P "_abc_has_contains" 382 (.ref 119), E P "_abc_is_mappingproxy" 389 (.ref 126), E P "_abc_is_builtin_collection" 396 (.ref 133), E P "Iterable" 437 (.ref 166), E P "Sized" 474 (.ref 196), E P "Container" 521 (.ref 232), E P "Collection" 551 (.ref 255), E P "Set" 708 (.ref 371), E P "Mapping" 796 (.ref 443), E P "MappingView" 864 (.ref 493), E P "KeysView" 924 (.ref 540)] 27), #[]⟩
def U10_30 (P : Params) : Obj := ⟨.none, none, (.fields #[(.int 2 0), (.int 0 0), (.ref 38), (.int 6 0), (.int 0 0), (.ref 45), (.int 11 0), (.int 0 0), (.ref 64), (.int 26 0), (.int 0 0), (.ref 97), (.int 29 0), (.int 0 0), (.ref 104), (.int 32 0), (.int 0 0), (.ref 111), (.int 35 0), (.int 0 0), (.ref 118), (.int 38 0), (.int 0 0), (.ref 125), (.int 40 0), (.int 0 0), (.ref 132), (.int 42 0), (.int 0 0), (.ref 139), (.int 58 0), (.int 0 0), (.ref 176), (.int 70 0), (.int 0 0), (.ref 205), (.int 85 0), (.int 0 0), (.ref 242), (.int 96 0), (.int 0 0), (.ref 264), (.int 185 0), (.int 0 0), (.ref 380), (.int 226 0), (.int 0 0), (.ref 452), (.int 247 0), (.int 0 0), (.ref 503)]), #[]⟩
def U10_371 (P : Params) : Obj := ⟨(.ref 89), none, (.cls ⟨"Set", [(.ref 255)], [(.ref 371), (.ref 255), (.ref 196), (.ref 166), (.ref 232), (.type "object")], 370, "Set", false, [], [(.ref 540)], true, none, false⟩), #[some (.ref 259), none, some (.str "Set" 559), some (.str "Set" 567), some (.builtin "object.__new__"), some (.bool false)]⟩
def U10_493 (P : Params) : Obj := ⟨(.ref 89), none, (.cls ⟨"MappingView", [(.ref 196)], [(.ref 493), (.ref 196), (.type "object")], 492, "MappingView", false, ["_mapping"], [(.ref 540)], false, none, false⟩), #[some (.ref 447), none, some (.str "MappingView" 804), some (.str "MappingView" 812), some (.builtin "object.__new__"), some (.bool false)]⟩
def T10 (P : Params) : List Obj := app (upd (upd (upd (upd (T9 P) 3 (U10_3 P)) 30 (U10_30 P)) 371 (U10_371 P)) 493 (U10_493 P)) (G10 P)
def G11 (P : Params) : List Obj := [
  ⟨(.type "tuple"), none, (.seq #[(.ref 493), (.ref 371)] 0), #[]⟩,
  ⟨(.type "builtin_function_or_method"), none, (.fields #[(.builtin "type.__prepare__"), (.ref 89)]), #[]⟩,
  ⟨(.type "dict"), none, (.dict #[E P "__module__" 932 (.str "collections.abc" 312), E P "__qualname__" 934 (.str "ItemsView" 933), E P "__firstlineno__" 936 (.int 265 935), E P "__slots__" 937 (.ref 550), E P "_from_iterable" 957 (.ref 559), E P "__contains__" 968 (.ref 567), E P "__iter__" 976 (.ref 574), E P "_abc_kind" 984 (.ref 581), E P "__static_attributes__" 985 (.ref 582)] 9), #[]⟩,
  ⟨(.type "tuple"), none, (.seq #[] 0), #[]⟩,
  ⟨.none, none, (.fields #[(.int 269 0), (.int 4 0), (.ref 556), (.int 272 0), (.int 4 0), (.ref 566), (.int 281 0), (.int 4 0), (.ref 573), (.int 285 0), (.int 4 0), (.ref 580)]), #[]⟩,
  ⟨(.type "code"), none, (.fields #[(.str "ItemsView" 927), (.str "ItemsView" 928), (.str "/claim/cut.py" 929), (.int 265 0), (.int 0 0), (.int 0 0), (.int 0 0), (.int 0 0), (.ref 546), (.bool false), (.int 273 0), (.ref 547), .none, .none, .none, .none, (.int 930 0), (.int 265 0), (.str "/claim/cut.py" 931)]), #[]⟩,
  ⟨(.type "frame"), none, .plain, #[some (.ref 548), some (.ref 3), some (.ref 545), none, some (.str "collections.abc" 312), none, some (.ref 0)]⟩,
  ⟨(.type "tuple"), none, (.seq #[] 0), #[]⟩,
  ⟨(.type "tuple"), none, (.seq #[] 0), #[]⟩,
  ⟨.none, none, (.fields #[]), #[]⟩,
  ⟨(.type "tuple"), none, (.seq #[(.str "cls" 941), (.str "it" 942)] 0), #[]⟩,
  ⟨(.type "tuple"), none, (.seq #[] 0), #[]⟩,
  ⟨.none, none, (.func (fd (sm 26 1) "_from_iterable" "ItemsView._from_iterable" 0 .none .none .none .none (none) .none .none 0)), #[]⟩,
  ⟨(.type "code"), none, (.fields #[(.str "_from_iterable" 938), (.str "ItemsView._from_iterable" 939), (.str "/claim/cut.py" 940), (.int 268 0), (.int 2 0), (.int 0 0), (.int 0 0), (.int 3 0), (.ref 551), (.bool true), (.int 273 0), (.ref 552), .none, (.ref 553), (.ref 554), (.ref 555), (.int 943 0), (.int 268 0), (.str "/claim/cut.py" 944)]), #[]⟩,
  ⟨(.type "function"), none, (.func (fd (sm 26 1) "_from_iterable" "ItemsView._from_iterable" 3 .none .none .none (.str "collections.abc" 312) (some 560) (.ref 556) .none 0)), #[]⟩,
  ⟨(.type "dict"), none, (.dict #[E P "__module__" 946 (.str "collections.abc" 312), E P "__name__" 949 (.str "_from_iterable" 948), E P "__qualname__" 952 (.str "ItemsView._from_iterable" 951), E P "__doc__" 954 .none, E P "__annotations__" 956 (.ref 560)] 5), #[]⟩,
  ⟨(.type "classmethod"), some 558, (.fields #[(.ref 557), (.bool false)]), #[]⟩,
  ⟨(.type "dict"), none, (.dict #[] 0), #[]⟩,
  ⟨(.type "tuple"), none, (.seq #[] 0), #[]⟩,
  ⟨.none, none, (.fields #[]), #[]⟩,
  ⟨(.type "tuple"), none, (.seq #[(.str "self" 961), (.str "item" 962), (.str "key" 963), (.str "value" 964), (.str "v" 965)] 0), #[]⟩,
  ⟨(.type "tuple"), none, (.seq #[] 0), #[]⟩,
  ⟨.none, none, (.func (fd (sm 26 2) "__contains__" "ItemsView.__contains__" 0 .none .none .none .none (none) .none .none 0)), #[]⟩,
  ⟨(.type "code"), none, (.fields #[(.str "__contains__" 958), (.str "ItemsView.__contains__" 959), (.str "/claim/cut.py" 960), (.int 272 0), (.int 2 0), (.int 0 0), (.int 0 0), (.int 3 0), (.ref 561), (.bool true), (.int 273 0), (.ref 562), .none, (.ref 563), (.ref 564), (.ref 565), (.int 966 0), (.int 272 0), (.str "/claim/cut.py" 967)]), #[]⟩,
  ⟨(.type "function"), none, (.func (fd (sm 26 2) "__contains__" "ItemsView.__contains__" 3 .none .none .none (.str "collections.abc" 312) (none) (.ref 566) .none 0)), #[]⟩,
  ⟨(.type "tuple"), none, (.seq #[] 0), #[]⟩,
  ⟨.none, none, (.fields #[]), #[]⟩,
  ⟨(.type "tuple"), none, (.seq #[(.str "self" 972), (.str "key" 973)] 0), #[]⟩,
  ⟨(.type "tuple"), none, (.seq #[] 0), #[]⟩,
  ⟨.none, none, (.func (fd (sm 26 3) "__iter__" "ItemsView.__iter__" 0 .none .none .none .none (none) .none .none 0)), #[]⟩,
  ⟨(.type "code"), none, (.fields #[(.str "__iter__" 969), (.str "ItemsView.__iter__" 970), (.str "/claim/cut.py" 971), (.int 281 0), (.int 1 0), (.int 0 0), (.int 0 0), (.int 35 0), (.ref 568), (.bool true), (.int 273 0), (.ref 569), .none, (.ref 570), (.ref 571), (.ref 572), (.int 974 0), (.int 281 0), (.str "/claim/cut.py" 975)]), #[]⟩,
  ⟨(.type "function"), none, (.func (fd (sm 26 3) "__iter__" "ItemsView.__iter__" 3 .none .none .none (.str "collections.abc" 312) (none) (.ref 573) .none 0)), #[]⟩,
  ⟨(.type "tuple"), none, (.seq #[] 0), #[]⟩,
  ⟨.none, none, (.fields #[]), #[]⟩,
  ⟨(.type "tuple"), none, (.seq #[(.str "cls" 980), (.str "C" 981)] 0), #[]⟩,
  ⟨(.type "tuple"), none, (.seq #[] 0), #[]⟩,
  ⟨.none, none, (.func (fd (sm 26 4) "_abc_kind" "ItemsView._abc_kind" 0 .none .none .none .none (none) .none .none 0)), #[]⟩,
  ⟨(.type "code"), none, (.fields #[(.str "_abc_kind" 977), (.str "ItemsView._abc_kind" 978), (.str "/claim/cut.py" 979), (.int 285 0), (.int 2 0), (.int 0 0), (.int 0 0), (.int 3 0), (.ref 575), (.bool true), (.int 273 0), (.ref 576), .none, (.ref 577), (.ref 578), (.ref 579), (.int 982 0), (.int 285 0), (.str "/claim/cut.py" 983)]), #[]⟩,
  ⟨(.type "function"), none, (.func (fd (sm 26 4) "_abc_kind" "ItemsView._abc_kind" 3 .none .none .none (.str "collections.abc" 312) (none) (.ref 580) .none 0)), #[]⟩,
  ⟨(.type "tuple"), none, (.seq #[] 0), #[]⟩,
  ⟨(.type "list"), none, (.seq #[] 0), #[]⟩,
  ⟨(.type "dict"), none, (.dict #[E P "__module__" 932 (.str "collections.abc" 312), E P "__firstlineno__" 936 (.int 265 935), E P "__slots__" 937 (.ref 550), E P "_from_iterable" 957 (.ref 559), E P "__contains__" 968 (.ref 567), E P "__iter__" 976 (.ref 574), E P "_abc_kind" 984 (.ref 581), E P "__static_attributes__" 985 (.ref 582), E P "__doc__" 986 .none] 2), #[]⟩,
  ⟨(.ref 89), none, (.cls ⟨"ItemsView", [(.ref 493), (.ref 371)], [(.ref 585), (.ref 493), (.ref 371), (.ref 255), (.ref 196), (.ref 166), (.ref 232), (.type "object")], 584, "ItemsView", false, ["_mapping"], [], false, none, false⟩), #[some (.ref 543), none, some (.str "ItemsView" 925), some (.str "ItemsView" 933), some (.builtin "object.__new__"), some (.bool false)]⟩,
  ⟨(.type "super"), none, (.fields #[(.ref 585), (.ref 585), (.ref 585)]), #[]⟩,
  ⟨(.type "builtin_function_or_method"), none, (.fields #[(.builtin "object.__init_subclass__"), (.ref 585)]), #[]⟩]
def U11_3 (P : Params) : Obj := ⟨(.type "dict"), none, (.dict #[E P "__name__" 165 (.str "collections.abc" 312), E P "__doc__" 166 .none, E P "__package__" 167 .none, E P "__loader__" 168 (.builtin "__main__.__loader__#opaque"), E P "__spec__" 169 .none, E P "__annotations__" 170 (.ref 6), E P "__builtins__" 171 (.ref 4), E P "__file__" 173 (.str "/claim/cut.py" 172), E P "__cached__" 174 .none, E P "deque" 272 (.type "collections.deque"), E P "_wall" 285 (.ref 39), E P "ABCMeta" 311 (.ref 56), E P "_ABCLike" 354 (.ref 89), E P "_abc_plain_meta" 361 (.ref 98), E P "_abc_has_iter" 368 (.ref 105), E P "_abc_has_len" 375 (.ref 112), E P "_abc_has_contains" 382 (.ref 119), E P "_abc_is_mappingproxy" 389 (.ref 126), E P "_abc_is_builtin_collection" 396 (.ref 133), E P "Iterable" 437 (.ref 166), E P "Sized" 474 (.ref 196), E P "Container" 521 (.ref 232), E P "Collection" 551 (.ref 255), E P "Set" 708 (.ref 371), E P "Mapping" 796 (.ref 443), E P "MappingView" 864 (.ref 493), E P "KeysView" 924 (.ref 540), E P "ItemsView" 988 (.ref 585)] 28), #[]⟩
def U11_30 (P : Params) : Obj := ⟨.none, none, (.fields #[(.int 2 0), (.int 0 0), (.ref 38), (.int 6 0), (.int 0 0), (.ref 45), (.int 11 0), (.int 0 0), (.ref 64), (.int 26 0), (.int 0 0), (.ref 97), (.int 29 0), (.int 0 0), (.ref 104), (.int 32 0), (.int 0 0), (.ref 111), (.int 35 0), (.int 0 0), (.ref 118), (.int 38 0), (.int 0 0), (.ref 125), (.int 40 0), (.int 0 0), (.ref 132), (.int 42 0), (.int 0 0), (.ref 139), (.int 58 0), (.int 0 0), (.ref 176), (.int 70 0), (.int 0 0), (.ref 205), (.int 85 0), (.int 0 0), (.ref 242), (.int 96 0), (.int 0 0), (.ref 264), (.int 185 0), (.int 0 0), (.ref 380), (.int 226 0), (.int 0 0), (.ref 452), (.int 247 0), (.int 0 0), (.ref 503), (.int 265 0), (.int 0 0), (.ref 548)]), #[]⟩
def U11_371 (P : Params) : Obj := ⟨(.ref 89), none, (.cls ⟨"Set", [(.ref 255)], [(.ref 371), (.ref 255), (.ref 196), (.ref 166), (.ref 232), (.type "object")], 370, "Set", false, [], [(.ref 540), (.ref 585)], true, none, false⟩), #[some (.ref 259), none, some (.str "Set" 559), some (.str "Set" 567), some (.builtin "object.__new__"), some (.bool false)]⟩
def U11_493 (P : Params) : Obj := ⟨(.ref 89), none, (.cls ⟨"MappingView", [(.ref 196)], [(.ref 493), (.ref 196), (.type "object")], 492, "MappingView", false, ["_mapping"], [(.ref 540), (.ref 585)], false, none, false⟩), #[some (.ref 447), none, some (.str "MappingView" 804), some (.str "MappingView" 812), some (.builtin "object.__new__"), some (.bool false)]⟩
def T11 (P : Params) : List Obj := app (upd (upd (upd (upd (T10 P) 3 (U11_3 P)) 30 (U11_30 P)) 371 (U11_371 P)) 493 (U11_493 P)) (G11 P)
def G12 (P : Params) : List Obj := [
  ⟨(.type "tuple"), none, (.seq #[(.ref 493), (.ref 255)] 0), #[]⟩,
  ⟨(.type "builtin_function_or_method"), none, (.fields #[(.builtin "type.__prepare__"), (.ref 89)]), #[]⟩,
  ⟨(.type "dict"), none, (.dict #[E P "__module__" 996 (.str "collections.abc" 312), E P "__qualname__" 998 (.str "ValuesView" 997), E P "__firstlineno__" 1000 (.int 290 999), E P "__slots__" 1001 (.ref 595), E P "__contains__" 1011 (.ref 602), E P "__iter__" 1019 (.ref 609), E P "_abc_kind" 1027 (.ref 616), E P "__static_attributes__" 1028 (.ref 617)] 8), #[]⟩,
  ⟨(.type "tuple"), none, (.seq #[] 0), #[]⟩,
  ⟨.none, none, (.fields #[(.int 293 0), (.int 4 0), (.ref 601), (.int 300 0), (.int 4 0), (.ref 608), (.int 304 0), (.int 4 0), (.ref 615)]), #[]⟩,
  ⟨(.type "code"), none, (.fields #[(.str "ValuesView" 991), (.str "ValuesView" 992), (.str "/claim/cut.py" 993), (.int 290 0), (.int 0 0), (.int 0 0), (.int 0 0), (.int 0 0), (.ref 591), (.bool false), (.int 273 0), (.ref 592), .none, .none, .none, .none, (.int 994 0), (.int 290 0), (.str "/claim/cut.py" 995)]), #[]⟩,
  ⟨(.type "frame"), none, .plain, #[some (.ref 593), some (.ref 3), some (.ref 590), none, some (.str "collections.abc" 312), none, some (.ref 0)]⟩,
  ⟨(.type "tuple"), none, (.seq #[] 0), #[]⟩,
  ⟨(.type "tuple"), none, (.seq #[] 0), #[]⟩,
  ⟨.none, none, (.fields #[]), #[]⟩,
  ⟨(.type "tuple"), none, (.seq #[(.str "self" 1005), (.str "value" 1006), (.str "key" 1007), (.str "v" 1008)] 0), #[]⟩,
  ⟨(.type "tuple"), none, (.seq #[] 0), #[]⟩,
  ⟨.none, none, (.func (fd (sm 27 1) "__contains__" "ValuesView.__contains__" 0 .none .none .none .none (none) .none .none 0)), #[]⟩,
  ⟨(.type "code"), none, (.fields #[(.str "__contains__" 1002), (.str "ValuesView.__contains__" 1003), (.str "/claim/cut.py" 1004), (.int 293 0), (.int 2 0), (.int 0 0), (.int 0 0), (.int 3 0), (.ref 596), (.bool true), (.int 273 0), (.ref 597), .none, (.ref 598), (.ref 599), (.ref 600), (.int 1009 0), (.int 293 0), (.str "/claim/cut.py" 1010)]), #[]⟩,
  ⟨(.type "function"), none, (.func (fd (sm 27 1) "__contains__" "ValuesView.__contains__" 3 .none .none .none (.str "collections.abc" 312) (none) (.ref 601) .none 0)), #[]⟩,
  ⟨(.type "tuple"), none, (.seq #[] 0), #[]⟩,
  ⟨.none, none, (.fields #[]), #[]⟩,
  ⟨(.type "tuple"), none, (.seq #[(.str "self" 1015), (.str "key" 1016)] 0), #[]⟩,
  ⟨(.type "tuple"), none, (.seq #[] 0), #[]⟩,
  ⟨.none, none, (.func (fd (sm 27 2) "__iter__" "ValuesView.__iter__" 0 .none .none .none .none (none) .none .none 0)), #[]⟩,
  ⟨(.type "code"), none, (.fields #[(.str "__iter__" 1012), (.str "ValuesView.__iter__" 1013), (.str "/claim/cut.py" 1014), (.int 300 0), (.int 1 0), (.int 0 0), (.int 0 0), (.int 35 0), (.ref 603), (.bool true), (.int 273 0), (.ref 604), .none, (.ref 605), (.ref 606), (.ref 607), (.int 1017 0), (.int 300 0), (.str "/claim/cut.py" 1018)]), #[]⟩,
  ⟨(.type "function"), none, (.func (fd (sm 27 2) "__iter__" "ValuesView.__iter__" 3 .none .none .none (.str "collections.abc" 312) (none) (.ref 608) .none 0)), #[]⟩,
  ⟨(.type "tuple"), none, (.seq #[] 0), #[]⟩,
  ⟨.none, none, (.fields #[]), #[]⟩,
  ⟨(.type "tuple"), none, (.seq #[(.str "cls" 1023), (.str "C" 1024)] 0), #[]⟩,
  ⟨(.type "tuple"), none, (.seq #[] 0), #[]⟩,
  ⟨.none, none, (.func (fd (sm 27 3) "_abc_kind" "ValuesView._abc_kind" 0 .none .none .none .none (none) .none .none 0)), #[]⟩,
  ⟨(.type "code"), none, (.fields #[(.str "_abc_kind" 1020), (.str "ValuesView._abc_kind" 1021), (.str "/claim/cut.py" 1022), (.int 304 0), (.int 2 0), (.int 0 0), (.int 0 0), (.int 3 0), (.ref 610), (.bool true), (.int 273 0), (.ref 611), .none, (.ref 612), (.ref 613), (.ref 614), (.int 1025 0), (.int 304 0), (.str "/claim/cut.py" 1026)]), #[]⟩,
  ⟨(.type "function"), none, (.func (fd (sm 27 3) "_abc_kind" "ValuesView._abc_kind" 3 .none .none .none (.str "collections.abc" 312) (none) (.ref 615) .none 0)), #[]⟩,
  ⟨(.type "tuple"), none, (.seq #[] 0), #[]⟩,
  ⟨(.type "list"), none, (.seq #[] 0), #[]⟩,
  ⟨(.type "dict"), none, (.dict #[E P "__module__" 996 (.str "collections.abc" 312), E P "__firstlineno__" 1000 (.int 290 999), E P "__slots__" 1001 (.ref 595), E P "__contains__" 1011 (.ref 602), E P "__iter__" 1019 (.ref 609), E P "_abc_kind" 1027 (.ref 616), E P "__static_attributes__" 1028 (.ref 617), E P "__doc__" 1029 .none] 2), #[]⟩,
  ⟨(.ref 89), none, (.cls ⟨"ValuesView", [(.ref 493), (.ref 255)], [(.ref 620), (.ref 493), (.ref 255), (.ref 196), (.ref 166), (.ref 232), (.type "object")], 619, "ValuesView", false, ["_mapping"], [], false, none, false⟩), #[some (.ref 588), none, some (.str "ValuesView" 989), some (.str "ValuesView" 997), some (.builtin "object.__new__"), some (.bool false)]⟩,
  ⟨(.type "super"), none, (.fields #[(.ref 620), (.ref 620), (.ref 620)]), #[]⟩,
  ⟨(.type "builtin_function_or_method"), none, (.fields #[(.builtin "object.__init_subclass__"), (.ref 620)]), #[]⟩]
def U12_3 (P : Params) : Obj := ⟨(.type "dict"), none, (.dict #[E P "__name__" 165 (.str "collections.abc" 312), E P "__doc__" 166 .none, E P "__package__" 167 .none, E P "__loader__" 168 (.builtin "__main__.__loader__#opaque"), E P "__spec__" 169 .none, E P "__annotations__" 170 (.ref 6), E P "__builtins__" 171 (.ref 4), E P "__file__" 173 (.str "/claim/cut.py" 172), E P "__cached__" 174 .none, E P "deque" 272 (.type "collections.deque"), E P "_wall" 285 (.ref 39), E P "ABCMeta" 311 (.ref 56), E P "_ABCLike" 354 (.ref 89), E P "_abc_plain_meta" 361 (.ref 98), E P "_abc_has_iter" 368 (.ref 105), E P "_abc_has_len" 375 (.ref 112), E P "_abc_has_contains" 382 (.ref 119), E P "_abc_is_mappingproxy" 389 (.ref 126), E P "_abc_is_builtin_collection" 396 (.ref 133), E P "Iterable" 437 (.ref 166), E P "Sized" 474 (.ref 196), E P "Container" 521 (.ref 232), E P "Collection" 551 (.ref 255), E P "Set" 708 (.ref 371), E P "Mapping" 796 (.ref 443), E P "MappingView" 864 (.ref 493), E P "KeysView" 924 (.ref 540), E P "ItemsView" 988 (.ref 585), E P "ValuesView" 1031 (.ref 620)] 29), #[]⟩
def U12_30 (P : Params) : Obj := ⟨.none, none, (.fields #[(.int 2 0), (.int 0 0), (.ref 38), (.int 6 0), (.int 0 0), (.ref 45), (.int 11 0), (.int 0 0), (.ref 64), (.int 26 0), (.int 0 0), (.ref 97), (.int 29 0), (.int 0 0), (.ref 104), (.int 32 0), (.int 0 0), (.ref 111), (.int 35 0), (.int 0 0), (.ref 118), (.int 38 0), (.int 0 0), (.ref 125), (.int 40 0), (.int 0 0), (.ref 132), (.int 42 0), (.int 0 0), (.ref 139), (.int 58 0), (.int 0 0), (.ref 176), (.int 70 0), (.int 0 0), (.ref 205), (.int 85 0), (.int 0 0), (.ref 242), (.int 96 0), (.int 0 0), (.ref 264), (.int 185 0), (.int 0 0), (.ref 380), (.int 226 0), (.int 0 0), (.ref 452), (.int 247 0), (.int 0 0), (.ref 503), (.int 265 0), (.int 0 0), (.ref 548), (.int 290 0), (.int 0 0), (.ref 593)]), #[]⟩
def U12_255 (P : Params) : Obj := ⟨(.ref 89), none, (.cls ⟨"Collection", [(.ref 196), (.ref 166), (.ref 232)], [(.ref 255), (.ref 196), (.ref 166), (.ref 232), (.type "object")], 254, "Collection", false, [], [(.ref 371), (.ref 443), (.ref 620)], true, none, false⟩), #[some (.ref 237), none, some (.str "Collection" 527), some (.str "Collection" 535), some (.builtin "object.__new__"), some (.bool false)]⟩
def U12_493 (P : Params) : Obj := ⟨(.ref 89), none, (.cls ⟨"MappingView", [(.ref 196)], [(.ref 493), (.ref 196), (.type "object")], 492, "MappingView", false, ["_mapping"], [(.ref 540), (.ref 585), (.ref 620)], false, none, false⟩), #[some (.ref 447), none, some (.str "MappingView" 804), some (.str "MappingView" 812), some (.builtin "object.__new__"), some (.bool false)]⟩
def T12 (P : Params) : List Obj := app (upd (upd (upd (upd (T11 P) 3 (U12_3 P)) 30 (U12_30 P)) 255 (U12_255 P)) 493 (U12_493 P)) (G12 P)
def G13 (P : Params) : List Obj := [
  ⟨(.type "tuple"), none, (.seq #[(.ref 443)] 0), #[]⟩,
  ⟨(.type "builtin_function_or_method"), none, (.fields #[(.builtin "type.__prepare__"), (.ref 89)]), #[]⟩,
  ⟨(.type "dict"), none, (.dict #[E P "__module__" 1039 (.str "collections.abc" 312), E P "__qualname__" 1041 (.str "MutableMapping" 1040), E P "__firstlineno__" 1043 (.int 309 1042), E P "__slots__" 1044 (.ref 630), E P "__setitem__" 1053 (.ref 637), E P "__delitem__" 1061 (.ref 644), E P "_MutableMapping__marker" 1062 (.ref 645), E P "pop" 1072 (.ref 653), E P "popitem" 1081 (.ref 660), E P "clear" 1088 (.ref 667), E P "update" 1097 (.ref 676), E P "setdefault" 1106 (.ref 684), E P "_abc_kind" 1114 (.ref 691), E P "__static_attributes__" 1115 (.ref 692)] 14), #[]⟩,
  ⟨(.type "tuple"), none, (.seq #[] 0), #[]⟩,
  ⟨.none, none, (.fields #[(.int 312 0), (.int 4 0), (.ref 636), (.int 315 0), (.int 4 0), (.ref 643), (.int 319 0), (.int 4 0), (.ref 652), (.int 330 0), (.int 4 0), (.ref 659), (.int 339 0), (.int 4 0), (.ref 666), (.int 346 0), (.int 4 0), (.ref 675), (.int 349 0), (.int 4 0), (.ref 683), (.int 352 0), (.int 4 0), (.ref 690)]), #[]⟩,
  ⟨(.type "code"), none, (.fields #[(.str "MutableMapping" 1034), (.str "MutableMapping" 1035), (.str "/claim/cut.py" 1036), (.int 309 0), (.int 0 0), (.int 0 0), (.int 0 0), (.int 0 0), (.ref 626), (.bool false), (.int 273 0), (.ref 627), .none, .none, .none, .none, (.int 1037 0), (.int 309 0), (.str "/claim/cut.py" 1038)]), #[]⟩,
  ⟨(.type "frame"), none, .plain, #[some (.ref 628), some (.ref 3), some (.ref 625), none, some (.str "collections.abc" 312), none, some (.ref 0)]⟩,
  ⟨(.type "tuple"), none, (.seq #[] 0), #[]⟩,
  ⟨(.type "tuple"), none, (.seq #[] 0), #[]⟩,
  ⟨.none, none, (.fields #[]), #[]⟩,
  ⟨(.type "tuple"), none, (.seq #[(.str "self" 1048), (.str "key" 1049), (.str "value" 1050)] 0), #[]⟩,
  ⟨(.type "tuple"), none, (.seq #[] 0), #[]⟩,
  ⟨.none, none, (.func (fd (sm 28 1) "__setitem__" "MutableMapping.__setitem__" 0 .none .none .none .none (none) .none .none 0)), #[]⟩,
  ⟨(.type "code"), none, (.fields #[(.str "__setitem__" 1045), (.str "MutableMapping.__setitem__" 1046), (.str "/claim/cut.py" 1047), (.int 312 0), (.int 3 0), (.int 0 0), (.int 0 0), (.int 3 0), (.ref 631), (.bool true), (.int 273 0), (.ref 632), .none, (.ref 633), (.ref 634), (.ref 635), (.int 1051 0), (.int 312 0), (.str "/claim/cut.py" 1052)]), #[]⟩,
  ⟨(.type "function"), none, (.func (fd (sm 28 1) "__setitem__" "MutableMapping.__setitem__" 3 .none .none .none (.str "collections.abc" 312) (none) (.ref 636) .none 0)), #[]⟩,
  ⟨(.type "tuple"), none, (.seq #[] 0), #[]⟩,
  ⟨.none, none, (.fields #[]), #[]⟩,
  ⟨(.type "tuple"), none, (.seq #[(.str "self" 1057), (.str "key" 1058)] 0), #[]⟩,
  ⟨(.type "tuple"), none, (.seq #[] 0), #[]⟩,
  ⟨.none, none, (.func (fd (sm 28 2) "__delitem__" "MutableMapping.__delitem__" 0 .none .none .none .none (none) .none .none 0)), #[]⟩,
  ⟨(.type "code"), none, (.fields #[(.str "__delitem__" 1054), (.str "MutableMapping.__delitem__" 1055), (.str "/claim/cut.py" 1056), (.int 315 0), (.int 2 0), (.int 0 0), (.int 0 0), (.int 3 0), (.ref 638), (.bool true), (.int 273 0), (.ref 639), .none, (.ref 640), (.ref 641), (.ref 642), (.int 1059 0), (.int 315 0), (.str "/claim/cut.py" 1060)]), #[]⟩,
  ⟨(.type "function"), none, (.func (fd (sm 28 2) "__delitem__" "MutableMapping.__delitem__" 3 .none .none .none (.str "collections.abc" 312) (none) (.ref 643) .none 0)), #[]⟩,
  ⟨(.type "object"), none, .plain, #[]⟩,
  ⟨(.type "tuple"), none, (.seq #[(.ref 645)] 0), #[]⟩,
  ⟨(.type "tuple"), none, (.seq #[] 0), #[]⟩,
  ⟨.none, none, (.fields #[]), #[]⟩,
  ⟨(.type "tuple"), none, (.seq #[(.str "self" 1066), (.str "key" 1067), (.str "default" 1068), (.str "value" 1069)] 0), #[]⟩,
  ⟨(.type "tuple"), none, (.seq #[] 0), #[]⟩,
  ⟨.none, none, (.func (fd (sm 28 4) "pop" "MutableMapping.pop" 0 .none .none .none .none (none) .none .none 0)), #[]⟩,
  ⟨(.type "code"), none, (.fields #[(.str "pop" 1063), (.str "MutableMapping.pop" 1064), (.str "/claim/cut.py" 1065), (.int 319 0), (.int 3 0), (.int 0 0), (.int 0 0), (.int 3 0), (.ref 647), (.bool true), (.int 273 0), (.ref 648), .none, (.ref 649), (.ref 650), (.ref 651), (.int 1070 0), (.int 319 0), (.str "/claim/cut.py" 1071)]), #[]⟩,
  ⟨(.type "function"), none, (.func (fd (sm 28 4) "pop" "MutableMapping.pop" 3 (.ref 646) .none .none (.str "collections.abc" 312) (none) (.ref 652) .none 0)), #[]⟩,
  ⟨(.type "tuple"), none, (.seq #[] 0), #[]⟩,
  ⟨.none, none, (.fields #[]), #[]⟩,
  ⟨(.type "tuple"), none, (.seq #[(.str "self" 1076), (.str "key" 1077), (.str "value" 1078)] 0), #[]⟩,
  ⟨(.type "tuple"), none, (.seq #[] 0), #[]⟩,
  ⟨.none, none, (.func (fd (sm 28 5) "popitem" "MutableMapping.popitem" 0 .none .none .none .none (none) .none .none 0)), #[]⟩,
  ⟨(.type "code"), none, (.fields #[(.str "popitem" 1073), (.str "MutableMapping.popitem" 1074), (.str "/claim/cut.py" 1075), (.int 330 0), (.int 1 0), (.int 0 0), (.int 0 0), (.int 3 0), (.ref 654), (.bool true), (.int 273 0), (.ref 655), .none, (.ref 656), (.ref 657), (.ref 658), (.int 1079 0), (.int 330 0), (.str "/claim/cut.py" 1080)]), #[]⟩,
  ⟨(.type "function"), none, (.func (fd (sm 28 5) "popitem" "MutableMapping.popitem" 3 .none .none .none (.str "collections.abc" 312) (none) (.ref 659) .none 0)), #[]⟩,
  ⟨(.type "tuple"), none, (.seq #[] 0), #[]⟩,
  ⟨.none, none, (.fields #[]), #[]⟩,
  ⟨(.type "tuple"), none, (.seq #[(.str "self" 1085)] 0), #[]⟩,
  ⟨(.type "tuple"), none, (.seq #[] 0), #[]⟩,
  ⟨.none, none, (.func (fd (sm 28 6) "clear" "MutableMapping.clear" 0 .none .none .none .none (none) .none .none 0)), #[]⟩,
  ⟨(.type "code"), none, (.fields #[(.str "clear" 1082), (.str "MutableMapping.clear" 1083), (.str "/claim/cut.py" 1084), (.int 339 0), (.int 1 0), (.int 0 0), (.int 0 0), (.int 3 0), (.ref 661), (.bool true), (.int 273 0), (.ref 662), .none, (.ref 663), (.ref 664), (.ref 665), (.int 1086 0), (.int 339 0), (.str "/claim/cut.py" 1087)]), #[]⟩,
  ⟨(.type "function"), none, (.func (fd (sm 28 6) "clear" "MutableMapping.clear" 3 .none .none .none (.str "collections.abc" 312) (none) (.ref 666) .none 0)), #[]⟩,
  ⟨(.type "tuple"), none, (.seq #[] 0), #[]⟩,
  ⟨(.type "tuple"), none, (.seq #[(.ref 668)] 0), #[]⟩,
  ⟨(.type "tuple"), none, (.seq #[] 0), #[]⟩,
  ⟨.none, none, (.fields #[]), #[]⟩,
  ⟨(.type "tuple"), none, (.seq #[(.str "self" 1092), (.str "other" 1093), (.str "kwds" 1094)] 0), #[]⟩,
  ⟨(.type "tuple"), none, (.seq #[] 0), #[]⟩,
  ⟨.none, none, (.func (fd (sm 28 7) "update" "MutableMapping.update" 0 .none .none .none .none (none) .none .none 0)), #[]⟩,
  ⟨(.type "code"), none, (.fields #[(.str "update" 1089), (.str "MutableMapping.update" 1090), (.str "/claim/cut.py" 1091), (.int 346 0), (.int 2 0), (.int 2 0), (.int 0 0), (.int 11 0), (.ref 670), (.bool true), (.int 273 0), (.ref 671), .none, (.ref 672), (.ref 673), (.ref 674), (.int 1095 0), (.int 346 0), (.str "/claim/cut.py" 1096)]), #[]⟩,
  ⟨(.type "function"), none, (.func (fd (sm 28 7) "update" "MutableMapping.update" 3 (.ref 669) .none .none (.str "collections.abc" 312) (none) (.ref 675) .none 0)), #[]⟩,
  ⟨(.type "tuple"), none, (.seq #[.none] 0), #[]⟩,
  ⟨(.type "tuple"), none, (.seq #[] 0), #[]⟩,
  ⟨.none, none, (.fields #[]), #[]⟩,
  ⟨(.type "tuple"), none, (.seq #[(.str "self" 1101), (.str "key" 1102), (.str "default" 1103)] 0), #[]⟩,
  ⟨(.type "tuple"), none, (.seq #[] 0), #[]⟩,
  ⟨.none, none, (.func (fd (sm 28 8) "setdefault" "MutableMapping.setdefault" 0 .none .none .none .none (none) .none .none 0)), #[]⟩,
  ⟨(.type "code"), none, (.fields #[(.str "setdefault" 1098), (.str "MutableMapping.setdefault" 1099), (.str "/claim/cut.py" 1100), (.int 349 0), (.int 3 0), (.int 0 0), (.int 0 0), (.int 3 0), (.ref 678), (.bool true), (.int 273 0), (.ref 679), .none, (.ref 680), (.ref 681), (.ref 682), (.int 1104 0), (.int 349 0), (.str "/claim/cut.py" 1105)]), #[]⟩,
  ⟨(.type "function"), none, (.func (fd (sm 28 8) "setdefault" "MutableMapping.setdefault" 3 (.ref 677) .none .none (.str "collections.abc" 312) (none) (.ref 683) .none 0)), #[]⟩,
  ⟨(.type "tuple"), none, (.seq #[] 0), #[]⟩,
  ⟨.none, none, (.fields #[]), #[]⟩,
  ⟨(.type "tuple"), none, (.seq #[(.str "cls" 1110), (.str "C" 1111)] 0), #[]⟩,
  ⟨(.type "tuple"), none, (.seq #[] 0), #[]⟩,
  ⟨.none, none, (.func (fd (sm 28 9) "_abc_kind" "MutableMapping._abc_kind" 0 .none .none .none .none (none) .none .none 0)), #[]⟩,
  ⟨(.type "code"), none, (.fields #[(.str "_abc_kind" 1107), (.str "MutableMapping._abc_kind" 1108), (.str "/claim/cut.py" 1109), (.int 352 0), (.int 2 0), (.int 0 0), (.int 0 0), (.int 3 0), (.ref 685), (.bool true), (.int 273 0), (.ref 686), .none, (.ref 687), (.ref 688), (.ref 689), (.int 1112 0), (.int 352 0), (.str "/claim/cut.py" 1113)]), #[]⟩,
  ⟨(.type "function"), none, (.func (fd (sm 28 9) "_abc_kind" "MutableMapping._abc_kind" 3 .none .none .none (.str "collections.abc" 312) (none) (.ref 690) .none 0)), #[]⟩,
  ⟨(.type "tuple"), none, (.seq #[] 0), #[]⟩,
  ⟨(.type "list"), none, (.seq #[] 0), #[]⟩,
  ⟨(.type "dict"), none, (.dict #[E P "__module__" 1039 (.str "collections.abc" 312), E P "__firstlineno__" 1043 (.int 309 1042), E P "__slots__" 1044 (.ref 630), E P "__setitem__" 1053 (.ref 637), E P "__delitem__" 1061 (.ref 644), E P "_MutableMapping__marker" 1062 (.ref 645), E P "pop" 1072 (.ref 653), E P "popitem" 1081 (.ref 660), E P "clear" 1088 (.ref 667), E P "update" 1097 (.ref 676), E P "setdefault" 1106 (.ref 684), E P "_abc_kind" 1114 (.ref 691), E P "__static_attributes__" 1115 (.ref 692), E P "__doc__" 1116 .none, E P "__abstractmethods__" 1127 (.ref 698)] 3), #[]⟩,
  ⟨(.ref 89), none, (.cls ⟨"MutableMapping", [(.ref 443)], [(.ref 695), (.ref 443), (.ref 255), (.ref 196), (.ref 166), (.ref 232), (.type "object")], 694, "MutableMapping", false, [], [], true, none, false⟩), #[some (.ref 623), none, some (.str "MutableMapping" 1032), some (.str "MutableMapping" 1040), some (.builtin "object.__new__"), some (.bool false)]⟩,
  ⟨(.type "super"), none, (.fields #[(.ref 695), (.ref 695), (.ref 695)]), #[]⟩,
  ⟨(.type "builtin_function_or_method"), none, (.fields #[(.builtin "object.__init_subclass__"), (.ref 695)]), #[]⟩,
  ⟨(.type "tuple"), none, (.seq #[(.str "__delitem__" 1119), (.str "__getitem__" 1120), (.str "__iter__" 1121), (.str "__len__" 1122), (.str "__setitem__" 1123)] 0), #[]⟩]
def U13_3 (P : Params) : Obj := ⟨(.type "dict"), none, (.dict #[E P "__name__" 165 (.str "collections.abc" 312), E P "__doc__" 166 .none, E P "__package__" 167 .none, E P "__loader__" 168 (.builtin "__main__.__loader__#opaque"), E P "__spec__" 169 .none, E P "__annotations__" 170 (.ref 6), E P "__builtins__" 171 (.ref 4), E P "__file__" 173 (.str "/claim/cut.py" 172), E P "__cached__" 174 .none, E P "deque" 272 (.type "collections.deque"), E P "_wall" 285 (.ref 39), E P "ABCMeta" 311 (.ref 56), E P "_ABCLike" 354 (.ref 89), E P "_abc_plain_meta" 361 (.ref 98), E P "_abc_has_iter" 368 (.ref 105), E P "_abc_has_len" 375 (.ref 112), E P "_abc_has_contains" 382 (.ref 119), E P "_abc_is_mappingproxy" 389 (.ref 126), E P "_abc_is_builtin_collection" 396 (.ref 133), E P "Iterable" 437 (.ref 166), E P "Sized" 474 (.ref 196), E P "Container" 521 (.ref 232), E P "Collection" 551 (.ref 255), E P "Set" 708 (.ref 371), E P "Mapping" 796 (.ref 443), E P "MappingView" 864 (.ref 493), E P "KeysView" 924 (.ref 540), E P "ItemsView" 988 (.ref 585), E P "ValuesView" 1031 (.ref 620), E P "MutableMapping" 1118 (.ref 695)] 30), #[]⟩
def U13_30 (P : Params) : Obj := ⟨.none, none, (.fields #[(.int 2 0), (.int 0 0), (.ref 38), (.int 6 0), (.int 0 0), (.ref 45), (.int 11 0), (.int 0 0), (.ref 64), (.int 26 0), (.int 0 0), (.ref 97), (.int 29 0), (.int 0 0), (.ref 104), (.int 32 0), (.int 0 0), (.ref 111), (.int 35 0), (.int 0 0), (.ref 118), (.int 38 0), (.int 0 0), (.ref 125), (.int 40 0), (.int 0 0), (.ref 132), (.int 42 0), (.int 0 0), (.ref 139), (.int 58 0), (.int 0 0), (.ref 176), (.int 70 0), (.int 0 0), (.ref 205), (.int 85 0), (.int 0 0), (.ref 242), (.int 96 0), (.int 0 0), (.ref 264), (.int 185 0), (.int 0 0), (.ref 380), (.int 226 0), (.int 0 0), (.ref 452), (.int 247 0), (.int 0 0), (.ref 503), (.int 265 0), (.int 0 0), (.ref 548), (.int 290 0), (.int 0 0), (.ref 593), (.int 309 0), (.int 0 0), (.ref 628)]), #[]⟩
def U13_443 (P : Params) : Obj := ⟨(.ref 89), none, (.cls ⟨"Mapping", [(.ref 255)], [(.ref 443), (.ref 255), (.ref 196), (.ref 166), (.ref 232), (.type "object")], 442, "Mapping", false, [], [(.ref 695)], true, none, false⟩), #[some (.ref 375), none, some (.str "Mapping" 716), some (.str "Mapping" 724), some (.builtin "object.__new__"), some (.bool false)]⟩
def T13 (P : Params) : List Obj := app (upd (upd (upd (T12 P) 3 (U13_3 P)) 30 (U13_30 P)) 443 (U13_443 P)) (G13 P)
def G14 (P : Params) : List Obj := [
  ]
def U14_3 (P : Params) : Obj := ⟨(.type "dict"), none, (.dict #[E P "__name__" 165 (.str "cachetools" 1128), E P "__doc__" 166 .none, E P "__package__" 167 .none, E P "__loader__" 168 (.builtin "__main__.__loader__#opaque"), E P "__spec__" 169 .none, E P "__annotations__" 170 (.ref 6), E P "__builtins__" 171 (.ref 4), E P "__file__" 173 (.str "/claim/cut.py" 172), E P "__cached__" 174 .none, E P "deque" 272 (.type "collections.deque"), E P "_wall" 285 (.ref 39), E P "ABCMeta" 311 (.ref 56), E P "_ABCLike" 354 (.ref 89), E P "_abc_plain_meta" 361 (.ref 98), E P "_abc_has_iter" 368 (.ref 105), E P "_abc_has_len" 375 (.ref 112), E P "_abc_has_contains" 382 (.ref 119), E P "_abc_is_mappingproxy" 389 (.ref 126), E P "_abc_is_builtin_collection" 396 (.ref 133), E P "Iterable" 437 (.ref 166), E P "Sized" 474 (.ref 196), E P "Container" 521 (.ref 232), E P "Collection" 551 (.ref 255), E P "Set" 708 (.ref 371), E P "Mapping" 796 (.ref 443), E P "MappingView" 864 (.ref 493), E P "KeysView" 924 (.ref 540), E P "ItemsView" 988 (.ref 585), E P "ValuesView" 1031 (.ref 620), E P "MutableMapping" 1118 (.ref 695)] 30), #[]⟩
def T14 (P : Params) : List Obj := app (upd (T13 P) 3 (U14_3 P)) (G14 P)
def G15 (P : Params) : List Obj := [
  ⟨(.type "tuple"), none, (.seq #[(.ref 695)] 0), #[]⟩,
  ⟨(.type "builtin_function_or_method"), none, (.fields #[(.builtin "type.__prepare__"), (.ref 89)]), #[]⟩,
  ⟨(.type "dict"), none, (.dict #[E P "__module__" 1137 (.str "cachetools" 1128), E P "__qualname__" 1139 (.str "Cache" 1138), E P "__firstlineno__" 1141 (.int 359 1140), E P "_Cache__marker" 1142 (.ref 706), E P "_Cache__size" 1143 .none, E P "__init__" 1152 (.ref 714), E P "__repr__" 1159 (.ref 721), E P "__getitem__" 1167 (.ref 728), E P "__setitem__" 1181 (.ref 735), E P "__delitem__" 1191 (.ref 742), E P "__contains__" 1199 (.ref 749), E P "__missing__" 1207 (.ref 756), E P "__iter__" 1214 (.ref 763), E P "__len__" 1221 (.ref 770), E P "get" 1230 (.ref 778), E P "pop" 1240 (.ref 786), E P "setdefault" 1249 (.ref 794), E P "clear" 1257 (.ref 801), E P "maxsize" 1265 (.ref 809), E P "currsize" 1273 (.ref 817), E P "getsizeof" 1292 (.ref 826), E P "__static_attributes__" 1298 (.ref 828)] 22), #[]⟩,
  ⟨(.type "tuple"), none, (.seq #[] 0), #[]⟩,
  ⟨.none, none, (.fields #[(.int 363 0), (.int 4 0), (.ref 713), (.int 374 0), (.int 4 0), (.ref 720), (.int 377 0), (.int 4 0), (.ref 727), (.int 383 0), (.int 4 0), (.ref 734), (.int 417 0), (.int 4 0), (.ref 741), (.int 427 0), (.int 4 0), (.ref 748), (.int 430 0), (.int 4 0), (.ref 755), (.int 433 0), (.int 4 0), (.ref 762), (.int 436 0), (.int 4 0), (.ref 769), (.int 439 0), (.int 4 0), (.ref 777), (.int 445 0), (.int 4 0), (.ref 785), (.int 455 0), (.int 4 0), (.ref 793), (.int 458 0), (.int 4 0), (.ref 800), (.int 466 0), (.int 4 0), (.ref 807), (.int 470 0), (.int 4 0), (.ref 815), (.int 474 0), (.int 4 0), (.ref 823)]), #[]⟩,
  ⟨(.type "code"), none, (.fields #[(.str "Cache" 1132), (.str "Cache" 1133), (.str "/claim/cut.py" 1134), (.int 359 0), (.int 0 0), (.int 0 0), (.int 0 0), (.int 0 0), (.ref 702), (.bool false), (.int 273 0), (.ref 703), .none, .none, .none, .none, (.int 1135 0), (.int 359 0), (.str "/claim/cut.py" 1136)]), #[]⟩,
  ⟨(.type "frame"), none, .plain, #[some (.ref 704), some (.ref 3), some (.ref 701), none, some (.str "cachetools" 1128), none, some (.ref 0)]⟩,
  ⟨(.type "object"), none, .plain, #[]⟩,
  ⟨(.type "tuple"), none, (.seq #[.none] 0), #[]⟩,
  ⟨(.type "tuple"), none, (.seq #[] 0), #[]⟩,
  ⟨.none, none, (.fields #[]), #[]⟩,
  ⟨(.type "tuple"), none, (.seq #[(.str "self" 1147), (.str "maxsize" 1148), (.str "getsizeof" 1149)] 0), #[]⟩,
  ⟨(.type "tuple"), none, (.seq #[] 0), #[]⟩,
  ⟨.none, none, (.func (fd (sm 31 2) "__init__" "Cache.__init__" 0 .none .none .none .none (none) .none .none 0)), #[]⟩,
  ⟨(.type "code"), none, (.fields #[(.str "__init__" 1144), (.str "Cache.__init__" 1145), (.str "/claim/cut.py" 1146), (.int 363 0), (.int 3 0), (.int 0 0), (.int 0 0), (.int 3 0), (.ref 708), (.bool true), (.int 273 0), (.ref 709), .none, (.ref 710), (.ref 711), (.ref 712), (.int 1150 0), (.int 363 0), (.str "/claim/cut.py" 1151)]), #[]⟩,
  ⟨(.type "function"), none, (.func (fd (sm 31 2) "__init__" "Cache.__init__" 3 (.ref 707) .none .none (.str "cachetools" 1128) (none) (.ref 713) .none 0)), #[]⟩,
  ⟨(.type "tuple"), none, (.seq #[] 0), #[]⟩,
  ⟨.none, none, (.fields #[]), #[]⟩,
  ⟨(.type "tuple"), none, (.seq #[(.str "self" 1156)] 0), #[]⟩,
  ⟨(.type "tuple"), none, (.seq #[] 0), #[]⟩,
  ⟨.none, none, (.func (fd (sm 31 3) "__repr__" "Cache.__repr__" 0 .none .none .none .none (none) .none .none 0)), #[]⟩,
  ⟨(.type "code"), none, (.fields #[(.str "__repr__" 1153), (.str "Cache.__repr__" 1154), (.str "/claim/cut.py" 1155), (.int 374 0), (.int 1 0), (.int 0 0), (.int 0 0), (.int 3 0), (.ref 715), (.bool true), (.int 273 0), (.ref 716), .none, (.ref 717), (.ref 718), (.ref 719), (.int 1157 0), (.int 374 0), (.str "/claim/cut.py" 1158)]), #[]⟩,
  ⟨(.type "function"), none, (.func (fd (sm 31 3) "__repr__" "Cache.__repr__" 3 .none .none .none (.str "cachetools" 1128) (none) (.ref 720) .none 0)), #[]⟩,
  ⟨(.type "tuple"), none, (.seq #[] 0), #[]⟩,
  ⟨.none, none, (.fields #[]), #[]⟩,
  ⟨(.type "tuple"), none, (.seq #[(.str "self" 1163), (.str "key" 1164)] 0), #[]⟩,
  ⟨(.type "tuple"), none, (.seq #[] 0), #[]⟩,
  ⟨.none, none, (.func (fd (sm 31 4) "__getitem__" "Cache.__getitem__" 0 .none .none .none .none (none) .none .none 0)), #[]⟩,
  ⟨(.type "code"), none, (.fields #[(.str "__getitem__" 1160), (.str "Cache.__getitem__" 1161), (.str "/claim/cut.py" 1162), (.int 377 0), (.int 2 0), (.int 0 0), (.int 0 0), (.int 3 0), (.ref 722), (.bool true), (.int 273 0), (.ref 723), .none, (.ref 724), (.ref 725), (.ref 726), (.int 1165 0), (.int 377 0), (.str "/claim/cut.py" 1166)]), #[]⟩,
  ⟨(.type "function"), none, (.func (fd (sm 31 4) "__getitem__" "Cache.__getitem__" 3 .none .none .none (.str "cachetools" 1128) (none) (.ref 727) .none 0)), #[]⟩,
  ⟨(.type "tuple"), none, (.seq #[] 0), #[]⟩,
  ⟨.none, none, (.fields #[]), #[]⟩,
  ⟨(.type "tuple"), none, (.seq #[(.str "self" 1171), (.str "key" 1172), (.str "value" 1173), (.str "data" 1174), (.str "size" 1175), (.str "maxsize" 1176), (.str "itemsize" 1177), (.str "diffsize" 1178)] 0), #[]⟩,
  ⟨(.type "tuple"), none, (.seq #[] 0), #[]⟩,
  ⟨.none, none, (.func (fd (sm 31 5) "__setitem__" "Cache.__setitem__" 0 .none .none .none .none (none) .none .none 0)), #[]⟩,
  ⟨(.type "code"), none, (.fields #[(.str "__setitem__" 1168), (.str "Cache.__setitem__" 1169), (.str "/claim/cut.py" 1170), (.int 383 0), (.int 3 0), (.int 0 0), (.int 0 0), (.int 3 0), (.ref 729), (.bool true), (.int 273 0), (.ref 730), .none, (.ref 731), (.ref 732), (.ref 733), (.int 1179 0), (.int 383 0), (.str "/claim/cut.py" 1180)]), #[]⟩,
  ⟨(.type "function"), none, (.func (fd (sm 31 5) "__setitem__" "Cache.__setitem__" 3 .none .none .none (.str "cachetools" 1128) (none) (.ref 734) .none 0)), #[]⟩,
  ⟨(.type "tuple"), none, (.seq #[] 0), #[]⟩,
  ⟨.none, none, (.fields #[]), #[]⟩,
  ⟨(.type "tuple"), none, (.seq #[(.str "self" 1185), (.str "key" 1186), (.str "size" 1187), (.str "itemsize" 1188)] 0), #[]⟩,
  ⟨(.type "tuple"), none, (.seq #[] 0), #[]⟩,
  ⟨.none, none, (.func (fd (sm 31 6) "__delitem__" "Cache.__delitem__" 0 .none .none .none .none (none) .none .none 0)), #[]⟩,
  ⟨(.type "code"), none, (.fields #[(.str "__delitem__" 1182), (.str "Cache.__delitem__" 1183), (.str "/claim/cut.py" 1184), (.int 417 0), (.int 2 0), (.int 0 0), (.int 0 0), (.int 3 0), (.ref 736), (.bool true), (.int 273 0), (.ref 737), .none, (.ref 738), (.ref 739), (.ref 740), (.int 1189 0), (.int 417 0), (.str "/claim/cut.py" 1190)]), #[]⟩,
  ⟨(.type "function"), none, (.func (fd (sm 31 6) "__delitem__" "Cache.__delitem__" 3 .none .none .none (.str "cachetools" 1128) (none) (.ref 741) .none 0)), #[]⟩,
  ⟨(.type "tuple"), none, (.seq #[] 0), #[]⟩,
  ⟨.none, none, (.fields #[]), #[]⟩,
  ⟨(.type "tuple"), none, (.seq #[(.str "self" 1195), (.str "key" 1196)] 0), #[]⟩,
  ⟨(.type "tuple"), none, (.seq #[] 0), #[]⟩,
  ⟨.none, none, (.func (fd (sm 31 7) "__contains__" "Cache.__contains__" 0 .none .none .none .none (none) .none .none 0)), #[]⟩,
  ⟨(.type "code"), none, (.fields #[(.str "__contains__" 1192), (.str "Cache.__contains__" 1193), (.str "/claim/cut.py" 1194), (.int 427 0), (.int 2 0), (.int 0 0), (.int 0 0), (.int 3 0), (.ref 743), (.bool true), (.int 273 0), (.ref 744), .none, (.ref 745), (.ref 746), (.ref 747), (.int 1197 0), (.int 427 0), (.str "/claim/cut.py" 1198)]), #[]⟩,
  ⟨(.type "function"), none, (.func (fd (sm 31 7) "__contains__" "Cache.__contains__" 3 .none .none .none (.str "cachetools" 1128) (none) (.ref 748) .none 0)), #[]⟩,
  ⟨(.type "tuple"), none, (.seq #[] 0), #[]⟩,
  ⟨.none, none, (.fields #[]), #[]⟩,
  ⟨(.type "tuple"), none, (.seq #[(.str "self" 1203), (.str "key" 1204)] 0), #[]⟩,
  ⟨(.type "tuple"), none, (.seq #[] 0), #[]⟩,
  ⟨.none, none, (.func (fd (sm 31 8) "__missing__" "Cache.__missing__" 0 .none .none .none .none (none) .none .none 0)), #[]⟩,
  ⟨(.type "code"), none, (.fields #[(.str "__missing__" 1200), (.str "Cache.__missing__" 1201), (.str "/claim/cut.py" 1202), (.int 430 0), (.int 2 0), (.int 0 0), (.int 0 0), (.int 3 0), (.ref 750), (.bool true), (.int 273 0), (.ref 751), .none, (.ref 752), (.ref 753), (.ref 754), (.int 1205 0), (.int 430 0), (.str "/claim/cut.py" 1206)]), #[]⟩,
  ⟨(.type "function"), none, (.func (fd (sm 31 8) "__missing__" "Cache.__missing__" 3 .none .none .none (.str "cachetools" 1128) (none) (.ref 755) .none 0)), #[]⟩,
  ⟨(.type "tuple"), none, (.seq #[] 0), #[]⟩,
  ⟨.none, none, (.fields #[]), #[]⟩,
  ⟨(.type "tuple"), none, (.seq #[(.str "self" 1211)] 0), #[]⟩,
  ⟨(.type "tuple"), none, (.seq #[] 0), #[]⟩,
  ⟨.none, none, (.func (fd (sm 31 9) "__iter__" "Cache.__iter__" 0 .none .none .none .none (none) .none .none 0)), #[]⟩,
  ⟨(.type "code"), none, (.fields #[(.str "__iter__" 1208), (.str "Cache.__iter__" 1209), (.str "/claim/cut.py" 1210), (.int 433 0), (.int 1 0), (.int 0 0), (.int 0 0), (.int 3 0), (.ref 757), (.bool true), (.int 273 0), (.ref 758), .none, (.ref 759), (.ref 760), (.ref 761), (.int 1212 0), (.int 433 0), (.str "/claim/cut.py" 1213)]), #[]⟩,
  ⟨(.type "function"), none, (.func (fd (sm 31 9) "__iter__" "Cache.__iter__" 3 .none .none .none (.str "cachetools" 1128) (none) (.ref 762) .none 0)), #[]⟩,
  ⟨(.type "tuple"), none, (.seq #[] 0), #[]⟩,
  ⟨.none, none, (.fields #[]), #[]⟩,
  ⟨(.type "tuple"), none, (.seq #[(.str "self" 1218)] 0), #[]⟩,
  ⟨(.type "tuple"), none, (.seq #[] 0), #[]⟩,
  ⟨.none, none, (.func (fd (sm 31 10) "__len__" "Cache.__len__" 0 .none .none .none .none (none) .none .none 0)), #[]⟩,
  ⟨(.type "code"), none, (.fields #[(.str "__len__" 1215), (.str "Cache.__len__" 1216), (.str "/claim/cut.py" 1217), (.int 436 0), (.int 1 0), (.int 0 0), (.int 0 0), (.int 3 0), (.ref 764), (.bool true), (.int 273 0), (.ref 765), .none, (.ref 766), (.ref 767), (.ref 768), (.int 1219 0), (.int 436 0), (.str "/claim/cut.py" 1220)]), #[]⟩,
  ⟨(.type "function"), none, (.func (fd (sm 31 10) "__len__" "Cache.__len__" 3 .none .none .none (.str "cachetools" 1128) (none) (.ref 769) .none 0)), #[]⟩,
  ⟨(.type "tuple"), none, (.seq #[.none] 0), #[]⟩,
  ⟨(.type "tuple"), none, (.seq #[] 0), #[]⟩,
  ⟨.none, none, (.fields #[]), #[]⟩,
  ⟨(.type "tuple"), none, (.seq #[(.str "self" 1225), (.str "key" 1226), (.str "default" 1227)] 0), #[]⟩,
  ⟨(.type "tuple"), none, (.seq #[] 0), #[]⟩,
  ⟨.none, none, (.func (fd (sm 31 11) "get" "Cache.get" 0 .none .none .none .none (none) .none .none 0)), #[]⟩,
  ⟨(.type "code"), none, (.fields #[(.str "get" 1222), (.str "Cache.get" 1223), (.str "/claim/cut.py" 1224), (.int 439 0), (.int 3 0), (.int 0 0), (.int 0 0), (.int 3 0), (.ref 772), (.bool true), (.int 273 0), (.ref 773), .none, (.ref 774), (.ref 775), (.ref 776), (.int 1228 0), (.int 439 0), (.str "/claim/cut.py" 1229)]), #[]⟩,
  ⟨(.type "function"), none, (.func (fd (sm 31 11) "get" "Cache.get" 3 (.ref 771) .none .none (.str "cachetools" 1128) (none) (.ref 777) .none 0)), #[]⟩,
  ⟨(.type "tuple"), none, (.seq #[(.ref 706)] 0), #[]⟩,
  ⟨(.type "tuple"), none, (.seq #[] 0), #[]⟩,
  ⟨.none, none, (.fields #[]), #[]⟩,
  ⟨(.type "tuple"), none, (.seq #[(.str "self" 1234), (.str "key" 1235), (.str "default" 1236), (.str "value" 1237)] 0), #[]⟩,
  ⟨(.type "tuple"), none, (.seq #[] 0), #[]⟩,
  ⟨.none, none, (.func (fd (sm 31 12) "pop" "Cache.pop" 0 .none .none .none .none (none) .none .none 0)), #[]⟩,
  ⟨(.type "code"), none, (.fields #[(.str "pop" 1231), (.str "Cache.pop" 1232), (.str "/claim/cut.py" 1233), (.int 445 0), (.int 3 0), (.int 0 0), (.int 0 0), (.int 3 0), (.ref 780), (.bool true), (.int 273 0), (.ref 781), .none, (.ref 782), (.ref 783), (.ref 784), (.int 1238 0), (.int 445 0), (.str "/claim/cut.py" 1239)]), #[]⟩,
  ⟨(.type "function"), none, (.func (fd (sm 31 12) "pop" "Cache.pop" 3 (.ref 779) .none .none (.str "cachetools" 1128) (none) (.ref 785) .none 0)), #[]⟩,
  ⟨(.type "tuple"), none, (.seq #[.none] 0), #[]⟩,
  ⟨(.type "tuple"), none, (.seq #[] 0), #[]⟩,
  ⟨.none, none, (.fields #[]), #[]⟩,
  ⟨(.type "tuple"), none, (.seq #[(.str "self" 1244), (.str "key" 1245), (.str "default" 1246)] 0), #[]⟩,
  ⟨(.type "tuple"), none, (.seq #[] 0), #[]⟩,
  ⟨.none, none, (.func (fd (sm 31 13) "setdefault" "Cache.setdefault" 0 .none .none .none .none (none) .none .none 0)), #[]⟩,
  ⟨(.type "code"), none, (.fields #[(.str "setdefault" 1241), (.str "Cache.setdefault" 1242), (.str "/claim/cut.py" 1243), (.int 455 0), (.int 3 0), (.int 0 0), (.int 0 0), (.int 3 0), (.ref 788), (.bool true), (.int 273 0), (.ref 789), .none, (.ref 790), (.ref 791), (.ref 792), (.int 1247 0), (.int 455 0), (.str "/claim/cut.py" 1248)]), #[]⟩,
  ⟨(.type "function"), none, (.func (fd (sm 31 13) "setdefault" "Cache.setdefault" 3 (.ref 787) .none .none (.str "cachetools" 1128) (none) (.ref 793) .none 0)), #[]⟩,
  ⟨(.type "tuple"), none, (.seq #[] 0), #[]⟩,
  ⟨.none, none, (.fields #[]), #[]⟩,
  ⟨(.type "tuple"), none, (.seq #[(.str "self" 1253), (.str "size" 1254)] 0), #[]⟩,
  ⟨(.type "tuple"), none, (.seq #[] 0), #[]⟩,
  ⟨.none, none, (.func (fd (sm 31 14) "clear" "Cache.clear" 0 .none .none .none .none (none) .none .none 0)), #[]⟩,
  ⟨(.type "code"), none, (.fields #[(.str "clear" 1250), (.str "Cache.clear" 1251), (.str "/claim/cut.py" 1252), (.int 458 0), (.int 1 0), (.int 0 0), (.int 0 0), (.int 3 0), (.ref 795), (.bool true), (.int 273 0), (.ref 796), .none, (.ref 797), (.ref 798), (.ref 799), (.int 1255 0), (.int 458 0), (.str "/claim/cut.py" 1256)]), #[]⟩,
  ⟨(.type "function"), none, (.func (fd (sm 31 14) "clear" "Cache.clear" 3 .none .none .none (.str "cachetools" 1128) (none) (.ref 800) .none 0)), #[]⟩,
  ⟨(.type "tuple"), none, (.seq #[] 0), #[]⟩,
  ⟨.none, none, (.fields #[]), #[]⟩,
  ⟨(.type "tuple"), none, (.seq #[(.str "self" 1261)] 0), #[]⟩,
  ⟨(.type "tuple"), none, (.seq #[] 0), #[]⟩,
  ⟨.none, none, (.func (fd (sm 31 15) "maxsize" "Cache.maxsize" 0 .none .none .none .none (none) .none .none 0)), #[]⟩,
  ⟨(.type "code"), none, (.fields #[(.str "maxsize" 1258), (.str "Cache.maxsize" 1259), (.str "/claim/cut.py" 1260), (.int 465 0), (.int 1 0), (.int 0 0), (.int 0 0), (.int 3 0), (.ref 802), (.bool true), (.int 273 0), (.ref 803), .none, (.ref 804), (.ref 805), (.ref 806), (.int 1262 0), (.int 465 0), (.str "/claim/cut.py" 1263)]), #[]⟩,
  ⟨(.type "function"), none, (.func (fd (sm 31 15) "maxsize" "Cache.maxsize" 3 .none .none .none (.str "cachetools" 1128) (none) (.ref 807) .none 0)), #[]⟩,
  ⟨(.type "property"), none, (.fields #[(.ref 808), .none, .none, .none, (.str "maxsize" 1265), (.bool false)]), #[]⟩,
  ⟨(.type "tuple"), none, (.seq #[] 0), #[]⟩,
  ⟨.none, none, (.fields #[]), #[]⟩,
  ⟨(.type "tuple"), none, (.seq #[(.str "self" 1269)] 0), #[]⟩,
  ⟨(.type "tuple"), none, (.seq #[] 0), #[]⟩,
  ⟨.none, none, (.func (fd (sm 31 16) "currsize" "Cache.currsize" 0 .none .none .none .none (none) .none .none 0)), #[]⟩,
  ⟨(.type "code"), none, (.fields #[(.str "currsize" 1266), (.str "Cache.currsize" 1267), (.str "/claim/cut.py" 1268), (.int 469 0), (.int 1 0), (.int 0 0), (.int 0 0), (.int 3 0), (.ref 810), (.bool true), (.int 273 0), (.ref 811), .none, (.ref 812), (.ref 813), (.ref 814), (.int 1270 0), (.int 469 0), (.str "/claim/cut.py" 1271)]), #[]⟩,
  ⟨(.type "function"), none, (.func (fd (sm 31 16) "currsize" "Cache.currsize" 3 .none .none .none (.str "cachetools" 1128) (none) (.ref 815) .none 0)), #[]⟩,
  ⟨(.type "property"), none, (.fields #[(.ref 816), .none, .none, .none, (.str "currsize" 1273), (.bool false)]), #[]⟩,
  ⟨(.type "tuple"), none, (.seq #[] 0), #[]⟩,
  ⟨.none, none, (.fields #[]), #[]⟩,
  ⟨(.type "tuple"), none, (.seq #[(.str "value" 1277)] 0), #[]⟩,
  ⟨(.type "tuple"), none, (.seq #[] 0), #[]⟩,
  ⟨.none, none, (.func (fd (sm 31 17) "getsizeof" "Cache.getsizeof" 0 .none .none .none .none (none) .none .none 0)), #[]⟩,
  ⟨(.type "code"), none, (.fields #[(.str "getsizeof" 1274), (.str "Cache.getsizeof" 1275), (.str "/claim/cut.py" 1276), (.int 473 0), (.int 1 0), (.int 0 0), (.int 0 0), (.int 3 0), (.ref 818), (.bool true), (.int 273 0), (.ref 819), .none, (.ref 820), (.ref 821), (.ref 822), (.int 1278 0), (.int 473 0), (.str "/claim/cut.py" 1279)]), #[]⟩,
  ⟨(.type "function"), none, (.func (fd (sm 31 17) "getsizeof" "Cache.getsizeof" 3 .none .none .none (.str "cachetools" 1128) (some 827) (.ref 823) .none 0)), #[]⟩,
  ⟨(.type "dict"), none, (.dict #[E P "__module__" 1281 (.str "cachetools" 1128), E P "__name__" 1284 (.str "getsizeof" 1283), E P "__qualname__" 1287 (.str "Cache.getsizeof" 1286), E P "__doc__" 1289 .none, E P "__annotations__" 1291 (.ref 827)] 5), #[]⟩,
  ⟨(.type "staticmethod"), some 825, (.fields #[(.ref 824), (.bool false)]), #[]⟩,
  ⟨(.type "dict"), none, (.dict #[] 0), #[]⟩,
  ⟨(.type "tuple"), none, (.seq #[(.str "__currsize" 1293), (.str "__data" 1294), (.str "__maxsize" 1295), (.str "__size" 1296), (.str "getsizeof" 1297)] 0), #[]⟩,
  ⟨(.type "dict"), none, (.dict #[E P "__module__" 1137 (.str "cachetools" 1128), E P "__firstlineno__" 1141 (.int 359 1140), E P "_Cache__marker" 1142 (.ref 706), E P "_Cache__size" 1143 .none, E P "__init__" 1152 (.ref 714), E P "__repr__" 1159 (.ref 721), E P "__getitem__" 1167 (.ref 728), E P "__setitem__" 1181 (.ref 735), E P "__delitem__" 1191 (.ref 742), E P "__contains__" 1199 (.ref 749), E P "__missing__" 1207 (.ref 756), E P "__iter__" 1214 (.ref 763), E P "__len__" 1221 (.ref 770), E P "get" 1230 (.ref 778), E P "pop" 1240 (.ref 786), E P "setdefault" 1249 (.ref 794), E P "clear" 1257 (.ref 801), E P "maxsize" 1265 (.ref 809), E P "currsize" 1273 (.ref 817), E P "getsizeof" 1292 (.ref 826), E P "__static_attributes__" 1298 (.ref 828), E P "__dict__" 1300 (.ref 831), E P "__weakref__" 1302 (.ref 832), E P "__doc__" 1303 .none] 4), #[]⟩,
  ⟨(.ref 89), none, (.cls ⟨"Cache", [(.ref 695)], [(.ref 830), (.ref 695), (.ref 443), (.ref 255), (.ref 196), (.ref 166), (.ref 232), (.type "object")], 829, "Cache", true, [], [], false, none, false⟩), #[some (.ref 699), none, some (.str "Cache" 1130), some (.str "Cache" 1138), some (.builtin "object.__new__"), some (.bool true)]⟩,
  ⟨(.type "getset_descriptor"), none, (.fields #[(.str "__dict__" 1299), (.ref 830), (.builtin "function.__dict__"), (.builtin "function.__dict__#set")]), #[]⟩,
  ⟨(.type "getset_descriptor"), none, (.fields #[(.str "__weakref__" 1301), (.ref 830), (.builtin "ExceptionGroup.__weakref__"), .none]), #[]⟩,
  ⟨(.type "super"), none, (.fields #[(.ref 830), (.ref 830), (.ref 830)]), #[]⟩,
  ⟨(.type "builtin_function_or_method"), none, (.fields #[(.builtin "object.__init_subclass__"), (.ref 830)]), #[]⟩]
def U15_3 (P : Params) : Obj := ⟨(.type "dict"), none, (.dict #[E P "__name__" 165 (.str "cachetools" 1128), E P "__doc__" 166 .none, E P "__package__" 167 .none, E P "__loader__" 168 (.builtin "__main__.__loader__#opaque"), E P "__spec__" 169 .none, E P "__annotations__" 170 (.ref 6), E P "__builtins__" 171 (.ref 4), E P "__file__" 173 (.str "/claim/cut.py" 172), E P "__cached__" 174 .none, E P "deque" 272 (.type "collections.deque"), E P "_wall" 285 (.ref 39), E P "ABCMeta" 311 (.ref 56), E P "_ABCLike" 354 (.ref 89), E P "_abc_plain_meta" 361 (.ref 98), E P "_abc_has_iter" 368 (.ref 105), E P "_abc_has_len" 375 (.ref 112), E P "_abc_has_contains" 382 (.ref 119), E P "_abc_is_mappingproxy" 389 (.ref 126), E P "_abc_is_builtin_collection" 396 (.ref 133), E P "Iterable" 437 (.ref 166), E P "Sized" 474 (.ref 196), E P "Container" 521 (.ref 232), E P "Collection" 551 (.ref 255), E P "Set" 708 (.ref 371), E P "Mapping" 796 (.ref 443), E P "MappingView" 864 (.ref 493), E P "KeysView" 924 (.ref 540), E P "ItemsView" 988 (.ref 585), E P "ValuesView" 1031 (.ref 620), E P "MutableMapping" 1118 (.ref 695), E P "Cache" 1305 (.ref 830)] 31), #[]⟩
def U15_30 (P : Params) : Obj := ⟨.none, none, (.fields #[(.int 2 0), (.int 0 0), (.ref 38), (.int 6 0), (.int 0 0), (.ref 45), (.int 11 0), (.int 0 0), (.ref 64), (.int 26 0), (.int 0 0), (.ref 97), (.int 29 0), (.int 0 0), (.ref 104), (.int 32 0), (.int 0 0), (.ref 111), (.int 35 0), (.int 0 0), (.ref 118), (.int 38 0), (.int 0 0), (.ref 125), (.int 40 0), (.int 0 0), (.ref 132), (.int 42 0), (.int 0 0), (.ref 139), (.int 58 0), (.int 0 0), (.ref 176), (.int 70 0), (.int 0 0), (.ref 205), (.int 85 0), (.int 0 0), (.ref 242), (.int 96 0), (.int 0 0), (.ref 264), (.int 185 0), (.int 0 0), (.ref 380), (.int 226 0), (.int 0 0), (.ref 452), (.int 247 0), (.int 0 0), (.ref 503), (.int 265 0), (.int 0 0), (.ref 548), (.int 290 0), (.int 0 0), (.ref 593), (.int 309 0), (.int 0 0), (.ref 628), (.int 359 0), (.int 0 0), (.ref 704)]), #[]⟩
def U15_695 (P : Params) : Obj := ⟨(.ref 89), none, (.cls ⟨"MutableMapping", [(.ref 443)], [(.ref 695), (.ref 443), (.ref 255), (.ref 196), (.ref 166), (.ref 232), (.type "object")], 694, "MutableMapping", false, [], [(.ref 830)], true, none, false⟩), #[some (.ref 623), none, some (.str "MutableMapping" 1032), some (.str "MutableMapping" 1040), some (.builtin "object.__new__"), some (.bool false)]⟩
def T15 (P : Params) : List Obj := app (upd (upd (upd (T14 P) 3 (U15_3 P)) 30 (U15_30 P)) 695 (U15_695 P)) (G15 P)
def G16 (P : Params) : List Obj := [
  ⟨(.type "tuple"), none, (.seq #[(.ref 830)] 0), #[]⟩,
  ⟨(.type "builtin_function_or_method"), none, (.fields #[(.builtin "type.__prepare__"), (.ref 89)]), #[]⟩,
  ⟨(.type "dict"), none, (.dict #[E P "__module__" 1313 (.str "cachetools" 1128), E P "__qualname__" 1315 (.str "RRCache" 1314), E P "__firstlineno__" 1317 (.int 476 1316), E P "__init__" 1327 (.ref 849), E P "choice" 1335 (.ref 857), E P "__setitem__" 1346 (.ref 865), E P "__delitem__" 1358 (.ref 873), E P "popitem" 1368 (.ref 880), E P "clear" 1375 (.ref 887), E P "__static_attributes__" 1379 (.ref 888)] 10), #[]⟩,
  ⟨(.type "tuple"), none, (.seq #[] 0), #[]⟩,
  ⟨.none, none, (.fields #[(.int 478 0), (.int 4 0), (.ref 848), (.int 485 0), (.int 4 0), (.ref 855), (.int 488 0), (.int 4 0), (.ref 864), (.int 494 0), (.int 4 0), (.ref 872), (.int 503 0), (.int 4 0), (.ref 879), (.int 512 0), (.int 4 0), (.ref 886)]), #[]⟩,
  ⟨(.type "code"), none, (.fields #[(.str "RRCache" 1308), (.str "RRCache" 1309), (.str "/claim/cut.py" 1310), (.int 476 0), (.int 0 0), (.int 0 0), (.int 0 0), (.int 0 0), (.ref 838), (.bool false), (.int 273 0), (.ref 839), .none, .none, .none, .none, (.int 1311 0), (.int 476 0), (.str "/claim/cut.py" 1312)]), #[]⟩,
  ⟨(.type "frame"), none, .plain, #[some (.ref 840), some (.ref 3), some (.ref 837), none, some (.str "cachetools" 1128), none, some (.ref 0)]⟩,
  ⟨(.type "tuple"), none, (.seq #[.none, .none] 0), #[]⟩,
  ⟨(.type "tuple"), none, (.seq #[] 0), #[]⟩,
  ⟨.none, none, (.fields #[]), #[]⟩,
  ⟨(.type "tuple"), none, (.seq #[(.str "self" 1321), (.str "maxsize" 1322), (.str "choice" 1323), (.str "getsizeof" 1324)] 0), #[]⟩,
  ⟨(.type "tuple"), none, (.seq #[] 0), #[]⟩,
  ⟨.none, none, (.func (fd (sm 32 0) "__init__" "RRCache.__init__" 0 .none .none .none .none (none) .none .none 0)), #[]⟩,
  ⟨(.type "code"), none, (.fields #[(.str "__init__" 1318), (.str "RRCache.__init__" 1319), (.str "/claim/cut.py" 1320), (.int 478 0), (.int 4 0), (.int 0 0), (.int 0 0), (.int 3 0), (.ref 843), (.bool true), (.int 273 0), (.ref 844), .none, (.ref 845), (.ref 846), (.ref 847), (.int 1325 0), (.int 478 0), (.str "/claim/cut.py" 1326)]), #[]⟩,
  ⟨(.type "function"), none, (.func (fd (sm 32 0) "__init__" "RRCache.__init__" 3 (.ref 842) .none .none (.str "cachetools" 1128) (none) (.ref 848) .none 0)), #[]⟩,
  ⟨(.type "tuple"), none, (.seq #[] 0), #[]⟩,
  ⟨.none, none, (.fields #[]), #[]⟩,
  ⟨(.type "tuple"), none, (.seq #[(.str "self" 1331)] 0), #[]⟩,
  ⟨(.type "tuple"), none, (.seq #[] 0), #[]⟩,
  ⟨.none, none, (.func (fd (sm 32 1) "choice" "RRCache.choice" 0 .none .none .none .none (none) .none .none 0)), #[]⟩,
  ⟨(.type "code"), none, (.fields #[(.str "choice" 1328), (.str "RRCache.choice" 1329), (.str "/claim/cut.py" 1330), (.int 484 0), (.int 1 0), (.int 0 0), (.int 0 0), (.int 3 0), (.ref 850), (.bool true), (.int 273 0), (.ref 851), .none, (.ref 852), (.ref 853), (.ref 854), (.int 1332 0), (.int 484 0), (.str "/claim/cut.py" 1333)]), #[]⟩,
  ⟨(.type "function"), none, (.func (fd (sm 32 1) "choice" "RRCache.choice" 3 .none .none .none (.str "cachetools" 1128) (none) (.ref 855) .none 0)), #[]⟩,
  ⟨(.type "property"), none, (.fields #[(.ref 856), .none, .none, .none, (.str "choice" 1335), (.bool false)]), #[]⟩,
  ⟨(.type "tuple"), none, (.seq #[(.ref 735)] 0), #[]⟩,
  ⟨(.type "tuple"), none, (.seq #[] 0), #[]⟩,
  ⟨.none, none, (.fields #[]), #[]⟩,
  ⟨(.type "tuple"), none, (.seq #[(.str "self" 1340), (.str "key" 1341), (.str "value" 1342), (.str "cache_setitem" 1343)] 0), #[]⟩,
  ⟨(.type "tuple"), none, (.seq #[] 0), #[]⟩,
  ⟨.none, none, (.func (fd (sm 32 2) "__setitem__" "RRCache.__setitem__" 0 .none .none .none .none (none) .none .none 0)), #[]⟩,
  ⟨(.type "code"), none, (.fields #[(.str "__setitem__" 1337), (.str "RRCache.__setitem__" 1338), (.str "/claim/cut.py" 1339), (.int 488 0), (.int 4 0), (.int 0 0), (.int 0 0), (.int 3 0), (.ref 859), (.bool true), (.int 273 0), (.ref 860), .none, (.ref 861), (.ref 862), (.ref 863), (.int 1344 0), (.int 488 0), (.str "/claim/cut.py" 1345)]), #[]⟩,
  ⟨(.type "function"), none, (.func (fd (sm 32 2) "__setitem__" "RRCache.__setitem__" 3 (.ref 858) .none .none (.str "cachetools" 1128) (none) (.ref 864) .none 0)), #[]⟩,
  ⟨(.type "tuple"), none, (.seq #[(.ref 742)] 0), #[]⟩,
  ⟨(.type "tuple"), none, (.seq #[] 0), #[]⟩,
  ⟨.none, none, (.fields #[]), #[]⟩,
  ⟨(.type "tuple"), none, (.seq #[(.str "self" 1351), (.str "key" 1352), (.str "cache_delitem" 1353), (.str "index" 1354), (.str "last" 1355)] 0), #[]⟩,
  ⟨(.type "tuple"), none, (.seq #[] 0), #[]⟩,
  ⟨.none, none, (.func (fd (sm 32 3) "__delitem__" "RRCache.__delitem__" 0 .none .none .none .none (none) .none .none 0)), #[]⟩,
  ⟨(.type "code"), none, (.fields #[(.str "__delitem__" 1348), (.str "RRCache.__delitem__" 1349), (.str "/claim/cut.py" 1350), (.int 494 0), (.int 3 0), (.int 0 0), (.int 0 0), (.int 3 0), (.ref 867), (.bool true), (.int 273 0), (.ref 868), .none, (.ref 869), (.ref 870), (.ref 871), (.int 1356 0), (.int 494 0), (.str "/claim/cut.py" 1357)]), #[]⟩,
  ⟨(.type "function"), none, (.func (fd (sm 32 3) "__delitem__" "RRCache.__delitem__" 3 (.ref 866) .none .none (.str "cachetools" 1128) (none) (.ref 872) .none 0)), #[]⟩,
  ⟨(.type "tuple"), none, (.seq #[] 0), #[]⟩,
  ⟨.none, none, (.fields #[]), #[]⟩,
  ⟨(.type "tuple"), none, (.seq #[(.str "self" 1362), (.str "keys" 1363), (.str "key" 1364), (.str "value" 1365)] 0), #[]⟩,
  ⟨(.type "tuple"), none, (.seq #[] 0), #[]⟩,
  ⟨.none, none, (.func (fd (sm 32 4) "popitem" "RRCache.popitem" 0 .none .none .none .none (none) .none .none 0)), #[]⟩,
  ⟨(.type "code"), none, (.fields #[(.str "popitem" 1359), (.str "RRCache.popitem" 1360), (.str "/claim/cut.py" 1361), (.int 503 0), (.int 1 0), (.int 0 0), (.int 0 0), (.int 3 0), (.ref 874), (.bool true), (.int 273 0), (.ref 875), .none, (.ref 876), (.ref 877), (.ref 878), (.int 1366 0), (.int 503 0), (.str "/claim/cut.py" 1367)]), #[]⟩,
  ⟨(.type "function"), none, (.func (fd (sm 32 4) "popitem" "RRCache.popitem" 3 .none .none .none (.str "cachetools" 1128) (none) (.ref 879) .none 0)), #[]⟩,
  ⟨(.type "tuple"), none, (.seq #[] 0), #[]⟩,
  ⟨.none, none, (.fields #[]), #[]⟩,
  ⟨(.type "tuple"), none, (.seq #[(.str "self" 1372)] 0), #[]⟩,
  ⟨(.type "tuple"), none, (.seq #[] 0), #[]⟩,
  ⟨.none, none, (.func (fd (sm 32 5) "clear" "RRCache.clear" 0 .none .none .none .none (none) .none .none 0)), #[]⟩,
  ⟨(.type "code"), none, (.fields #[(.str "clear" 1369), (.str "RRCache.clear" 1370), (.str "/claim/cut.py" 1371), (.int 512 0), (.int 1 0), (.int 0 0), (.int 0 0), (.int 3 0), (.ref 881), (.bool true), (.int 273 0), (.ref 882), .none, (.ref 883), (.ref 884), (.ref 885), (.int 1373 0), (.int 512 0), (.str "/claim/cut.py" 1374)]), #[]⟩,
  ⟨(.type "function"), none, (.func (fd (sm 32 5) "clear" "RRCache.clear" 3 .none .none .none (.str "cachetools" 1128) (none) (.ref 886) .none 0)), #[]⟩,
  ⟨(.type "tuple"), none, (.seq #[(.str "__choice" 1376), (.str "__index" 1377), (.str "__keys" 1378)] 0), #[]⟩,
  ⟨(.type "dict"), none, (.dict #[E P "__module__" 1313 (.str "cachetools" 1128), E P "__firstlineno__" 1317 (.int 476 1316), E P "__init__" 1327 (.ref 849), E P "choice" 1335 (.ref 857), E P "__setitem__" 1346 (.ref 865), E P "__delitem__" 1358 (.ref 873), E P "popitem" 1368 (.ref 880), E P "clear" 1375 (.ref 887), E P "__static_attributes__" 1379 (.ref 888), E P "__doc__" 1380 .none] 2), #[]⟩,
  ⟨(.ref 89), none, (.cls ⟨"RRCache", [(.ref 830)], [(.ref 890), (.ref 830), (.ref 695), (.ref 443), (.ref 255), (.ref 196), (.ref 166), (.ref 232), (.type "object")], 889, "RRCache", true, [], [], false, none, false⟩), #[some (.ref 835), none, some (.str "RRCache" 1306), some (.str "RRCache" 1314), some (.builtin "object.__new__"), some (.bool true)]⟩,
  ⟨(.type "super"), none, (.fields #[(.ref 890), (.ref 890), (.ref 890)]), #[]⟩,
  ⟨(.type "builtin_function_or_method"), none, (.fields #[(.builtin "object.__init_subclass__"), (.ref 890)]), #[]⟩]
def U16_3 (P : Params) : Obj := ⟨(.type "dict"), none, (.dict #[E P "__name__" 165 (.str "law_fc0033_01" 1383), E P "__doc__" 166 .none, E P "__package__" 167 .none, E P "__loader__" 168 (.builtin "__main__.__loader__#opaque"), E P "__spec__" 169 .none, E P "__annotations__" 170 (.ref 6), E P "__builtins__" 171 (.ref 4), E P "__file__" 173 (.str "/claim/cut.py" 172), E P "__cached__" 174 .none, E P "deque" 272 (.type "collections.deque"), E P "_wall" 285 (.ref 39), E P "ABCMeta" 311 (.ref 56), E P "_ABCLike" 354 (.ref 89), E P "_abc_plain_meta" 361 (.ref 98), E P "_abc_has_iter" 368 (.ref 105), E P "_abc_has_len" 375 (.ref 112), E P "_abc_has_contains" 382 (.ref 119), E P "_abc_is_mappingproxy" 389 (.ref 126), E P "_abc_is_builtin_collection" 396 (.ref 133), E P "Iterable" 437 (.ref 166), E P "Sized" 474 (.ref 196), E P "Container" 521 (.ref 232), E P "Collection" 551 (.ref 255), E P "Set" 708 (.ref 371), E P "Mapping" 796 (.ref 443), E P "MappingView" 864 (.ref 493), E P "KeysView" 924 (.ref 540), E P "ItemsView" 988 (.ref 585), E P "ValuesView" 1031 (.ref 620), E P "MutableMapping" 1118 (.ref 695), E P "Cache" 1305 (.ref 830), E P "RRCache" 1382 (.ref 890)] 32), #[]⟩
def U16_30 (P : Params) : Obj := ⟨.none, none, (.fields #[(.int 2 0), (.int 0 0), (.ref 38), (.int 6 0), (.int 0 0), (.ref 45), (.int 11 0), (.int 0 0), (.ref 64), (.int 26 0), (.int 0 0), (.ref 97), (.int 29 0), (.int 0 0), (.ref 104), (.int 32 0), (.int 0 0), (.ref 111), (.int 35 0), (.int 0 0), (.ref 118), (.int 38 0), (.int 0 0), (.ref 125), (.int 40 0), (.int 0 0), (.ref 132), (.int 42 0), (.int 0 0), (.ref 139), (.int 58 0), (.int 0 0), (.ref 176), (.int 70 0), (.int 0 0), (.ref 205), (.int 85 0), (.int 0 0), (.ref 242), (.int 96 0), (.int 0 0), (.ref 264), (.int 185 0), (.int 0 0), (.ref 380), (.int 226 0), (.int 0 0), (.ref 452), (.int 247 0), (.int 0 0), (.ref 503), (.int 265 0), (.int 0 0), (.ref 548), (.int 290 0), (.int 0 0), (.ref 593), (.int 309 0), (.int 0 0), (.ref 628), (.int 359 0), (.int 0 0), (.ref 704), (.int 476 0), (.int 0 0), (.ref 840)]), #[]⟩
def U16_830 (P : Params) : Obj := ⟨(.ref 89), none, (.cls ⟨"Cache", [(.ref 695)], [(.ref 830), (.ref 695), (.ref 443), (.ref 255), (.ref 196), (.ref 166), (.ref 232), (.type "object")], 829, "Cache", true, [], [(.ref 890)], false, none, false⟩), #[some (.ref 699), none, some (.str "Cache" 1130), some (.str "Cache" 1138), some (.builtin "object.__new__"), some (.bool true)]⟩
def T16 (P : Params) : List Obj := app (upd (upd (upd (T15 P) 3 (U16_3 P)) 30 (U16_30 P)) 830 (U16_830 P)) (G16 P)
def G17 (P : Params) : List Obj := [
  ⟨(.type "tuple"), none, (.seq #[] 0), #[]⟩,
  ⟨.none, none, (.fields #[]), #[]⟩,
  ⟨(.type "tuple"), none, (.seq #[(.str "state" 1388), (.str "limit" 1389)] 0), #[]⟩,
  ⟨(.type "tuple"), none, (.seq #[] 0), #[]⟩,
  ⟨.none, none, (.func (fd (st 34) "_law_next" "_law_next" 0 .none .none .none .none (none) .none .none 0)), #[]⟩,
  ⟨(.type "code"), none, (.fields #[(.str "_law_next" 1385), (.str "_law_next" 1386), (.str "/claim/cut.py" 1387), (.int 517 0), (.int 2 0), (.int 0 0), (.int 0 0), (.int 3 0), (.ref 893), (.bool true), (.int 273 0), (.ref 894), .none, (.ref 895), (.ref 896), (.ref 897), (.int 1390 0), (.int 517 0), (.str "/claim/cut.py" 1391)]), #[]⟩,
  ⟨(.type "function"), none, (.func (fd (st 34) "_law_next" "_law_next" 3 .none .none .none (.str "law_fc0033_01" 1383) (none) (.ref 898) .none 0)), #[]⟩,
  ⟨(.type "tuple"), none, (.seq #[] 0), #[]⟩,
  ⟨.none, none, (.fields #[]), #[]⟩,
  ⟨(.type "tuple"), none, (.seq #[(.str "draws" 1396), (.str "seen" 1397), (.str "chosen" 1398)] 0), #[]⟩,
  ⟨(.type "tuple"), none, (.seq #[(.str "draws" 1399), (.str "seen" 1400)] 0), #[]⟩,
  ⟨.none, none, (.func (fd (st 35) "_law_choice" "_law_choice" 0 .none .none .none .none (none) .none .none 0)), #[]⟩,
  ⟨(.type "code"), none, (.fields #[(.str "_law_choice" 1393), (.str "_law_choice" 1394), (.str "/claim/cut.py" 1395), (.int 522 0), (.int 2 0), (.int 0 0), (.int 0 0), (.int 3 0), (.ref 900), (.bool true), (.int 273 0), (.ref 901), .none, (.ref 902), (.ref 903), (.ref 904), (.int 1401 0), (.int 522 0), (.str "/claim/cut.py" 1402)]), #[]⟩,
  ⟨(.type "function"), none, (.func (fd (st 35) "_law_choice" "_law_choice" 3 .none .none .none (.str "law_fc0033_01" 1383) (none) (.ref 905) .none 0)), #[]⟩,
  ⟨(.type "tuple"), none, (.seq #[] 0), #[]⟩,
  ⟨.none, none, (.fields #[]), #[]⟩,
  ⟨(.type "tuple"), none, (.seq #[(.str "cache" 1407), (.str "kind" 1408), (.str "key" 1409), (.str "value" 1410)] 0), #[]⟩,
  ⟨(.type "tuple"), none, (.seq #[] 0), #[]⟩,
  ⟨.none, none, (.func (fd (st 36) "_law_deed" "_law_deed" 0 .none .none .none .none (none) .none .none 0)), #[]⟩,
  ⟨(.type "code"), none, (.fields #[(.str "_law_deed" 1404), (.str "_law_deed" 1405), (.str "/claim/cut.py" 1406), (.int 528 0), (.int 4 0), (.int 0 0), (.int 0 0), (.int 3 0), (.ref 907), (.bool true), (.int 273 0), (.ref 908), .none, (.ref 909), (.ref 910), (.ref 911), (.int 1411 0), (.int 528 0), (.str "/claim/cut.py" 1412)]), #[]⟩,
  ⟨(.type "function"), none, (.func (fd (st 36) "_law_deed" "_law_deed" 3 .none .none .none (.str "law_fc0033_01" 1383) (none) (.ref 912) .none 0)), #[]⟩,
  ⟨(.type "tuple"), none, (.seq #[] 0), #[]⟩,
  ⟨.none, none, (.fields #[]), #[]⟩,
  ⟨(.type "tuple"), none, (.seq #[(.str "room" 1417), (.str "deeds" 1418), (.str "draws" 1419), (.str "further" 1420), (.str "seen" 1421), (.str "left" 1422), (.str "cache" 1423), (.str "kind" 1424), (.str "key" 1425), (.str "value" 1426)] 0), #[]⟩,
  ⟨(.type "tuple"), none, (.seq #[] 0), #[]⟩,
  ⟨.none, none, (.func (fd (st 37) "_law_made" "_law_made" 0 .none .none .none .none (none) .none .none 0)), #[]⟩,
  ⟨(.type "code"), none, (.fields #[(.str "_law_made" 1414), (.str "_law_made" 1415), (.str "/claim/cut.py" 1416), (.int 543 0), (.int 5 0), (.int 0 0), (.int 0 0), (.int 3 0), (.ref 914), (.bool true), (.int 273 0), (.ref 915), .none, (.ref 916), (.ref 917), (.ref 918), (.int 1427 0), (.int 543 0), (.str "/claim/cut.py" 1428)]), #[]⟩,
  ⟨(.type "function"), none, (.func (fd (st 37) "_law_made" "_law_made" 3 .none .none .none (.str "law_fc0033_01" 1383) (none) (.ref 919) .none 0)), #[]⟩,
  ⟨(.type "tuple"), none, (.seq #[] 0), #[]⟩,
  ⟨.none, none, (.fields #[]), #[]⟩,
  ⟨.none, none, (.func (fd (st 38) "_law_rows" "_law_rows" 0 .none .none .none .none (none) .none .none 0)), #[]⟩,
  ⟨(.type "code"), none, (.fields #[(.str "_law_rows" 1430), (.str "_law_rows" 1431), (.str "/claim/cut.py" 1432), (.int 551 0), (.int 1 0), (.int 0 0), (.int 0 0), (.int 3 0), (.ref 921), (.bool true), (.int 273 0), (.ref 922), .none, .none, .none, (.ref 923), (.int 1433 0), (.int 551 0), (.str "/claim/cut.py" 1434)]), #[]⟩,
  ⟨(.type "function"), none, (.func (fd (st 38) "_law_rows" "_law_rows" 3 .none .none .none (.str "law_fc0033_01" 1383) (none) (.ref 924) .none 0)), #[]⟩,
  ⟨(.type "tuple"), none, (.seq #[] 0), #[]⟩,
  ⟨.none, none, (.fields #[]), #[]⟩,
  ⟨.none, none, (.func (fd (st 39) "law" "law" 0 .none .none .none .none (none) .none .none 0)), #[]⟩,
  ⟨(.type "code"), none, (.fields #[(.str "law" 1436), (.str "law" 1437), (.str "/claim/cut.py" 1438), (.int 555 0), (.int 1 0), (.int 0 0), (.int 0 0), (.int 3 0), (.ref 926), (.bool true), (.int 273 0), (.ref 927), .none, .none, .none, (.ref 928), (.int 1439 0), (.int 555 0), (.str "/claim/cut.py" 1440)]), #[]⟩,
  ⟨(.type "function"), none, (.func (fd (st 39) "law" "law" 3 .none .none .none (.str "law_fc0033_01" 1383) (none) (.ref 929) .none 0)), #[]⟩]
def U17_3 (P : Params) : Obj := ⟨(.type "dict"), none, (.dict #[E P "__name__" 165 (.str "law_fc0033_01" 1383), E P "__doc__" 166 .none, E P "__package__" 167 .none, E P "__loader__" 168 (.builtin "__main__.__loader__#opaque"), E P "__spec__" 169 .none, E P "__annotations__" 170 (.ref 6), E P "__builtins__" 171 (.ref 4), E P "__file__" 173 (.str "/claim/cut.py" 172), E P "__cached__" 174 .none, E P "deque" 272 (.type "collections.deque"), E P "_wall" 285 (.ref 39), E P "ABCMeta" 311 (.ref 56), E P "_ABCLike" 354 (.ref 89), E P "_abc_plain_meta" 361 (.ref 98), E P "_abc_has_iter" 368 (.ref 105), E P "_abc_has_len" 375 (.ref 112), E P "_abc_has_contains" 382 (.ref 119), E P "_abc_is_mappingproxy" 389 (.ref 126), E P "_abc_is_builtin_collection" 396 (.ref 133), E P "Iterable" 437 (.ref 166), E P "Sized" 474 (.ref 196), E P "Container" 521 (.ref 232), E P "Collection" 551 (.ref 255), E P "Set" 708 (.ref 371), E P "Mapping" 796 (.ref 443), E P "MappingView" 864 (.ref 493), E P "KeysView" 924 (.ref 540), E P "ItemsView" 988 (.ref 585), E P "ValuesView" 1031 (.ref 620), E P "MutableMapping" 1118 (.ref 695), E P "Cache" 1305 (.ref 830), E P "RRCache" 1382 (.ref 890), E P "_law_next" 1392 (.ref 899), E P "_law_choice" 1403 (.ref 906), E P "_law_deed" 1413 (.ref 913), E P "_law_made" 1429 (.ref 920), E P "_law_rows" 1435 (.ref 925), E P "law" 1441 (.ref 930)] 38), #[]⟩
def U17_30 (P : Params) : Obj := ⟨.none, none, (.fields #[(.int 2 0), (.int 0 0), (.ref 38), (.int 6 0), (.int 0 0), (.ref 45), (.int 11 0), (.int 0 0), (.ref 64), (.int 26 0), (.int 0 0), (.ref 97), (.int 29 0), (.int 0 0), (.ref 104), (.int 32 0), (.int 0 0), (.ref 111), (.int 35 0), (.int 0 0), (.ref 118), (.int 38 0), (.int 0 0), (.ref 125), (.int 40 0), (.int 0 0), (.ref 132), (.int 42 0), (.int 0 0), (.ref 139), (.int 58 0), (.int 0 0), (.ref 176), (.int 70 0), (.int 0 0), (.ref 205), (.int 85 0), (.int 0 0), (.ref 242), (.int 96 0), (.int 0 0), (.ref 264), (.int 185 0), (.int 0 0), (.ref 380), (.int 226 0), (.int 0 0), (.ref 452), (.int 247 0), (.int 0 0), (.ref 503), (.int 265 0), (.int 0 0), (.ref 548), (.int 290 0), (.int 0 0), (.ref 593), (.int 309 0), (.int 0 0), (.ref 628), (.int 359 0), (.int 0 0), (.ref 704), (.int 476 0), (.int 0 0), (.ref 840), (.int 517 0), (.int 0 0), (.ref 898), (.int 522 0), (.int 0 0), (.ref 905), (.int 528 0), (.int 0 0), (.ref 912), (.int 543 0), (.int 0 0), (.ref 919), (.int 551 0), (.int 0 0), (.ref 924), (.int 555 0), (.int 0 0), (.ref 929)]), #[]⟩
def T17 (P : Params) : List Obj := app (upd (upd (T16 P) 3 (U17_3 P)) 30 (U17_30 P)) (G17 P)
def code1 : Value := (.ref 31)
def frame1 : Nat := 32
def q1 : Pos := ⟨0, 0, 0, 0⟩
def Pre12 (P : Params) : Obj := ⟨(.type "dict"), none, (.dict #[E P "__name__" 250 (.str "_collections" 249), E P "__doc__" 251 (.builtin "_collections.__doc__:str#opaque"), E P "__package__" 253 (.str "" 252), E P "__loader__" 254 (.ref 15), E P "__spec__" 255 (.ref 27), E P "_count_elements" 256 (.builtin "_collections._count_elements"), E P "deque" 257 (.type "collections.deque"), E P "defaultdict" 258 (.type "collections.defaultdict"), E P "_deque_iterator" 259 (.type "collections._deque_iterator"), E P "_deque_reverse_iterator" 260 (.type "collections._deque_reverse_iterator"), E P "_tuplegetter" 261 (.type "collections._tuplegetter"), E P "OrderedDict" 262 (.type "collections.OrderedDict")] 12), #[]⟩
def Te (P : Params) : List Obj := upd (G0 P) 12 (Pre12 P)
def sts0 : List Stmt := [st 1, st 2, st 3, st 4, st 5, st 6, st 7, st 8, st 9]
def sts1 : List Stmt := [st 10, st 11, st 12, st 13]
def sts2 : List Stmt := [st 14, st 15]
def sts3 : List Stmt := [st 16, st 17]
def sts4 : List Stmt := [st 18, st 19]
def sts5 : List Stmt := [st 20]
def sts6 : List Stmt := [st 21, st 22]
def sts7 : List Stmt := [st 23, st 24]
def sts8 : List Stmt := [st 25]
def sts9 : List Stmt := [st 26]
def sts10 : List Stmt := [st 27]
def sts11 : List Stmt := [st 28, st 29]
def sts12 : List Stmt := [st 30]
def sts13 : List Stmt := [st 31]
def sts14 : List Stmt := [st 32, st 33]
def sts15 : List Stmt := [st 34, st 35, st 36, st 37, st 38, st 39]
def K (P : Params) : Frag :=
  (nat_lit 3, (⟨(.type "dict"), none, (.dict #[E P "__name__" 165 (.str "law_fc0033_01" 1383), E P "__doc__" 166 .none, E P "__package__" 167 .none, E P "__loader__" 168 (.builtin "__main__.__loader__#opaque"), E P "__spec__" 169 .none, E P "__annotations__" 170 (.ref 6), E P "__builtins__" 171 (.ref 4), E P "__file__" 173 (.str "/claim/cut.py" 172), E P "__cached__" 174 .none, E P "deque" 272 (.type "collections.deque"), E P "_wall" 285 (.ref 39), E P "ABCMeta" 311 (.ref 56), E P "_ABCLike" 354 (.ref 89), E P "_abc_plain_meta" 361 (.ref 98), E P "_abc_has_iter" 368 (.ref 105), E P "_abc_has_len" 375 (.ref 112), E P "_abc_has_contains" 382 (.ref 119), E P "_abc_is_mappingproxy" 389 (.ref 126), E P "_abc_is_builtin_collection" 396 (.ref 133), E P "Iterable" 437 (.ref 166), E P "Sized" 474 (.ref 196), E P "Container" 521 (.ref 232), E P "Collection" 551 (.ref 255), E P "Set" 708 (.ref 371), E P "Mapping" 796 (.ref 443), E P "MappingView" 864 (.ref 493), E P "KeysView" 924 (.ref 540), E P "ItemsView" 988 (.ref 585), E P "ValuesView" 1031 (.ref 620), E P "MutableMapping" 1118 (.ref 695), E P "Cache" 1305 (.ref 830), E P "RRCache" 1382 (.ref 890), E P "_law_next" 1392 (.ref 899), E P "_law_choice" 1403 (.ref 906), E P "_law_deed" 1413 (.ref 913), E P "_law_made" 1429 (.ref 920), E P "_law_rows" 1435 (.ref 925), E P "law" 1441 (.ref 930)] 38), #[]⟩ : Obj)) ::
  (nat_lit 890, (⟨(.ref 89), none, (.cls ⟨"RRCache", [(.ref 830)], [(.ref 890), (.ref 830), (.ref 695), (.ref 443), (.ref 255), (.ref 196), (.ref 166), (.ref 232), (.type "object")], 889, "RRCache", true, [], [], false, none, false⟩), #[some (.ref 835), none, some (.str "RRCache" 1306), some (.str "RRCache" 1314), some (.builtin "object.__new__"), some (.bool true)]⟩ : Obj)) ::
  (nat_lit 830, (⟨(.ref 89), none, (.cls ⟨"Cache", [(.ref 695)], [(.ref 830), (.ref 695), (.ref 443), (.ref 255), (.ref 196), (.ref 166), (.ref 232), (.type "object")], 829, "Cache", true, [], [(.ref 890)], false, none, false⟩), #[some (.ref 699), none, some (.str "Cache" 1130), some (.str "Cache" 1138), some (.builtin "object.__new__"), some (.bool true)]⟩ : Obj)) ::
  (nat_lit 889, (⟨(.type "dict"), none, (.dict #[E P "__module__" 1313 (.str "cachetools" 1128), E P "__firstlineno__" 1317 (.int 476 1316), E P "__init__" 1327 (.ref 849), E P "choice" 1335 (.ref 857), E P "__setitem__" 1346 (.ref 865), E P "__delitem__" 1358 (.ref 873), E P "popitem" 1368 (.ref 880), E P "clear" 1375 (.ref 887), E P "__static_attributes__" 1379 (.ref 888), E P "__doc__" 1380 .none] 2), #[]⟩ : Obj)) ::
  (nat_lit 829, (⟨(.type "dict"), none, (.dict #[E P "__module__" 1137 (.str "cachetools" 1128), E P "__firstlineno__" 1141 (.int 359 1140), E P "_Cache__marker" 1142 (.ref 706), E P "_Cache__size" 1143 .none, E P "__init__" 1152 (.ref 714), E P "__repr__" 1159 (.ref 721), E P "__getitem__" 1167 (.ref 728), E P "__setitem__" 1181 (.ref 735), E P "__delitem__" 1191 (.ref 742), E P "__contains__" 1199 (.ref 749), E P "__missing__" 1207 (.ref 756), E P "__iter__" 1214 (.ref 763), E P "__len__" 1221 (.ref 770), E P "get" 1230 (.ref 778), E P "pop" 1240 (.ref 786), E P "setdefault" 1249 (.ref 794), E P "clear" 1257 (.ref 801), E P "maxsize" 1265 (.ref 809), E P "currsize" 1273 (.ref 817), E P "getsizeof" 1292 (.ref 826), E P "__static_attributes__" 1298 (.ref 828), E P "__dict__" 1300 (.ref 831), E P "__weakref__" 1302 (.ref 832), E P "__doc__" 1303 .none] 4), #[]⟩ : Obj)) ::
  (nat_lit 849, (⟨(.type "function"), none, (.func (fd (sm 32 0) "__init__" "RRCache.__init__" 3 (.ref 842) .none .none (.str "cachetools" 1128) (none) (.ref 848) .none 0)), #[]⟩ : Obj)) ::
  (nat_lit 848, (⟨(.type "code"), none, (.fields #[(.str "__init__" 1318), (.str "RRCache.__init__" 1319), (.str "/claim/cut.py" 1320), (.int 478 0), (.int 4 0), (.int 0 0), (.int 0 0), (.int 3 0), (.ref 843), (.bool true), (.int 273 0), (.ref 844), .none, (.ref 845), (.ref 846), (.ref 847), (.int 1325 0), (.int 478 0), (.str "/claim/cut.py" 1326)]), #[]⟩ : Obj)) ::
  (nat_lit 842, (⟨(.type "tuple"), none, (.seq #[.none, .none] 0), #[]⟩ : Obj)) ::
  (nat_lit 857, (⟨(.type "property"), none, (.fields #[(.ref 856), .none, .none, .none, (.str "choice" 1335), (.bool false)]), #[]⟩ : Obj)) ::
  (nat_lit 856, (⟨(.type "function"), none, (.func (fd (sm 32 1) "choice" "RRCache.choice" 3 .none .none .none (.str "cachetools" 1128) (none) (.ref 855) .none 0)), #[]⟩ : Obj)) ::
  (nat_lit 855, (⟨(.type "code"), none, (.fields #[(.str "choice" 1328), (.str "RRCache.choice" 1329), (.str "/claim/cut.py" 1330), (.int 484 0), (.int 1 0), (.int 0 0), (.int 0 0), (.int 3 0), (.ref 850), (.bool true), (.int 273 0), (.ref 851), .none, (.ref 852), (.ref 853), (.ref 854), (.int 1332 0), (.int 484 0), (.str "/claim/cut.py" 1333)]), #[]⟩ : Obj)) ::
  (nat_lit 865, (⟨(.type "function"), none, (.func (fd (sm 32 2) "__setitem__" "RRCache.__setitem__" 3 (.ref 858) .none .none (.str "cachetools" 1128) (none) (.ref 864) .none 0)), #[]⟩ : Obj)) ::
  (nat_lit 864, (⟨(.type "code"), none, (.fields #[(.str "__setitem__" 1337), (.str "RRCache.__setitem__" 1338), (.str "/claim/cut.py" 1339), (.int 488 0), (.int 4 0), (.int 0 0), (.int 0 0), (.int 3 0), (.ref 859), (.bool true), (.int 273 0), (.ref 860), .none, (.ref 861), (.ref 862), (.ref 863), (.int 1344 0), (.int 488 0), (.str "/claim/cut.py" 1345)]), #[]⟩ : Obj)) ::
  (nat_lit 858, (⟨(.type "tuple"), none, (.seq #[(.ref 735)] 0), #[]⟩ : Obj)) ::
  (nat_lit 873, (⟨(.type "function"), none, (.func (fd (sm 32 3) "__delitem__" "RRCache.__delitem__" 3 (.ref 866) .none .none (.str "cachetools" 1128) (none) (.ref 872) .none 0)), #[]⟩ : Obj)) ::
  (nat_lit 872, (⟨(.type "code"), none, (.fields #[(.str "__delitem__" 1348), (.str "RRCache.__delitem__" 1349), (.str "/claim/cut.py" 1350), (.int 494 0), (.int 3 0), (.int 0 0), (.int 0 0), (.int 3 0), (.ref 867), (.bool true), (.int 273 0), (.ref 868), .none, (.ref 869), (.ref 870), (.ref 871), (.int 1356 0), (.int 494 0), (.str "/claim/cut.py" 1357)]), #[]⟩ : Obj)) ::
  (nat_lit 866, (⟨(.type "tuple"), none, (.seq #[(.ref 742)] 0), #[]⟩ : Obj)) ::
  (nat_lit 880, (⟨(.type "function"), none, (.func (fd (sm 32 4) "popitem" "RRCache.popitem" 3 .none .none .none (.str "cachetools" 1128) (none) (.ref 879) .none 0)), #[]⟩ : Obj)) ::
  (nat_lit 879, (⟨(.type "code"), none, (.fields #[(.str "popitem" 1359), (.str "RRCache.popitem" 1360), (.str "/claim/cut.py" 1361), (.int 503 0), (.int 1 0), (.int 0 0), (.int 0 0), (.int 3 0), (.ref 874), (.bool true), (.int 273 0), (.ref 875), .none, (.ref 876), (.ref 877), (.ref 878), (.int 1366 0), (.int 503 0), (.str "/claim/cut.py" 1367)]), #[]⟩ : Obj)) ::
  (nat_lit 887, (⟨(.type "function"), none, (.func (fd (sm 32 5) "clear" "RRCache.clear" 3 .none .none .none (.str "cachetools" 1128) (none) (.ref 886) .none 0)), #[]⟩ : Obj)) ::
  (nat_lit 886, (⟨(.type "code"), none, (.fields #[(.str "clear" 1369), (.str "RRCache.clear" 1370), (.str "/claim/cut.py" 1371), (.int 512 0), (.int 1 0), (.int 0 0), (.int 0 0), (.int 3 0), (.ref 881), (.bool true), (.int 273 0), (.ref 882), .none, (.ref 883), (.ref 884), (.ref 885), (.int 1373 0), (.int 512 0), (.str "/claim/cut.py" 1374)]), #[]⟩ : Obj)) ::
  (nat_lit 888, (⟨(.type "tuple"), none, (.seq #[(.str "__choice" 1376), (.str "__index" 1377), (.str "__keys" 1378)] 0), #[]⟩ : Obj)) ::
  (nat_lit 706, (⟨(.type "object"), none, .plain, #[]⟩ : Obj)) ::
  (nat_lit 714, (⟨(.type "function"), none, (.func (fd (sm 31 2) "__init__" "Cache.__init__" 3 (.ref 707) .none .none (.str "cachetools" 1128) (none) (.ref 713) .none 0)), #[]⟩ : Obj)) ::
  (nat_lit 713, (⟨(.type "code"), none, (.fields #[(.str "__init__" 1144), (.str "Cache.__init__" 1145), (.str "/claim/cut.py" 1146), (.int 363 0), (.int 3 0), (.int 0 0), (.int 0 0), (.int 3 0), (.ref 708), (.bool true), (.int 273 0), (.ref 709), .none, (.ref 710), (.ref 711), (.ref 712), (.int 1150 0), (.int 363 0), (.str "/claim/cut.py" 1151)]), #[]⟩ : Obj)) ::
  (nat_lit 707, (⟨(.type "tuple"), none, (.seq #[.none] 0), #[]⟩ : Obj)) ::
  (nat_lit 721, (⟨(.type "function"), none, (.func (fd (sm 31 3) "__repr__" "Cache.__repr__" 3 .none .none .none (.str "cachetools" 1128) (none) (.ref 720) .none 0)), #[]⟩ : Obj)) ::
  (nat_lit 720, (⟨(.type "code"), none, (.fields #[(.str "__repr__" 1153), (.str "Cache.__repr__" 1154), (.str "/claim/cut.py" 1155), (.int 374 0), (.int 1 0), (.int 0 0), (.int 0 0), (.int 3 0), (.ref 715), (.bool true), (.int 273 0), (.ref 716), .none, (.ref 717), (.ref 718), (.ref 719), (.int 1157 0), (.int 374 0), (.str "/claim/cut.py" 1158)]), #[]⟩ : Obj)) ::
  (nat_lit 728, (⟨(.type "function"), none, (.func (fd (sm 31 4) "__getitem__" "Cache.__getitem__" 3 .none .none .none (.str "cachetools" 1128) (none) (.ref 727) .none 0)), #[]⟩ : Obj)) ::
  (nat_lit 727, (⟨(.type "code"), none, (.fields #[(.str "__getitem__" 1160), (.str "Cache.__getitem__" 1161), (.str "/claim/cut.py" 1162), (.int 377 0), (.int 2 0), (.int 0 0), (.int 0 0), (.int 3 0), (.ref 722), (.bool true), (.int 273 0), (.ref 723), .none, (.ref 724), (.ref 725), (.ref 726), (.int 1165 0), (.int 377 0), (.str "/claim/cut.py" 1166)]), #[]⟩ : Obj)) ::
  (nat_lit 735, (⟨(.type "function"), none, (.func (fd (sm 31 5) "__setitem__" "Cache.__setitem__" 3 .none .none .none (.str "cachetools" 1128) (none) (.ref 734) .none 0)), #[]⟩ : Obj)) ::
  (nat_lit 734, (⟨(.type "code"), none, (.fields #[(.str "__setitem__" 1168), (.str "Cache.__setitem__" 1169), (.str "/claim/cut.py" 1170), (.int 383 0), (.int 3 0), (.int 0 0), (.int 0 0), (.int 3 0), (.ref 729), (.bool true), (.int 273 0), (.ref 730), .none, (.ref 731), (.ref 732), (.ref 733), (.int 1179 0), (.int 383 0), (.str "/claim/cut.py" 1180)]), #[]⟩ : Obj)) ::
  (nat_lit 742, (⟨(.type "function"), none, (.func (fd (sm 31 6) "__delitem__" "Cache.__delitem__" 3 .none .none .none (.str "cachetools" 1128) (none) (.ref 741) .none 0)), #[]⟩ : Obj)) ::
  (nat_lit 741, (⟨(.type "code"), none, (.fields #[(.str "__delitem__" 1182), (.str "Cache.__delitem__" 1183), (.str "/claim/cut.py" 1184), (.int 417 0), (.int 2 0), (.int 0 0), (.int 0 0), (.int 3 0), (.ref 736), (.bool true), (.int 273 0), (.ref 737), .none, (.ref 738), (.ref 739), (.ref 740), (.int 1189 0), (.int 417 0), (.str "/claim/cut.py" 1190)]), #[]⟩ : Obj)) ::
  (nat_lit 749, (⟨(.type "function"), none, (.func (fd (sm 31 7) "__contains__" "Cache.__contains__" 3 .none .none .none (.str "cachetools" 1128) (none) (.ref 748) .none 0)), #[]⟩ : Obj)) ::
  (nat_lit 748, (⟨(.type "code"), none, (.fields #[(.str "__contains__" 1192), (.str "Cache.__contains__" 1193), (.str "/claim/cut.py" 1194), (.int 427 0), (.int 2 0), (.int 0 0), (.int 0 0), (.int 3 0), (.ref 743), (.bool true), (.int 273 0), (.ref 744), .none, (.ref 745), (.ref 746), (.ref 747), (.int 1197 0), (.int 427 0), (.str "/claim/cut.py" 1198)]), #[]⟩ : Obj)) ::
  (nat_lit 756, (⟨(.type "function"), none, (.func (fd (sm 31 8) "__missing__" "Cache.__missing__" 3 .none .none .none (.str "cachetools" 1128) (none) (.ref 755) .none 0)), #[]⟩ : Obj)) ::
  (nat_lit 755, (⟨(.type "code"), none, (.fields #[(.str "__missing__" 1200), (.str "Cache.__missing__" 1201), (.str "/claim/cut.py" 1202), (.int 430 0), (.int 2 0), (.int 0 0), (.int 0 0), (.int 3 0), (.ref 750), (.bool true), (.int 273 0), (.ref 751), .none, (.ref 752), (.ref 753), (.ref 754), (.int 1205 0), (.int 430 0), (.str "/claim/cut.py" 1206)]), #[]⟩ : Obj)) ::
  (nat_lit 763, (⟨(.type "function"), none, (.func (fd (sm 31 9) "__iter__" "Cache.__iter__" 3 .none .none .none (.str "cachetools" 1128) (none) (.ref 762) .none 0)), #[]⟩ : Obj)) ::
  (nat_lit 762, (⟨(.type "code"), none, (.fields #[(.str "__iter__" 1208), (.str "Cache.__iter__" 1209), (.str "/claim/cut.py" 1210), (.int 433 0), (.int 1 0), (.int 0 0), (.int 0 0), (.int 3 0), (.ref 757), (.bool true), (.int 273 0), (.ref 758), .none, (.ref 759), (.ref 760), (.ref 761), (.int 1212 0), (.int 433 0), (.str "/claim/cut.py" 1213)]), #[]⟩ : Obj)) ::
  (nat_lit 770, (⟨(.type "function"), none, (.func (fd (sm 31 10) "__len__" "Cache.__len__" 3 .none .none .none (.str "cachetools" 1128) (none) (.ref 769) .none 0)), #[]⟩ : Obj)) ::
  (nat_lit 769, (⟨(.type "code"), none, (.fields #[(.str "__len__" 1215), (.str "Cache.__len__" 1216), (.str "/claim/cut.py" 1217), (.int 436 0), (.int 1 0), (.int 0 0), (.int 0 0), (.int 3 0), (.ref 764), (.bool true), (.int 273 0), (.ref 765), .none, (.ref 766), (.ref 767), (.ref 768), (.int 1219 0), (.int 436 0), (.str "/claim/cut.py" 1220)]), #[]⟩ : Obj)) ::
  (nat_lit 778, (⟨(.type "function"), none, (.func (fd (sm 31 11) "get" "Cache.get" 3 (.ref 771) .none .none (.str "cachetools" 1128) (none) (.ref 777) .none 0)), #[]⟩ : Obj)) ::
  (nat_lit 777, (⟨(.type "code"), none, (.fields #[(.str "get" 1222), (.str "Cache.get" 1223), (.str "/claim/cut.py" 1224), (.int 439 0), (.int 3 0), (.int 0 0), (.int 0 0), (.int 3 0), (.ref 772), (.bool true), (.int 273 0), (.ref 773), .none, (.ref 774), (.ref 775), (.ref 776), (.int 1228 0), (.int 439 0), (.str "/claim/cut.py" 1229)]), #[]⟩ : Obj)) ::
  (nat_lit 771, (⟨(.type "tuple"), none, (.seq #[.none] 0), #[]⟩ : Obj)) ::
  (nat_lit 786, (⟨(.type "function"), none, (.func (fd (sm 31 12) "pop" "Cache.pop" 3 (.ref 779) .none .none (.str "cachetools" 1128) (none) (.ref 785) .none 0)), #[]⟩ : Obj)) ::
  (nat_lit 785, (⟨(.type "code"), none, (.fields #[(.str "pop" 1231), (.str "Cache.pop" 1232), (.str "/claim/cut.py" 1233), (.int 445 0), (.int 3 0), (.int 0 0), (.int 0 0), (.int 3 0), (.ref 780), (.bool true), (.int 273 0), (.ref 781), .none, (.ref 782), (.ref 783), (.ref 784), (.int 1238 0), (.int 445 0), (.str "/claim/cut.py" 1239)]), #[]⟩ : Obj)) ::
  (nat_lit 779, (⟨(.type "tuple"), none, (.seq #[(.ref 706)] 0), #[]⟩ : Obj)) ::
  (nat_lit 794, (⟨(.type "function"), none, (.func (fd (sm 31 13) "setdefault" "Cache.setdefault" 3 (.ref 787) .none .none (.str "cachetools" 1128) (none) (.ref 793) .none 0)), #[]⟩ : Obj)) ::
  (nat_lit 793, (⟨(.type "code"), none, (.fields #[(.str "setdefault" 1241), (.str "Cache.setdefault" 1242), (.str "/claim/cut.py" 1243), (.int 455 0), (.int 3 0), (.int 0 0), (.int 0 0), (.int 3 0), (.ref 788), (.bool true), (.int 273 0), (.ref 789), .none, (.ref 790), (.ref 791), (.ref 792), (.int 1247 0), (.int 455 0), (.str "/claim/cut.py" 1248)]), #[]⟩ : Obj)) ::
  (nat_lit 787, (⟨(.type "tuple"), none, (.seq #[.none] 0), #[]⟩ : Obj)) ::
  (nat_lit 801, (⟨(.type "function"), none, (.func (fd (sm 31 14) "clear" "Cache.clear" 3 .none .none .none (.str "cachetools" 1128) (none) (.ref 800) .none 0)), #[]⟩ : Obj)) ::
  (nat_lit 800, (⟨(.type "code"), none, (.fields #[(.str "clear" 1250), (.str "Cache.clear" 1251), (.str "/claim/cut.py" 1252), (.int 458 0), (.int 1 0), (.int 0 0), (.int 0 0), (.int 3 0), (.ref 795), (.bool true), (.int 273 0), (.ref 796), .none, (.ref 797), (.ref 798), (.ref 799), (.int 1255 0), (.int 458 0), (.str "/claim/cut.py" 1256)]), #[]⟩ : Obj)) ::
  (nat_lit 809, (⟨(.type "property"), none, (.fields #[(.ref 808), .none, .none, .none, (.str "maxsize" 1265), (.bool false)]), #[]⟩ : Obj)) ::
  (nat_lit 808, (⟨(.type "function"), none, (.func (fd (sm 31 15) "maxsize" "Cache.maxsize" 3 .none .none .none (.str "cachetools" 1128) (none) (.ref 807) .none 0)), #[]⟩ : Obj)) ::
  (nat_lit 807, (⟨(.type "code"), none, (.fields #[(.str "maxsize" 1258), (.str "Cache.maxsize" 1259), (.str "/claim/cut.py" 1260), (.int 465 0), (.int 1 0), (.int 0 0), (.int 0 0), (.int 3 0), (.ref 802), (.bool true), (.int 273 0), (.ref 803), .none, (.ref 804), (.ref 805), (.ref 806), (.int 1262 0), (.int 465 0), (.str "/claim/cut.py" 1263)]), #[]⟩ : Obj)) ::
  (nat_lit 817, (⟨(.type "property"), none, (.fields #[(.ref 816), .none, .none, .none, (.str "currsize" 1273), (.bool false)]), #[]⟩ : Obj)) ::
  (nat_lit 816, (⟨(.type "function"), none, (.func (fd (sm 31 16) "currsize" "Cache.currsize" 3 .none .none .none (.str "cachetools" 1128) (none) (.ref 815) .none 0)), #[]⟩ : Obj)) ::
  (nat_lit 815, (⟨(.type "code"), none, (.fields #[(.str "currsize" 1266), (.str "Cache.currsize" 1267), (.str "/claim/cut.py" 1268), (.int 469 0), (.int 1 0), (.int 0 0), (.int 0 0), (.int 3 0), (.ref 810), (.bool true), (.int 273 0), (.ref 811), .none, (.ref 812), (.ref 813), (.ref 814), (.int 1270 0), (.int 469 0), (.str "/claim/cut.py" 1271)]), #[]⟩ : Obj)) ::
  (nat_lit 826, (⟨(.type "staticmethod"), some 825, (.fields #[(.ref 824), (.bool false)]), #[]⟩ : Obj)) ::
  (nat_lit 824, (⟨(.type "function"), none, (.func (fd (sm 31 17) "getsizeof" "Cache.getsizeof" 3 .none .none .none (.str "cachetools" 1128) (some 827) (.ref 823) .none 0)), #[]⟩ : Obj)) ::
  (nat_lit 823, (⟨(.type "code"), none, (.fields #[(.str "getsizeof" 1274), (.str "Cache.getsizeof" 1275), (.str "/claim/cut.py" 1276), (.int 473 0), (.int 1 0), (.int 0 0), (.int 0 0), (.int 3 0), (.ref 818), (.bool true), (.int 273 0), (.ref 819), .none, (.ref 820), (.ref 821), (.ref 822), (.int 1278 0), (.int 473 0), (.str "/claim/cut.py" 1279)]), #[]⟩ : Obj)) ::
  (nat_lit 828, (⟨(.type "tuple"), none, (.seq #[(.str "__currsize" 1293), (.str "__data" 1294), (.str "__maxsize" 1295), (.str "__size" 1296), (.str "getsizeof" 1297)] 0), #[]⟩ : Obj)) ::
  (nat_lit 831, (⟨(.type "getset_descriptor"), none, (.fields #[(.str "__dict__" 1299), (.ref 830), (.builtin "function.__dict__"), (.builtin "function.__dict__#set")]), #[]⟩ : Obj)) ::
  (nat_lit 832, (⟨(.type "getset_descriptor"), none, (.fields #[(.str "__weakref__" 1301), (.ref 830), (.builtin "ExceptionGroup.__weakref__"), .none]), #[]⟩ : Obj)) ::
  (nat_lit 695, (⟨(.ref 89), none, (.cls ⟨"MutableMapping", [(.ref 443)], [(.ref 695), (.ref 443), (.ref 255), (.ref 196), (.ref 166), (.ref 232), (.type "object")], 694, "MutableMapping", false, [], [(.ref 830)], true, none, false⟩), #[some (.ref 623), none, some (.str "MutableMapping" 1032), some (.str "MutableMapping" 1040), some (.builtin "object.__new__"), some (.bool false)]⟩ : Obj)) ::
  (nat_lit 443, (⟨(.ref 89), none, (.cls ⟨"Mapping", [(.ref 255)], [(.ref 443), (.ref 255), (.ref 196), (.ref 166), (.ref 232), (.type "object")], 442, "Mapping", false, [], [(.ref 695)], true, none, false⟩), #[some (.ref 375), none, some (.str "Mapping" 716), some (.str "Mapping" 724), some (.builtin "object.__new__"), some (.bool false)]⟩ : Obj)) ::
  (nat_lit 255, (⟨(.ref 89), none, (.cls ⟨"Collection", [(.ref 196), (.ref 166), (.ref 232)], [(.ref 255), (.ref 196), (.ref 166), (.ref 232), (.type "object")], 254, "Collection", false, [], [(.ref 371), (.ref 443), (.ref 620)], true, none, false⟩), #[some (.ref 237), none, some (.str "Collection" 527), some (.str "Collection" 535), some (.builtin "object.__new__"), some (.bool false)]⟩ : Obj)) ::
  (nat_lit 196, (⟨(.ref 89), none, (.cls ⟨"Sized", [(.type "object")], [(.ref 196), (.type "object")], 195, "Sized", false, [], [(.ref 255), (.ref 493)], true, none, false⟩), #[none, none, some (.str "Sized" 443), some (.str "Sized" 451), some (.builtin "object.__new__"), some (.bool false)]⟩ : Obj)) ::
  (nat_lit 166, (⟨(.ref 89), none, (.cls ⟨"Iterable", [(.type "object")], [(.ref 166), (.type "object")], 165, "Iterable", false, [], [(.ref 255)], true, none, false⟩), #[none, none, some (.str "Iterable" 397), some (.str "Iterable" 405), some (.builtin "object.__new__"), some (.bool false)]⟩ : Obj)) ::
  (nat_lit 232, (⟨(.ref 89), none, (.cls ⟨"Container", [(.type "object")], [(.ref 232), (.type "object")], 231, "Container", false, [], [(.ref 255)], true, none, false⟩), #[none, none, some (.str "Container" 480), some (.str "Container" 488), some (.builtin "object.__new__"), some (.bool false)]⟩ : Obj)) ::
  (nat_lit 89, (⟨(.type "type"), none, (.cls ⟨"_ABCLike", [(.ref 56)], [(.ref 89), (.ref 56), (.type "type"), (.type "object")], 88, "_ABCLike", true, [], [], false, none, false⟩), #[some (.ref 59), none, some (.str "_ABCLike" 314), some (.str "_ABCLike" 322), some (.builtin "type.__new__"), some (.bool true)]⟩ : Obj)) ::
  (nat_lit 56, (⟨(.type "type"), none, (.cls ⟨"ABCMeta", [(.type "type")], [(.ref 56), (.type "type"), (.type "object")], 55, "ABCMeta", true, [], [(.ref 89)], false, none, false⟩), #[some (.ref 40), none, some (.str "ABCMeta" 288), some (.str "ABCMeta" 296), some (.builtin "type.__new__"), some (.bool true)]⟩ : Obj)) ::
  (nat_lit 694, (⟨(.type "dict"), none, (.dict #[E P "__module__" 1039 (.str "collections.abc" 312), E P "__firstlineno__" 1043 (.int 309 1042), E P "__slots__" 1044 (.ref 630), E P "__setitem__" 1053 (.ref 637), E P "__delitem__" 1061 (.ref 644), E P "_MutableMapping__marker" 1062 (.ref 645), E P "pop" 1072 (.ref 653), E P "popitem" 1081 (.ref 660), E P "clear" 1088 (.ref 667), E P "update" 1097 (.ref 676), E P "setdefault" 1106 (.ref 684), E P "_abc_kind" 1114 (.ref 691), E P "__static_attributes__" 1115 (.ref 692), E P "__doc__" 1116 .none, E P "__abstractmethods__" 1127 (.ref 698)] 3), #[]⟩ : Obj)) ::
  (nat_lit 442, (⟨(.type "dict"), none, (.dict #[E P "__module__" 723 (.str "collections.abc" 312), E P "__firstlineno__" 727 (.int 185 726), E P "__slots__" 728 (.ref 382), E P "__getitem__" 736 (.ref 389), E P "get" 745 (.ref 397), E P "__contains__" 753 (.ref 404), E P "keys" 760 (.ref 411), E P "items" 767 (.ref 418), E P "values" 774 (.ref 425), E P "__eq__" 782 (.ref 432), E P "__reversed__" 783 .none, E P "_abc_kind" 791 (.ref 439), E P "__static_attributes__" 792 (.ref 440), E P "__doc__" 793 .none, E P "__hash__" 794 .none, E P "__abstractmethods__" 803 (.ref 446)] 4), #[]⟩ : Obj)) ::
  (nat_lit 254, (⟨(.type "dict"), none, (.dict #[E P "__module__" 534 (.str "collections.abc" 312), E P "__firstlineno__" 538 (.int 85 537), E P "__slots__" 539 (.ref 244), E P "_abc_kind" 547 (.ref 251), E P "__static_attributes__" 548 (.ref 252), E P "__doc__" 549 .none, E P "__abstractmethods__" 558 (.ref 258)] 3), #[]⟩ : Obj)) ::
  (nat_lit 195, (⟨(.type "dict"), none, (.dict #[E P "__module__" 450 (.str "collections.abc" 312), E P "__firstlineno__" 454 (.int 58 453), E P "__slots__" 455 (.ref 178), E P "__len__" 462 (.ref 185), E P "_abc_kind" 470 (.ref 192), E P "__static_attributes__" 471 (.ref 193), E P "__doc__" 472 .none, E P "__abstractmethods__" 479 (.ref 199)] 3), #[]⟩ : Obj)) ::
  (nat_lit 165, (⟨(.type "dict"), none, (.dict #[E P "__module__" 404 (.str "collections.abc" 312), E P "__firstlineno__" 408 (.int 42 407), E P "__slots__" 409 (.ref 141), E P "__iter__" 416 (.ref 148), E P "_abc_kind" 424 (.ref 155), E P "__class_getitem__" 432 (.ref 167), E P "__static_attributes__" 433 (.ref 163), E P "__doc__" 435 .none, E P "__abstractmethods__" 442 (.ref 170)] 3), #[]⟩ : Obj)) ::
  (nat_lit 231, (⟨(.type "dict"), none, (.dict #[E P "__module__" 487 (.str "collections.abc" 312), E P "__firstlineno__" 491 (.int 70 490), E P "__slots__" 492 (.ref 207), E P "__contains__" 500 (.ref 214), E P "_abc_kind" 508 (.ref 221), E P "__class_getitem__" 516 (.ref 233), E P "__static_attributes__" 517 (.ref 229), E P "__doc__" 519 .none, E P "__abstractmethods__" 526 (.ref 236)] 3), #[]⟩ : Obj)) ::
  (nat_lit 88, (⟨(.type "dict"), none, (.dict #[E P "__module__" 321 (.str "collections.abc" 312), E P "__firstlineno__" 325 (.int 11 324), E P "__instancecheck__" 334 (.ref 72), E P "__subclasscheck__" 342 (.ref 79), E P "register" 350 (.ref 86), E P "__static_attributes__" 351 (.ref 87), E P "__doc__" 352 .none] 2), #[]⟩ : Obj)) ::
  (nat_lit 55, (⟨(.type "dict"), none, (.dict #[E P "__module__" 295 (.str "abc" 286), E P "__firstlineno__" 299 (.int 6 298), E P "register" 307 (.ref 53), E P "__static_attributes__" 308 (.ref 54), E P "__doc__" 309 .none] 2), #[]⟩ : Obj)) ::
  (nat_lit 899, (⟨(.type "function"), none, (.func (fd (st 34) "_law_next" "_law_next" 3 .none .none .none (.str "law_fc0033_01" 1383) (none) (.ref 898) .none 0)), #[]⟩ : Obj)) ::
  (nat_lit 898, (⟨(.type "code"), none, (.fields #[(.str "_law_next" 1385), (.str "_law_next" 1386), (.str "/claim/cut.py" 1387), (.int 517 0), (.int 2 0), (.int 0 0), (.int 0 0), (.int 3 0), (.ref 893), (.bool true), (.int 273 0), (.ref 894), .none, (.ref 895), (.ref 896), (.ref 897), (.int 1390 0), (.int 517 0), (.str "/claim/cut.py" 1391)]), #[]⟩ : Obj)) ::
  (nat_lit 906, (⟨(.type "function"), none, (.func (fd (st 35) "_law_choice" "_law_choice" 3 .none .none .none (.str "law_fc0033_01" 1383) (none) (.ref 905) .none 0)), #[]⟩ : Obj)) ::
  (nat_lit 905, (⟨(.type "code"), none, (.fields #[(.str "_law_choice" 1393), (.str "_law_choice" 1394), (.str "/claim/cut.py" 1395), (.int 522 0), (.int 2 0), (.int 0 0), (.int 0 0), (.int 3 0), (.ref 900), (.bool true), (.int 273 0), (.ref 901), .none, (.ref 902), (.ref 903), (.ref 904), (.int 1401 0), (.int 522 0), (.str "/claim/cut.py" 1402)]), #[]⟩ : Obj)) ::
  (nat_lit 913, (⟨(.type "function"), none, (.func (fd (st 36) "_law_deed" "_law_deed" 3 .none .none .none (.str "law_fc0033_01" 1383) (none) (.ref 912) .none 0)), #[]⟩ : Obj)) ::
  (nat_lit 912, (⟨(.type "code"), none, (.fields #[(.str "_law_deed" 1404), (.str "_law_deed" 1405), (.str "/claim/cut.py" 1406), (.int 528 0), (.int 4 0), (.int 0 0), (.int 0 0), (.int 3 0), (.ref 907), (.bool true), (.int 273 0), (.ref 908), .none, (.ref 909), (.ref 910), (.ref 911), (.int 1411 0), (.int 528 0), (.str "/claim/cut.py" 1412)]), #[]⟩ : Obj)) ::
  (nat_lit 920, (⟨(.type "function"), none, (.func (fd (st 37) "_law_made" "_law_made" 3 .none .none .none (.str "law_fc0033_01" 1383) (none) (.ref 919) .none 0)), #[]⟩ : Obj)) ::
  (nat_lit 919, (⟨(.type "code"), none, (.fields #[(.str "_law_made" 1414), (.str "_law_made" 1415), (.str "/claim/cut.py" 1416), (.int 543 0), (.int 5 0), (.int 0 0), (.int 0 0), (.int 3 0), (.ref 914), (.bool true), (.int 273 0), (.ref 915), .none, (.ref 916), (.ref 917), (.ref 918), (.int 1427 0), (.int 543 0), (.str "/claim/cut.py" 1428)]), #[]⟩ : Obj)) ::
  (nat_lit 925, (⟨(.type "function"), none, (.func (fd (st 38) "_law_rows" "_law_rows" 3 .none .none .none (.str "law_fc0033_01" 1383) (none) (.ref 924) .none 0)), #[]⟩ : Obj)) ::
  (nat_lit 924, (⟨(.type "code"), none, (.fields #[(.str "_law_rows" 1430), (.str "_law_rows" 1431), (.str "/claim/cut.py" 1432), (.int 551 0), (.int 1 0), (.int 0 0), (.int 0 0), (.int 3 0), (.ref 921), (.bool true), (.int 273 0), (.ref 922), .none, .none, .none, (.ref 923), (.int 1433 0), (.int 551 0), (.str "/claim/cut.py" 1434)]), #[]⟩ : Obj)) ::
  (nat_lit 930, (⟨(.type "function"), none, (.func (fd (st 39) "law" "law" 3 .none .none .none (.str "law_fc0033_01" 1383) (none) (.ref 929) .none 0)), #[]⟩ : Obj)) ::
  (nat_lit 929, (⟨(.type "code"), none, (.fields #[(.str "law" 1436), (.str "law" 1437), (.str "/claim/cut.py" 1438), (.int 555 0), (.int 1 0), (.int 0 0), (.int 0 0), (.int 3 0), (.ref 926), (.bool true), (.int 273 0), (.ref 927), .none, .none, .none, (.ref 928), (.int 1439 0), (.int 555 0), (.str "/claim/cut.py" 1440)]), #[]⟩ : Obj)) ::
  (nat_lit 2, (⟨.none, none, (.dict #[E P "\x69mport.loaded._collections" 185 (.bool true), E P "class._frozen_importlib.BuiltinImporter" 187 (.ref 15), E P "watched.\x69mport" 208 (.ref 19), E P "class._frozen_importlib.ModuleSpec" 218 (.ref 23), E P "sys.modules.booked-epoch" 247 (.int 3 0), E P "sys.modules.landed._collections" 248 (.bool true), E P "\x69mport.later-laid._collections" 263 (.bool true), E P "watched.library" 265 (.ref 28), E P "watched.library-objects" 0 (.str (Str.mk #[13]) 0), E P "watched.library-deep._collections" 266 (.str (Str.mk #[4, 0, 0, 12, 4, 0, 0, 12, 4, 0, 0, 3, 4, 0, 0, 12, 8, 4, 100, 105, 99, 116, 2]) 0)] 10), #[]⟩ : Obj)) :: []
def Ka : List Addr := [nat_lit 3, nat_lit 890, nat_lit 830, nat_lit 889, nat_lit 829, nat_lit 849, nat_lit 848, nat_lit 842, nat_lit 857, nat_lit 856, nat_lit 855, nat_lit 865, nat_lit 864, nat_lit 858, nat_lit 873, nat_lit 872, nat_lit 866, nat_lit 880, nat_lit 879, nat_lit 887, nat_lit 886, nat_lit 888, nat_lit 706, nat_lit 714, nat_lit 713, nat_lit 707, nat_lit 721, nat_lit 720, nat_lit 728, nat_lit 727, nat_lit 735, nat_lit 734, nat_lit 742, nat_lit 741, nat_lit 749, nat_lit 748, nat_lit 756, nat_lit 755, nat_lit 763, nat_lit 762, nat_lit 770, nat_lit 769, nat_lit 778, nat_lit 777, nat_lit 771, nat_lit 786, nat_lit 785, nat_lit 779, nat_lit 794, nat_lit 793, nat_lit 787, nat_lit 801, nat_lit 800, nat_lit 809, nat_lit 808, nat_lit 807, nat_lit 817, nat_lit 816, nat_lit 815, nat_lit 826, nat_lit 824, nat_lit 823, nat_lit 828, nat_lit 831, nat_lit 832, nat_lit 695, nat_lit 443, nat_lit 255, nat_lit 196, nat_lit 166, nat_lit 232, nat_lit 89, nat_lit 56, nat_lit 694, nat_lit 442, nat_lit 254, nat_lit 195, nat_lit 165, nat_lit 231, nat_lit 88, nat_lit 55, nat_lit 899, nat_lit 898, nat_lit 906, nat_lit 905, nat_lit 913, nat_lit 912, nat_lit 920, nat_lit 919, nat_lit 925, nat_lit 924, nat_lit 930, nat_lit 929, nat_lit 2]
def env1 : Env := { scope := PySem.Challenge.pw_fc0033_01.main.scope, locals := mainNs, globals := mainNs, cells := [], code := code1, frame := some frame1 }
def cE : Code := .body (behindTheImports PySem.Challenge.pw_fc0033_01) env1
def ann1 : Option Value := some (.ref 6)
def SS (T : Params → List Obj) (n toks : Nat) (w : World) (os : OsState) : SharedT := ⟨mkT 11 (T w.params), n, {}, #[], ⟨0, 0, 0, 0⟩, toks, os⟩
def HL (T : Params → List Obj) (P : Params) : Heap := ⟨(T P).toArray, {}⟩
def SL (T : Params → List Obj) (toks : Nat) (w : World) (os : OsState) : Shared := ⟨HL T w.params, #[], ⟨0, 0, 0, 0⟩, toks, os⟩
def qv : Program := { PySem.Challenge.pw_fc0033_01 with main := { PySem.Challenge.pw_fc0033_01.main with body := [st 0, st 39] } }
theorem trig0 : ((fun (_ : Program) => true) PySem.Challenge.pw_fc0033_01) = true := by k_qdec
theorem trig1 : ((fun (_ : Params → List Obj) => true) T17) = true := by k_qdec
theorem trig2 : ((fun (_ : Params → List Obj) => true) Te) = true := by k_qdec
theorem trig3 : ((fun (_ : Code) => true) cE) = true := by k_qdec
theorem Ka_is (P : Params) : Ka = (K P).map (·.1) := by kernel_rfl
abbrev Hk : Hook := kmHook K Ka Ka_is [901]
theorem trig5 : ((fun (_ : Params → Frag) => true) K) = true := by k_qdec
theorem trig6 : ((fun (_ : OpenLaw) => true) PySem.Challenge.rw_fc0033_01) = true := by k_qdec
theorem trig7 : ((fun (_ : Hook) => true) Hk) = true := by k_qdec
theorem trig4 : ((fun (_ : Program) => true) qv) = true := by k_qdec
end Mine
end
section
open PySem PySem.W PyProof.Rows
set_option Elab.async false
set_option maxRecDepth 100000
set_option maxHeartbeats 0
set_option linter.unusedVariables false
namespace Mine
local macro_rules | `(tactic| walk_at "pad 0") => `(tactic| fail)
local macro_rules | `(tactic| walk_at "pad 1") => `(tactic| fail)
local macro_rules | `(tactic| walk_at "pad 2") => `(tactic| fail)
local macro_rules | `(tactic| walk_at "pad 3") => `(tactic| fail)
local macro_rules | `(tactic| walk_at "pad 4") => `(tactic| fail)
local macro_rules | `(tactic| walk_at "pad 5") => `(tactic| fail)
local macro_rules | `(tactic| walk_at "pad 6") => `(tactic| fail)
local macro_rules | `(tactic| walk_at "pad 7") => `(tactic| fail)
local macro_rules | `(tactic| walk_at "pad 8") => `(tactic| fail)
local macro_rules | `(tactic| walk_at "pad 9") => `(tactic| fail)
theorem anew_RRHead1 : True := by
  w_top off
  trivial
def loose2 : List Str := [Str.ofString "_wall", Str.ofString "ABCMeta", Str.ofString "_ABCLike", Str.ofString "_abc_plain_meta", Str.ofString "_abc_has_iter", Str.ofString "_abc_has_len", Str.ofString "_abc_has_contains", Str.ofString "_abc_is_mappingproxy", Str.ofString "_abc_is_builtin_collection", Str.ofString "Iterable", Str.ofString "Sized", Str.ofString "Container", Str.ofString "Collection", Str.ofString "Set", Str.ofString "Mapping", Str.ofString "MappingView", Str.ofString "KeysView", Str.ofString "ItemsView", Str.ofString "ValuesView", Str.ofString "MutableMapping", Str.ofString "Cache", Str.ofString "RRCache", Str.ofString "_law_next", Str.ofString "_law_choice", Str.ofString "_law_deed", Str.ofString "_law_made", Str.ofString "_law_rows"]
theorem h_imp (w : World) : (importEnds treeTable (opening PySem.Challenge.pw_fc0033_01) w 829 (start (opening PySem.Challenge.pw_fc0033_01)).1 (start (opening PySem.Challenge.pw_fc0033_01)).2) = (some (⟨Mine.HL Mine.Te w.params, #[], (⟨0, 0, 0, 0⟩ : Drawn), 273, (start (opening PySem.Challenge.pw_fc0033_01)).1.os⟩ : Shared)) := by
  rw [PySem.W.Fast.te10274390034422433532, PySem.W.Fast.te14364793385576792824, PySem.W.Fast.te3978624981803375888, PySem.W.Fast.te1435165496053646825, PySem.W.Fast.te4145556187420074100]
  kernel_rfl
theorem h_fence (w : World) : (fun os => (fenceModules? PySem.Challenge.pw_fc0033_01 ⟨Mine.HL Mine.Te w.params, #[], (⟨0, 0, 0, 0⟩ : Drawn), 273, os⟩).map (fun s => (s.heap, s.gens, s.drawn, s.toks))) = (fun _ => some (Mine.HL Mine.T0 w.params, (#[] : Array GenState), (⟨0, 0, 0, 0⟩ : Drawn), (273 : Nat))) := by
  rw [PySem.W.Fast.te14289696077712309145, PySem.W.Fast.te3978624981803375888, PySem.W.Fast.te4145556187420074100, PySem.W.Fast.te13825946027806631103]
  kernel_rfl
theorem h_size (w : World) : (((Mine.HL Mine.T0 w.params).isNs mainGlobals && (#[] : Array GenState).size == 0, (Mine.HL Mine.T0 w.params).objs.size, (Mine.HL Mine.T0 w.params).nsMap mainGlobals (Str.ofString "__annotations__"))) = ((true, (29 : Nat), Mine.ann1)) := by
  rw [PySem.W.Fast.te13825946027806631103, PySem.W.Fast.te8920871248978507458]
  kernel_rfl
theorem h_pre (w : World) : (fun os => topGo treeTable PySem.Challenge.pw_fc0033_01 w 29 Mine.ann1 12 (Mine.SL Mine.T0 273 w os) (topStub PySem.Challenge.pw_fc0033_01)) = (fun os => some ((Mine.SL Mine.T1 279 w os), (⟨denote treeTable Mine.cE, Mine.cE, ⟨0, 0, 0, 0⟩, [topFrame Mine.q1]⟩ : Thread))) := by
  rw [PySem.W.Fast.te15667345088766844465, PySem.W.Fast.te14364793385576792824, PySem.W.Fast.te3978624981803375888, PySem.W.Fast.te13825946027806631103, PySem.W.Fast.te11530697753030833354, PySem.W.Fast.te11892475500146522536, PySem.W.Fast.te1079062873555572070]
  kernel_rfl
theorem h_block (w : World) : (fun os => segRun treeTable PySem.Challenge.pw_fc0033_01 w 29 Mine.ann1 1 1 (Mine.SL Mine.T1 279 w os) (blockOf (behindTheImports PySem.Challenge.pw_fc0033_01) Mine.env1 Mine.cE ⟨0, 0, 0, 0⟩ [topFrame Mine.q1])) = (fun os => some (Flow.next, (Mine.SS Mine.T1 33 279 w os).abs, Mine.cE, (⟨0, 0, 0, 0⟩ : Pos))) := by
  rw [PySem.W.Fast.te14374325043358763698, PySem.W.Fast.te14364793385576792824, PySem.W.Fast.te3978624981803375888, PySem.W.Fast.te11530697753030833354, PySem.W.Fast.te15283932545348478653, PySem.W.Fast.te1079062873555572070]
  kernel_rfl
theorem h_p0 (w : World) : (fun os => segRunT treeTable PySem.Challenge.pw_fc0033_01 w 29 Mine.ann1 1 682 (Mine.SS Mine.T1 33 279 w os) (piecesOf Mine.sts0 Mine.env1 Mine.cE ⟨0, 0, 0, 0⟩ [topFrame Mine.q1])) = (fun os => some (Flow.next, Mine.SS Mine.T2 120 383 w os, Mine.cE, (⟨35, 0, 37, 55⟩ : Pos))) := by
  rw [PySem.W.Fast.te10110043849684766642, PySem.W.Fast.te14364793385576792824, PySem.W.Fast.te3978624981803375888, PySem.W.Fast.te11530697753030833354, PySem.W.Fast.te15283932545348478653, PySem.W.Fast.te1079062873555572070, PySem.W.Fast.te12210949091423645615]
  kernel_rfl
theorem h_p1 (w : World) : (fun os => segRunT treeTable PySem.Challenge.pw_fc0033_01 w 29 Mine.ann1 1 460 (Mine.SS Mine.T2 120 383 w os) (piecesOf Mine.sts1 Mine.env1 Mine.cE ⟨35, 0, 37, 55⟩ [topFrame Mine.q1])) = (fun os => some (Flow.next, Mine.SS Mine.T3 171 443 w os, Mine.cE, (⟨57, 0, 57, 28⟩ : Pos))) := by
  rw [PySem.W.Fast.te10110043849684766642, PySem.W.Fast.te14364793385576792824, PySem.W.Fast.te3978624981803375888, PySem.W.Fast.te12210949091423645615, PySem.W.Fast.te15283932545348478653, PySem.W.Fast.te1079062873555572070, PySem.W.Fast.te5954418224238024079]
  kernel_rfl
theorem h_p2 (w : World) : (fun os => segRunT treeTable PySem.Challenge.pw_fc0033_01 w 29 Mine.ann1 1 364 (Mine.SS Mine.T3 171 443 w os) (piecesOf Mine.sts2 Mine.env1 Mine.cE ⟨57, 0, 57, 28⟩ [topFrame Mine.q1])) = (fun os => some (Flow.next, Mine.SS Mine.T4 200 480 w os, Mine.cE, (⟨69, 0, 69, 25⟩ : Pos))) := by
  rw [PySem.W.Fast.te10110043849684766642, PySem.W.Fast.te14364793385576792824, PySem.W.Fast.te3978624981803375888, PySem.W.Fast.te5954418224238024079, PySem.W.Fast.te15283932545348478653, PySem.W.Fast.te1079062873555572070, PySem.W.Fast.te6348167931490429906]
  kernel_rfl
theorem h_p3 (w : World) : (fun os => segRunT treeTable PySem.Challenge.pw_fc0033_01 w 29 Mine.ann1 1 403 (Mine.SS Mine.T4 200 480 w os) (piecesOf Mine.sts3 Mine.env1 Mine.cE ⟨69, 0, 69, 25⟩ [topFrame Mine.q1])) = (fun os => some (Flow.next, Mine.SS Mine.T5 237 527 w os, Mine.cE, (⟨84, 0, 84, 29⟩ : Pos))) := by
  rw [PySem.W.Fast.te10110043849684766642, PySem.W.Fast.te14364793385576792824, PySem.W.Fast.te3978624981803375888, PySem.W.Fast.te6348167931490429906, PySem.W.Fast.te15283932545348478653, PySem.W.Fast.te1079062873555572070, PySem.W.Fast.te14569076993272628668]
  kernel_rfl
theorem h_p4 (w : World) : (fun os => segRunT treeTable PySem.Challenge.pw_fc0033_01 w 29 Mine.ann1 1 441 (Mine.SS Mine.T5 237 527 w os) (piecesOf Mine.sts4 Mine.env1 Mine.cE ⟨84, 0, 84, 29⟩ [topFrame Mine.q1])) = (fun os => some (Flow.next, Mine.SS Mine.T6 259 559 w os, Mine.cE, (⟨95, 0, 95, 30⟩ : Pos))) := by
  rw [PySem.W.Fast.te10110043849684766642, PySem.W.Fast.te14364793385576792824, PySem.W.Fast.te3978624981803375888, PySem.W.Fast.te14569076993272628668, PySem.W.Fast.te15283932545348478653, PySem.W.Fast.te1079062873555572070, PySem.W.Fast.te168191924942634567]
  kernel_rfl
theorem h_p5 (w : World) : (fun os => segRunT treeTable PySem.Challenge.pw_fc0033_01 w 29 Mine.ann1 1 956 (Mine.SS Mine.T6 259 559 w os) (piecesOf Mine.sts5 Mine.env1 Mine.cE ⟨95, 0, 95, 30⟩ [topFrame Mine.q1])) = (fun os => some (Flow.next, Mine.SS Mine.T7 374 709 w os, Mine.cE, (⟨96, 0, 183, 45⟩ : Pos))) := by
  rw [PySem.W.Fast.te10110043849684766642, PySem.W.Fast.te14364793385576792824, PySem.W.Fast.te3978624981803375888, PySem.W.Fast.te168191924942634567, PySem.W.Fast.te15283932545348478653, PySem.W.Fast.te1079062873555572070, PySem.W.Fast.te5551330262436704801]
  kernel_rfl
theorem h_p6 (w : World) : (fun os => segRunT treeTable PySem.Challenge.pw_fc0033_01 w 29 Mine.ann1 1 653 (Mine.SS Mine.T7 374 709 w os) (piecesOf Mine.sts6 Mine.env1 Mine.cE ⟨96, 0, 183, 45⟩ [topFrame Mine.q1])) = (fun os => some (Flow.next, Mine.SS Mine.T8 446 797 w os, Mine.cE, (⟨185, 0, 224, 45⟩ : Pos))) := by
  rw [PySem.W.Fast.te10110043849684766642, PySem.W.Fast.te14364793385576792824, PySem.W.Fast.te3978624981803375888, PySem.W.Fast.te5551330262436704801, PySem.W.Fast.te15283932545348478653, PySem.W.Fast.te1079062873555572070, PySem.W.Fast.te5152186828155009596]
  kernel_rfl
theorem h_p7 (w : World) : (fun os => segRunT treeTable PySem.Challenge.pw_fc0033_01 w 29 Mine.ann1 1 518 (Mine.SS Mine.T8 446 797 w os) (piecesOf Mine.sts7 Mine.env1 Mine.cE ⟨185, 0, 224, 45⟩ [topFrame Mine.q1])) = (fun os => some (Flow.next, Mine.SS Mine.T9 498 865 w os, Mine.cE, (⟨226, 0, 246, 18⟩ : Pos))) := by
  rw [PySem.W.Fast.te10110043849684766642, PySem.W.Fast.te14364793385576792824, PySem.W.Fast.te3978624981803375888, PySem.W.Fast.te5152186828155009596, PySem.W.Fast.te15283932545348478653, PySem.W.Fast.te1079062873555572070, PySem.W.Fast.te8509370419108808647]
  kernel_rfl
theorem h_p8 (w : World) : (fun os => segRunT treeTable PySem.Challenge.pw_fc0033_01 w 29 Mine.ann1 1 641 (Mine.SS Mine.T9 498 865 w os) (piecesOf Mine.sts8 Mine.env1 Mine.cE ⟨226, 0, 246, 18⟩ [topFrame Mine.q1])) = (fun os => some (Flow.next, Mine.SS Mine.T10 543 925 w os, Mine.cE, (⟨247, 0, 264, 45⟩ : Pos))) := by
  rw [PySem.W.Fast.te10110043849684766642, PySem.W.Fast.te14364793385576792824, PySem.W.Fast.te3978624981803375888, PySem.W.Fast.te8509370419108808647, PySem.W.Fast.te15283932545348478653, PySem.W.Fast.te1079062873555572070, PySem.W.Fast.te15636962374069389147]
  kernel_rfl
theorem h_p9 (w : World) : (fun os => segRunT treeTable PySem.Challenge.pw_fc0033_01 w 29 Mine.ann1 1 645 (Mine.SS Mine.T10 543 925 w os) (piecesOf Mine.sts9 Mine.env1 Mine.cE ⟨247, 0, 264, 45⟩ [topFrame Mine.q1])) = (fun os => some (Flow.next, Mine.SS Mine.T11 588 989 w os, Mine.cE, (⟨265, 0, 289, 45⟩ : Pos))) := by
  rw [PySem.W.Fast.te10110043849684766642, PySem.W.Fast.te14364793385576792824, PySem.W.Fast.te3978624981803375888, PySem.W.Fast.te15636962374069389147, PySem.W.Fast.te15283932545348478653, PySem.W.Fast.te1079062873555572070, PySem.W.Fast.te14727328124978396049]
  kernel_rfl
theorem h_p10 (w : World) : (fun os => segRunT treeTable PySem.Challenge.pw_fc0033_01 w 29 Mine.ann1 1 466 (Mine.SS Mine.T11 588 989 w os) (piecesOf Mine.sts10 Mine.env1 Mine.cE ⟨265, 0, 289, 45⟩ [topFrame Mine.q1])) = (fun os => some (Flow.next, Mine.SS Mine.T12 623 1032 w os, Mine.cE, (⟨290, 0, 308, 45⟩ : Pos))) := by
  rw [PySem.W.Fast.te10110043849684766642, PySem.W.Fast.te14364793385576792824, PySem.W.Fast.te3978624981803375888, PySem.W.Fast.te14727328124978396049, PySem.W.Fast.te15283932545348478653, PySem.W.Fast.te1079062873555572070, PySem.W.Fast.te10812125408681295761]
  kernel_rfl
theorem h_p11 (w : World) : (fun os => segRunT treeTable PySem.Challenge.pw_fc0033_01 w 29 Mine.ann1 1 698 (Mine.SS Mine.T12 623 1032 w os) (piecesOf Mine.sts11 Mine.env1 Mine.cE ⟨290, 0, 308, 45⟩ [topFrame Mine.q1])) = (fun os => some (Flow.next, Mine.SS Mine.T13 699 1128 w os, Mine.cE, (⟨357, 0, 357, 34⟩ : Pos))) := by
  rw [PySem.W.Fast.te10110043849684766642, PySem.W.Fast.te14364793385576792824, PySem.W.Fast.te3978624981803375888, PySem.W.Fast.te10812125408681295761, PySem.W.Fast.te15283932545348478653, PySem.W.Fast.te1079062873555572070, PySem.W.Fast.te1644469329960336778]
  kernel_rfl
theorem h_p12 (w : World) : (fun os => segRunT treeTable PySem.Challenge.pw_fc0033_01 w 29 Mine.ann1 1 10 (Mine.SS Mine.T13 699 1128 w os) (piecesOf Mine.sts12 Mine.env1 Mine.cE ⟨357, 0, 357, 34⟩ [topFrame Mine.q1])) = (fun os => some (Flow.next, Mine.SS Mine.T14 699 1130 w os, Mine.cE, (⟨358, 0, 358, 8⟩ : Pos))) := by
  rw [PySem.W.Fast.te10110043849684766642, PySem.W.Fast.te14364793385576792824, PySem.W.Fast.te3978624981803375888, PySem.W.Fast.te1644469329960336778, PySem.W.Fast.te15283932545348478653, PySem.W.Fast.te1079062873555572070, PySem.W.Fast.te6197653582410020558]
  kernel_rfl
theorem h_p13 (w : World) : (fun os => segRunT treeTable PySem.Challenge.pw_fc0033_01 w 29 Mine.ann1 1 1163 (Mine.SS Mine.T14 699 1130 w os) (piecesOf Mine.sts13 Mine.env1 Mine.cE ⟨358, 0, 358, 8⟩ [topFrame Mine.q1])) = (fun os => some (Flow.next, Mine.SS Mine.T15 835 1306 w os, Mine.cE, (⟨359, 0, 475, 16⟩ : Pos))) := by
  rw [PySem.W.Fast.te10110043849684766642, PySem.W.Fast.te14364793385576792824, PySem.W.Fast.te3978624981803375888, PySem.W.Fast.te6197653582410020558, PySem.W.Fast.te15283932545348478653, PySem.W.Fast.te1079062873555572070, PySem.W.Fast.te3620784251786332108]
  kernel_rfl
theorem h_p14 (w : World) : (fun os => segRunT treeTable PySem.Challenge.pw_fc0033_01 w 29 Mine.ann1 1 681 (Mine.SS Mine.T15 835 1306 w os) (piecesOf Mine.sts14 Mine.env1 Mine.cE ⟨359, 0, 475, 16⟩ [topFrame Mine.q1])) = (fun os => some (Flow.next, Mine.SS Mine.T16 893 1385 w os, Mine.cE, (⟨516, 0, 516, 8⟩ : Pos))) := by
  rw [PySem.W.Fast.te10110043849684766642, PySem.W.Fast.te14364793385576792824, PySem.W.Fast.te3978624981803375888, PySem.W.Fast.te3620784251786332108, PySem.W.Fast.te15283932545348478653, PySem.W.Fast.te1079062873555572070, PySem.W.Fast.te11271080791199347964]
  kernel_rfl
theorem h_p15 (w : World) : (fun os => segRunT treeTable PySem.Challenge.pw_fc0033_01 w 29 Mine.ann1 1 186 (Mine.SS Mine.T16 893 1385 w os) (piecesOf Mine.sts15 Mine.env1 Mine.cE ⟨516, 0, 516, 8⟩ [topFrame Mine.q1])) = (fun os => some (Flow.next, Mine.SS Mine.T17 931 1442 w os, Mine.cE, (⟨555, 0, 589, 64⟩ : Pos))) := by
  rw [PySem.W.Fast.te10110043849684766642, PySem.W.Fast.te14364793385576792824, PySem.W.Fast.te3978624981803375888, PySem.W.Fast.te11271080791199347964, PySem.W.Fast.te15283932545348478653, PySem.W.Fast.te1079062873555572070, PySem.W.Fast.te17843093982178943641]
  kernel_rfl
theorem h_fin (w : World) : (fun os => topRun treeTable PySem.Challenge.pw_fc0033_01 w 29 Mine.ann1 2 (Mine.SS Mine.T17 931 1442 w os).abs (⟨doneF Flow.next, Mine.cE, ⟨555, 0, 589, 64⟩, [topFrame Mine.q1]⟩ : Thread)) = (fun os => some (Mine.SL Mine.T17 1442 w os)) := by
  rw [PySem.W.Fast.te14082659384304107361, PySem.W.Fast.te14364793385576792824, PySem.W.Fast.te3978624981803375888, PySem.W.Fast.te17843093982178943641, PySem.W.Fast.te1079062873555572070]
  kernel_rfl
theorem body_is : behindTheImports PySem.Challenge.pw_fc0033_01 = (sts0 ++ (sts1 ++ (sts2 ++ (sts3 ++ (sts4 ++ (sts5 ++ (sts6 ++ (sts7 ++ (sts8 ++ (sts9 ++ (sts10 ++ (sts11 ++ (sts12 ++ (sts13 ++ (sts14 ++ (sts15 ++ [])))))))))))))))) := by kernel_rfl
theorem run1 (w : World) (os : OsState) : topRun treeTable PySem.Challenge.pw_fc0033_01 w 29 ann1 (12 + (1 + (682 + (460 + (364 + (403 + (441 + (956 + (653 + (518 + (641 + (645 + (466 + (698 + (10 + (1163 + (681 + (186 + 2)))))))))))))))))) (SL T0 273 w os) (topStub PySem.Challenge.pw_fc0033_01) = some (SL T17 1442 w os) :=
  go_top (congrFun (h_pre w) os) (piece_block (env := env1) (congrFun (h_block w) os) (by
    rw [body_is]
    exact (piece_app (segRun_of (congrFun (h_p0 w) os)) (piece_app (segRun_of (congrFun (h_p1 w) os)) (piece_app (segRun_of (congrFun (h_p2 w) os)) (piece_app (segRun_of (congrFun (h_p3 w) os)) (piece_app (segRun_of (congrFun (h_p4 w) os)) (piece_app (segRun_of (congrFun (h_p5 w) os)) (piece_app (segRun_of (congrFun (h_p6 w) os)) (piece_app (segRun_of (congrFun (h_p7 w) os)) (piece_app (segRun_of (congrFun (h_p8 w) os)) (piece_app (segRun_of (congrFun (h_p9 w) os)) (piece_app (segRun_of (congrFun (h_p10 w) os)) (piece_app (segRun_of (congrFun (h_p11 w) os)) (piece_app (segRun_of (congrFun (h_p12 w) os)) (piece_app (segRun_of (congrFun (h_p13 w) os)) (piece_app (segRun_of (congrFun (h_p14 w) os)) (piece_app (segRun_of (congrFun (h_p15 w) os))  (congrFun (h_fin w) os)))))))))))))))))))

end Mine
end
section
open PySem PySem.W PyProof.Rows
set_option Elab.async false
set_option maxRecDepth 100000
set_option maxHeartbeats 0
set_option linter.unusedVariables false
namespace Mine
theorem anew_RRHead2 : True := by
  w_top off
  trivial
theorem h_look1 (w : World) : (fun (os : OsState) => staticsOk (importedModules PySem.Challenge.pw_fc0033_01.main.body) (Mine.HL Mine.T0 w.params) (Mine.HL Mine.T17 w.params)) = (fun _ => true) := by
  rw [PySem.W.Fast.te5923862056798008813, PySem.W.Fast.te3978624981803375888, PySem.W.Fast.te13825946027806631103, PySem.W.Fast.te17843093982178943641]
  kernel_rfl
theorem h_look2 (w : World) : (fun (os : OsState) => namesBound PySem.Challenge.pw_fc0033_01 (Mine.HL Mine.T17 w.params)) = (fun _ => true) := by
  rw [PySem.W.Fast.te3978624981803375888, PySem.W.Fast.te17843093982178943641]
  kernel_rfl
theorem h_look3 (w : World) : (fun (os : OsState) => gensDone ⟨Mine.HL Mine.T17 w.params, #[], (⟨0, 0, 0, 0⟩ : Drawn), 1442, os⟩) = (fun _ => true) := by
  rw [PySem.W.Fast.te17843093982178943641]
  kernel_rfl
theorem h_look4 (w : World) : (fun (os : OsState) => laidKept (Mine.HL Mine.T0 w.params) (Mine.HL Mine.T17 w.params)) = (fun _ => true) := by
  rw [PySem.W.Fast.te13825946027806631103, PySem.W.Fast.te17843093982178943641]
  kernel_rfl
theorem h_seen (w : World) : (fun os => openSeen Mine.qv [Str.ofString "_wall", Str.ofString "ABCMeta", Str.ofString "_ABCLike", Str.ofString "_abc_plain_meta", Str.ofString "_abc_has_iter", Str.ofString "_abc_has_len", Str.ofString "_abc_has_contains", Str.ofString "_abc_is_mappingproxy", Str.ofString "_abc_is_builtin_collection", Str.ofString "Iterable", Str.ofString "Sized", Str.ofString "Container", Str.ofString "Collection", Str.ofString "Set", Str.ofString "Mapping", Str.ofString "MappingView", Str.ofString "KeysView", Str.ofString "ItemsView", Str.ofString "ValuesView", Str.ofString "MutableMapping", Str.ofString "Cache", Str.ofString "RRCache", Str.ofString "_law_next", Str.ofString "_law_choice", Str.ofString "_law_deed", Str.ofString "_law_made", Str.ofString "_law_rows"] (importedModules PySem.Challenge.pw_fc0033_01.main.body) (fun s => xlAt Mine.qv [] s && recOk PySem.Challenge.rw_fc0033_01.row.toRowW.records s) true ⟨Mine.HL Mine.T17 w.params, #[], (⟨0, 0, 0, 0⟩ : Drawn), 1442, os⟩) = (fun _ => openGood Mine.qv [Str.ofString "_wall", Str.ofString "ABCMeta", Str.ofString "_ABCLike", Str.ofString "_abc_plain_meta", Str.ofString "_abc_has_iter", Str.ofString "_abc_has_len", Str.ofString "_abc_has_contains", Str.ofString "_abc_is_mappingproxy", Str.ofString "_abc_is_builtin_collection", Str.ofString "Iterable", Str.ofString "Sized", Str.ofString "Container", Str.ofString "Collection", Str.ofString "Set", Str.ofString "Mapping", Str.ofString "MappingView", Str.ofString "KeysView", Str.ofString "ItemsView", Str.ofString "ValuesView", Str.ofString "MutableMapping", Str.ofString "Cache", Str.ofString "RRCache", Str.ofString "_law_next", Str.ofString "_law_choice", Str.ofString "_law_deed", Str.ofString "_law_made", Str.ofString "_law_rows"]) := by
  rw [PySem.W.Fast.te5923862056798008813, PySem.W.Fast.te3978624981803375888, PySem.W.Fast.te17843093982178943641, PySem.W.Fast.te4187177175401517315, PySem.W.Fast.te1308284014337473614, PySem.W.Fast.te2368527892694137696, PySem.W.Fast.te2375417147341851528]
  kernel_rfl
theorem h_obs (w : World) : (fun os => Mine.Hk.obs ⟨Mine.HL Mine.T17 w.params, #[], (⟨0, 0, 0, 0⟩ : Drawn), 1442, os⟩) = (fun _ => Mine.Hk.val w) := by
  rw [PySem.W.Fast.te14343140133592188548, PySem.W.Fast.te17843093982178943641]
  kernel_rfl
theorem h_looks (w : World) : (fun os => ((staticsOk (importedModules PySem.Challenge.pw_fc0033_01.main.body) (Mine.HL Mine.T0 w.params) (Mine.HL Mine.T17 w.params) && namesBound PySem.Challenge.pw_fc0033_01 (Mine.HL Mine.T17 w.params) && gensDone ⟨Mine.HL Mine.T17 w.params, #[], (⟨0, 0, 0, 0⟩ : Drawn), 1442, os⟩ && laidKept (Mine.HL Mine.T0 w.params) (Mine.HL Mine.T17 w.params)), openSeen Mine.qv [Str.ofString "_wall", Str.ofString "ABCMeta", Str.ofString "_ABCLike", Str.ofString "_abc_plain_meta", Str.ofString "_abc_has_iter", Str.ofString "_abc_has_len", Str.ofString "_abc_has_contains", Str.ofString "_abc_is_mappingproxy", Str.ofString "_abc_is_builtin_collection", Str.ofString "Iterable", Str.ofString "Sized", Str.ofString "Container", Str.ofString "Collection", Str.ofString "Set", Str.ofString "Mapping", Str.ofString "MappingView", Str.ofString "KeysView", Str.ofString "ItemsView", Str.ofString "ValuesView", Str.ofString "MutableMapping", Str.ofString "Cache", Str.ofString "RRCache", Str.ofString "_law_next", Str.ofString "_law_choice", Str.ofString "_law_deed", Str.ofString "_law_made", Str.ofString "_law_rows"] (importedModules PySem.Challenge.pw_fc0033_01.main.body) (fun s => xlAt Mine.qv [] s && recOk PySem.Challenge.rw_fc0033_01.row.toRowW.records s) true ⟨Mine.HL Mine.T17 w.params, #[], (⟨0, 0, 0, 0⟩ : Drawn), 1442, os⟩, Mine.Hk.obs ⟨Mine.HL Mine.T17 w.params, #[], (⟨0, 0, 0, 0⟩ : Drawn), 1442, os⟩)) = (fun _ => (true, openGood Mine.qv [Str.ofString "_wall", Str.ofString "ABCMeta", Str.ofString "_ABCLike", Str.ofString "_abc_plain_meta", Str.ofString "_abc_has_iter", Str.ofString "_abc_has_len", Str.ofString "_abc_has_contains", Str.ofString "_abc_is_mappingproxy", Str.ofString "_abc_is_builtin_collection", Str.ofString "Iterable", Str.ofString "Sized", Str.ofString "Container", Str.ofString "Collection", Str.ofString "Set", Str.ofString "Mapping", Str.ofString "MappingView", Str.ofString "KeysView", Str.ofString "ItemsView", Str.ofString "ValuesView", Str.ofString "MutableMapping", Str.ofString "Cache", Str.ofString "RRCache", Str.ofString "_law_next", Str.ofString "_law_choice", Str.ofString "_law_deed", Str.ofString "_law_made", Str.ofString "_law_rows"], Mine.Hk.val w)) := by
  funext os
  refine Prod.ext ?_ (Prod.ext (congrFun (h_seen w) os) (congrFun (h_obs w) os))
  refine Bool.and_eq_true_iff.mpr ⟨Bool.and_eq_true_iff.mpr ⟨Bool.and_eq_true_iff.mpr ⟨congrFun (h_look1 w) os, congrFun (h_look2 w) os⟩, congrFun (h_look3 w) os⟩, congrFun (h_look4 w) os⟩
end Mine
end
section
open PySem PySem.W PyProof.Rows
set_option Elab.async false
set_option maxRecDepth 100000
set_option maxHeartbeats 0
set_option linter.unusedVariables false
namespace Mine
local macro_rules | `(tactic| walk_at "pad 0") => `(tactic| fail)
local macro_rules | `(tactic| walk_at "pad 1") => `(tactic| fail)
local macro_rules | `(tactic| walk_at "pad 2") => `(tactic| fail)
local macro_rules | `(tactic| walk_at "pad 3") => `(tactic| fail)
local macro_rules | `(tactic| walk_at "pad 4") => `(tactic| fail)
local macro_rules | `(tactic| walk_at "pad 5") => `(tactic| fail)
local macro_rules | `(tactic| walk_at "pad 6") => `(tactic| fail)
local macro_rules | `(tactic| walk_at "pad 7") => `(tactic| fail)
local macro_rules | `(tactic| walk_at "pad 8") => `(tactic| fail)
local macro_rules | `(tactic| walk_at "pad 9") => `(tactic| fail)
theorem anew_RRHead3 : True := by
  w_top off
  trivial
theorem left1 : LeftO PySem.Challenge.pw_fc0033_01 qv loose2 (fun s => xlAt qv [] s && recOk PySem.Challenge.rw_fc0033_01.row.toRowW.records s) Hk.obs Hk.val 20000 true :=
  LeftO.of_pieces (m₀ := 29) (ann := ann1) (open_cut h_imp (by decide) h_fence) h_size run1 (by decide) h_looks
theorem hd {d : DefRec} {kwd : List (Str × Expr)} (hdef : defOf qv PySem.Challenge.rw_fc0033_01.row.name = some (d, kwd)) (hp : PySem.Challenge.rw_fc0033_01.row.prog.theDef PySem.Challenge.rw_fc0033_01.row.name = some (d.params, d.body, d.scope)) (hk : kwWritten? d.params.kwonlyargs d.params.kw_defaults = some kwd)
    (walk : WalkO qv loose2 (XL qv []) (kmHook K Ka Ka_is [901]).says PySem.Challenge.rw_fc0033_01.row.toRowW d kwd (fun f vs => PySem.call f vs)) : PySem.Challenge.rw_fc0033_01.Holds := by
  w_on
  o_law
  refine holds_open (r := PySem.Challenge.rw_fc0033_01.row) (q := qv) (loose := loose2) (Xt := fun s => xlAt qv [] s && recOk PySem.Challenge.rw_fc0033_01.row.toRowW.records s) (XP := XL qv []) (Yf := Hk.obs) (Ya := Hk.val) (YP := Hk.says) (N := 20000) left1 Hk.of Hk.keeps (fun s e => xl_of s (Bool.and_eq_true_iff.mp e).1) XL.keeps hdef hp hk (fun s e => recFacts_of (Bool.and_eq_true_iff.mp e).2) (by rfl) (by assumption) ?ok ⟨rfl, rfl, rfl, rfl, rfl, by decide +kernel⟩ ?hw walk
  case ok => decide +kernel
  case hw => w_witness2
end Mine
end
section
open PySem PySem.W PyProof.Rows PySem.Calls PyProof.V
namespace Mine
/-! the plain side: the cache's parts as lists -/
abbrev KV := List (Int × PyData)
def encD (kv : KV) : List (PyData × PyData) := kv.map fun p => (PyData.int p.1, p.2)
def look (kv : KV) (k : Int) : Option PyData := (kv.find? fun p => p.1 = k).map (·.2)
def del (kv : KV) (k : Int) : KV := kv.filter fun p => decide (p.1 ≠ k)
def put (kv : KV) (k : Int) (v : PyData) : KV := if kv.any (fun p => decide (p.1 = k)) then kv.map (fun p => if p.1 = k then (p.1, v) else p) else kv ++ [(k, v)]
theorem same_ii (a b : Int) : PySem.Spec.same (.int a) (.int b) = decide (a = b) := PyProof.V.same_int a b
theorem encD_length (kv : KV) : (encD kv).length = kv.length := List.length_map ..
theorem lookup_encD (kv : KV) (k : Int) : PySem.Spec.lookup (.int k) (encD kv) = look kv k := by
  induction kv with
  | nil => rfl
  | cons p r ih =>
    unfold encD look at ih ⊢
    simp only [List.map_cons, PySem.Spec.lookup, same_ii, List.find?_cons]
    by_cases h : p.1 = k
    · simp [h]
    · simp only [h, decide_false, Bool.false_eq_true, if_false]; exact ih
theorem delD_encD (kv : KV) (k : Int) : delD (.int k) (encD kv) = encD (del kv k) := by
  induction kv with
  | nil => rfl
  | cons p r ih =>
    unfold encD delD del at ih ⊢
    simp only [List.map_cons, List.filter_cons, same_ii]
    by_cases h : p.1 = k
    · simp [h, ih]
    · simp [h, ih]
theorem putD_encD (kv : KV) (k : Int) (v : PyData) : putD (.int k) v (encD kv) = encD (put kv k v) := by
  have e : (encD kv).any (fun p => PySem.Spec.same p.1 (.int k)) = kv.any (fun p => decide (p.1 = k)) := by
    unfold encD
    induction kv with
    | nil => rfl
    | cons p r ih => simp only [List.map_cons, List.any_cons, same_ii, ih]
  unfold putD put
  rw [e]
  split
  · unfold encD
    rw [List.map_map, List.map_map]
    apply List.map_congr_left
    intro p _
    simp only [Function.comp, same_ii]
    by_cases h : p.1 = k <;> simp [h]
  · simp [encD]
theorem look_isSome (kv : KV) (k : Int) : (look kv k).isSome = decide (k ∈ kv.map (·.1)) := by
  induction kv with
  | nil => rfl
  | cons p r ih =>
    unfold look at ih ⊢
    simp only [List.find?_cons, List.map_cons, List.mem_cons]
    by_cases h : p.1 = k
    · simp [h]
    · have h' : ¬ k = p.1 := fun e => h e.symm
      simp only [h, decide_false, h', false_or]; exact ih
theorem del_keys (kv : KV) (k : Int) : (del kv k).map (·.1) = (kv.map (·.1)).filter (fun x => decide (x ≠ k)) := by
  unfold del; rw [List.filter_map]; rfl
theorem put_keys (kv : KV) (k : Int) (v : PyData) : (put kv k v).map (·.1) = if k ∈ kv.map (·.1) then kv.map (·.1) else kv.map (·.1) ++ [k] := by
  have e : kv.any (fun p => decide (p.1 = k)) = decide (k ∈ kv.map (·.1)) := by
    induction kv with
    | nil => rfl
    | cons p r ih =>
      rw [List.any_cons, ih, List.map_cons]
      by_cases h : p.1 = k
      · simp [h]
      · have h' : ¬ k = p.1 := fun e => h e.symm
        simp [h, h']
  unfold put
  rw [e]
  by_cases h : k ∈ kv.map (·.1)
  · rw [if_pos (by simpa using h), if_pos h, List.map_map]
    apply List.map_congr_left
    intro p _
    simp only [Function.comp]
    split <;> rfl
  · rw [if_neg (by simpa using h), if_neg h]; simp
theorem look_put (kv : KV) (k j : Int) (v : PyData) : look (put kv k v) j = if j = k then some v else look kv j := by
  have hn : ∀ l : KV, (∀ p ∈ l, p.1 ≠ k) → look (l ++ [(k, v)]) j = if j = k then some v else look l j := by
    intro l
    induction l with
    | nil => intro _; unfold look; by_cases h : j = k <;> simp [h, eq_comm]
    | cons p r ih =>
      intro hp
      have ih := ih fun q hq => hp q (.tail _ hq)
      unfold look at ih ⊢
      simp only [List.cons_append, List.find?_cons]
      by_cases h : p.1 = j
      · have : j ≠ k := fun e => hp p (.head _) (h.trans e)
        simp [h, this]
      · simp only [h, decide_false]; exact ih
  have hm : ∀ l : KV, look (l.map (fun p => if p.1 = k then (p.1, v) else p)) j = if j = k ∧ l.any (fun p => decide (p.1 = k)) = true then some v else look l j := by
    intro l
    induction l with
    | nil => simp [look]
    | cons p r ih =>
      unfold look at ih ⊢
      simp only [List.map_cons, List.find?_cons, List.any_cons]
      by_cases h : p.1 = k
      · by_cases hj : j = k
        · subst hj; simp [h]
        · have : ¬ k = j := fun e => hj e.symm
          simp only [h, if_true, this, decide_false, hj, false_and, if_false] at ih ⊢
          exact ih
      · by_cases hj : p.1 = j
        · have : ¬ j = k := fun e => h (hj.trans e)
          simp [h, hj, this]
        · simp only [h, if_false, hj, decide_false, Bool.false_or] at ih ⊢
          exact ih
  unfold put
  split
  · rename_i h
    rw [hm]
    simp [h]
  · rename_i h
    refine hn kv fun p hp e => h ?_
    exact List.any_eq_true.mpr ⟨p, hp, by simpa using e⟩
theorem look_del (kv : KV) (k j : Int) : look (del kv k) j = if j = k then none else look kv j := by
  induction kv with
  | nil => simp [look, del]
  | cons p r ih =>
    unfold look del at ih ⊢
    simp only [List.filter_cons, List.find?_cons]
    by_cases h : p.1 = k
    · simp only [h, ne_eq, not_true, decide_false, Bool.false_eq_true, if_false]
      by_cases hj : j = k
      · simp only [hj, if_true] at ih ⊢; exact ih
      · have : ¬ k = j := fun e => hj e.symm
        simp only [this, decide_false, hj, if_false] at ih ⊢; exact ih
    · simp only [h, ne_eq, not_false_eq_true, decide_true, if_true, List.find?_cons]
      by_cases hj : p.1 = j
      · have : ¬ j = k := fun e => h (hj.trans e)
        simp [hj, this]
      · simp only [hj, decide_false]; exact ih

def swapRem (ks : List Int) (i : Nat) : List Int := if i + 1 = ks.length then ks.dropLast else (ks.set i (ks.getD (ks.length - 1) 0)).dropLast
theorem swapRem_length (ks : List Int) (i : Nat) : (swapRem ks i).length = ks.length - 1 := by
  unfold swapRem; split <;> simp
theorem set_perm : ∀ (l : List Int) (i : Nat) (x : Int), i < l.length → (l.set i x).Perm (x :: l.eraseIdx i)
  | [], _, _, h => absurd h (Nat.not_lt_zero _)
  | _ :: r, 0, x, _ => .refl _
  | a :: r, i + 1, x, h => ((set_perm r i x (Nat.lt_of_succ_lt_succ h)).cons a).trans (List.Perm.swap ..)
theorem swapRem_perm (ks : List Int) (i : Nat) (h : i < ks.length) : (ks.getD i 0 :: swapRem ks i).Perm ks := by
  obtain ⟨init, last, rfl⟩ : ∃ init last, ks = init ++ [last] := ⟨ks.dropLast, ks.getLast (by intro e; subst e; simp at h), (List.dropLast_concat_getLast _).symm⟩
  unfold swapRem
  simp only [List.length_append, List.length_cons, List.length_nil, Nat.zero_add] at h ⊢
  by_cases hi : i = init.length
  · subst hi
    simp only [if_true, List.dropLast_concat]
    simp only [List.getD_eq_getElem?_getD, List.getElem?_append_right (Nat.le_refl _), Nat.sub_self, List.getElem?_cons_zero, Option.getD_some]
    exact (List.perm_append_singleton last init).symm
  · have hlt : i < init.length := by omega
    rw [if_neg (by omega)]
    have e1 : (init ++ [last]).getD (init.length + 1 - 1) 0 = last := by simp
    have e2 : (init ++ [last]).getD i 0 = init[i] := by
      rw [List.getD_eq_getElem?_getD, List.getElem?_append_left hlt, List.getElem?_eq_getElem hlt]; rfl
    rw [e1, e2, List.set_append_left _ _ hlt, List.dropLast_concat]
    have := set_perm init i last hlt
    have e3 : (init[i] :: init.eraseIdx i).Perm init := by
      have := set_perm init i init[i] hlt
      rw [List.set_getElem_self] at this
      exact this.symm
    calc (init[i] :: init.set i last).Perm (init[i] :: last :: init.eraseIdx i) := List.Perm.cons _ this
      _ |>.Perm (last :: init[i] :: init.eraseIdx i) := List.Perm.swap ..
      _ |>.Perm (last :: init) := List.Perm.cons _ e3
      _ |>.Perm (init ++ [last]) := (List.perm_append_singleton last init).symm

def IdxOk (ix : KV) (ks : List Int) : Prop := (ix.map (·.1)).Perm ks ∧ ∀ j : Nat, j < ks.length → look ix (ks.getD j 0) = some (.int (j : Int))
structure Inv (kv ix : KV) (ks : List Int) : Prop where
  nodup : ks.Nodup
  data : (kv.map (·.1)).Perm ks
  idx : IdxOk ix ks
theorem Inv.nil : Inv [] [] [] := ⟨.nil, .refl _, .refl _, fun j h => absurd h (Nat.not_lt_zero j)⟩
theorem Inv.mem {kv ix : KV} {ks : List Int} (I : Inv kv ix ks) (k : Int) : (look kv k).isSome = decide (k ∈ ks) := by
  rw [look_isSome]; simp only [I.data.mem_iff]
theorem Inv.memI {kv ix : KV} {ks : List Int} (I : Inv kv ix ks) (k : Int) : (look ix k).isSome = decide (k ∈ ks) := by
  rw [look_isSome]; simp only [I.idx.1.mem_iff]
theorem getD_of_mem {ks : List Int} {k : Int} (h : k ∈ ks) : ∃ j, j < ks.length ∧ ks.getD j 0 = k := by
  obtain ⟨j, hj, e⟩ := List.getElem_of_mem h
  exact ⟨j, hj, by rw [List.getD_eq_getElem?_getD, List.getElem?_eq_getElem hj]; exact e⟩
theorem getD_mem {ks : List Int} {j : Nat} (h : j < ks.length) : ks.getD j 0 ∈ ks := by
  rw [List.getD_eq_getElem?_getD, List.getElem?_eq_getElem h]; exact List.getElem_mem h
theorem getD_inj {ks : List Int} (n : ks.Nodup) {i j : Nat} (hi : i < ks.length) (hj : j < ks.length) (e : ks.getD i 0 = ks.getD j 0) : i = j := by
  rw [List.getD_eq_getElem?_getD, List.getElem?_eq_getElem hi, List.getD_eq_getElem?_getD, List.getElem?_eq_getElem hj] at e
  have e : ks[i] = ks[j] := e
  rcases Nat.lt_trichotomy i j with q | q | q
  · exact absurd e (List.pairwise_iff_getElem.mp n i j hi hj q)
  · exact q
  · exact absurd e.symm (List.pairwise_iff_getElem.mp n j i hj hi q)
theorem Inv.at_ {kv ix : KV} {ks : List Int} (I : Inv kv ix ks) {k : Int} (h : k ∈ ks) : ∃ j : Nat, j < ks.length ∧ ks.getD j 0 = k ∧ look ix k = some (.int (j : Int)) := by
  obtain ⟨j, hj, e⟩ := getD_of_mem h
  exact ⟨j, hj, e, e ▸ I.idx.2 j hj⟩
theorem Inv.put_old {kv ix : KV} {ks : List Int} (I : Inv kv ix ks) {k : Int} {v : PyData} (h : k ∈ ks) : Inv (put kv k v) ix ks :=
  ⟨I.nodup, by rw [put_keys, if_pos (I.data.mem_iff.mpr h)]; exact I.data, I.idx⟩
theorem Inv.put_new {kv ix : KV} {ks : List Int} (I : Inv kv ix ks) {k : Int} {v : PyData} (h : k ∉ ks) : Inv (put kv k v) (put ix k (.int (ks.length : Int))) (ks ++ [k]) := by
  refine ⟨List.nodup_append.mpr ⟨I.nodup, by simp, fun a ha b hb e => ?_⟩, ?_, ?_, fun j hj => ?_⟩
  · rw [List.mem_singleton] at hb; subst hb; subst e; exact h ha
  · rw [put_keys, if_neg (fun q => h (I.data.mem_iff.mp q))]; exact I.data.append_right _
  · rw [put_keys, if_neg (fun q => h (I.idx.1.mem_iff.mp q))]; exact I.idx.1.append_right _
  · rw [look_put]
    rw [List.length_append, List.length_singleton] at hj
    by_cases e : j = ks.length
    · subst e
      have : (ks ++ [k]).getD ks.length 0 = k := by simp
      rw [if_pos this]
    · have hlt : j < ks.length := by omega
      have e2 : (ks ++ [k]).getD j 0 = ks.getD j 0 := by rw [List.getD_eq_getElem?_getD, List.getElem?_append_left hlt, ← List.getD_eq_getElem?_getD]
      rw [e2, if_neg (fun q : ks.getD j 0 = k => h (q ▸ getD_mem hlt))]
      exact I.idx.2 j hlt
def delI (ix : KV) (ks : List Int) (i : Nat) : KV := if i + 1 = ks.length then del ix (ks.getD i 0) else put (del ix (ks.getD i 0)) (ks.getD (ks.length - 1) 0) (.int (i : Int))
theorem filter_perm {l ks : List Int} (p : l.Perm ks) (n : ks.Nodup) {i : Nat} (h : i < ks.length) : (l.filter (fun x => decide (x ≠ ks.getD i 0))).Perm (swapRem ks i) := by
  have p2 := p.trans (swapRem_perm ks i h).symm
  have n2 : (ks.getD i 0 :: swapRem ks i).Nodup := (swapRem_perm ks i h).nodup_iff.mpr n
  refine (p2.filter _).trans ?_
  rw [List.filter_cons, if_neg (by simp), List.filter_eq_self.mpr]
  · intro a ha
    have := (List.nodup_cons.mp n2).1
    simp only [ne_eq, decide_eq_true_eq]
    intro e
    exact this (e ▸ ha)
theorem swapRem_getD (ks : List Int) (i j : Nat) (hi : i < ks.length) (hj : j + 1 < ks.length) : (swapRem ks i).getD j 0 = if j = i then ks.getD (ks.length - 1) 0 else ks.getD j 0 := by
  unfold swapRem
  split
  · rename_i e
    rw [if_neg (by omega)]
    rw [List.getD_eq_getElem?_getD, List.getElem?_dropLast, if_pos (by omega), ← List.getD_eq_getElem?_getD]
  · rw [List.getD_eq_getElem?_getD, List.getElem?_dropLast, if_pos (by rw [List.length_set]; omega)]
    rw [List.getElem?_set]
    by_cases e : j = i
    · subst e
      rw [if_pos rfl, if_pos hi, if_pos rfl]; rfl
    · rw [if_neg (fun q => e q.symm), if_neg e, ← List.getD_eq_getElem?_getD]
theorem Inv.drop {kv ix : KV} {ks : List Int} (I : Inv kv ix ks) {i : Nat} (h : i < ks.length) : Inv (del kv (ks.getD i 0)) (delI ix ks i) (swapRem ks i) := by
  have n2 : (ks.getD i 0 :: swapRem ks i).Nodup := (swapRem_perm ks i h).nodup_iff.mpr I.nodup
  refine ⟨(List.nodup_cons.mp n2).2, ?_, ?_, fun j hj => ?_⟩
  · rw [del_keys]; exact filter_perm I.data I.nodup h
  · have k1 : ((del ix (ks.getD i 0)).map (·.1)).Perm (swapRem ks i) := by rw [del_keys]; exact filter_perm I.idx.1 I.nodup h
    unfold delI
    split
    · exact k1
    · rename_i e
      rw [put_keys, if_pos ?_]
      · exact k1
      · refine k1.mem_iff.mpr ?_
        have := swapRem_getD ks i i h (by omega)
        rw [if_pos rfl] at this
        rw [← this]
        exact getD_mem (by rw [swapRem_length]; omega)
  · rw [swapRem_length] at hj
    have hj1 : j + 1 < ks.length := by omega
    rw [swapRem_getD ks i j h hj1]
    unfold delI
    split
    · rename_i e
      have hne : j ≠ i := by omega
      rw [if_neg hne, look_del, if_neg]
      · exact I.idx.2 j (by omega)
      · intro q; exact hne (getD_inj I.nodup (by omega) h q)
    · rename_i e
      by_cases hji : j = i
      · subst hji
        rw [if_pos rfl, look_put, if_pos rfl]
      · rw [if_neg hji, look_put, if_neg, look_del, if_neg]
        · exact I.idx.2 j (by omega)
        · intro q; exact hji (getD_inj I.nodup (by omega) h q)
        · intro q; have := getD_inj I.nodup (by omega) (by omega) q; omega
end Mine
end
section
open PySem PySem.W PyProof.Rows PySem.Calls
set_option Elab.async false
set_option maxRecDepth 100000
set_option maxHeartbeats 8000000
namespace Mine
theorem anew_RRW1 : True := by
  w_top off
  trivial
section
variable (prog : Program) (w : World) (p : Program) (loose : List Str) (mean : ExcName → Option Value) (mg mb : Str → Option Value)
abbrev Spec (D U : Nat) (f : Addr) (pos : List Value) (pre : List (Addr × Obj)) (post : Value → List (Addr × Obj) → Prop) : Prop :=
  ∀ (dp un : Nat) (gd : Option (List Code)) (cn : Str) (cs : Scope) (a : Addr) (ccd : Value) (cl : List (Str × Addr)) (outer : List Env) (A₀ : Around) (base h₀ : Heap) (L : Addr) (m : Str → Option Value) (rest : List (Addr × Obj)) (s : Shared)
    (Q E : Value → Shared → Prop),
    Below A₀ base outer h₀ → Fr h₀ L s.heap m → (K w.params).In h₀ → News h₀ L s.heap (pre ++ rest) → Top p loose mean mg mb h₀ → CodeHd base 905 901 → cs.kind = .function → (∀ x ∈ pre, ∀ q ∈ rest, q.1 ≠ x.1) → dp + D < recursionLimit → un + U < cLine →
    (∀ r mine h' tk', Fr h₀ L h' m → News h₀ L h' (mine ++ rest) → (∀ x ∈ mine, ∀ q ∈ rest, q.1 ≠ x.1) → post r mine → Q r { s with heap := h', toks := tk' }) →
    wpAny (model prog w) (ktrTop dp un gd cn cs L a ccd cl outer) (call (.ref f) pos) Q E s
end
section
variable {prog : Program} {w : World} {p : Program} {loose : List Str} {mean : ExcName → Option Value} {mg mb : Str → Option Value}
theorem enter {dp un : Nat} {gd : Option (List Code)} {cn : Str} {cs : Scope} {a : Addr} {ccd : Value} {cl : List (Str × Addr)} {outer : List Env} {A₀ : Around} {base h₀ : Heap} {L : Addr} {m : Str → Option Value} {news : List (Addr × Obj)} {s : Shared}
    {Q E : Value → Shared → Prop} {name qual : Str} {params : Arguments} {body : List Stmt} {scope : Scope} {dV kV doc pm cdv ct oc : Value} {an od : Option Addr} {osl : Array (Option Value)} {f : Addr} {pos : List Value} {kw : List (Str × Value)} (binds : List (Str × Value))
    (B : Below A₀ base outer h₀) (F : Fr h₀ L s.heap m) (X : (K w.params).In h₀) (N : News h₀ L s.heap news) (T : Top p loose mean mg mb h₀) (hcs : cs.kind = .function) (hroom : dp < recursionLimit)
    (ho : (K w.params).lookup f = some ⟨oc, od, .func (fnOf name qual params body scope dV kV doc pm an cdv ct), osl⟩) (hcd : codeIn (K w.params) cdv qual = true)
    (hbind : BindsTo s (fnOf name qual params body scope dV kV doc pm an cdv ct) ⟨pos, kw⟩ binds) (hloc : ∀ y ∈ binds, scope.names.lookup y.1 = some .local)
    (h : ∀ g L' h₁, Fr h₀ L g m → Fr g L' h₁ (fun y => binds.reverse.lookup y) → News g L' h₁ news → Below (ktrTop dp un gd cn cs L a ccd cl outer) base (envX cn cs L a ccd cl :: outer) g → (K w.params).In g → Top p loose mean mg mb g →
      wpAny (model prog w) (ktrTop (dp + 1) (un + 3) gd qual scope L' f cdv [] (envX cn cs L a ccd cl :: outer)) (execs body (envOf qual scope L' f cdv))
        (fun fl s' => LeaveK h₀ L m g (fun r s' => match r with | .ok (.ret v) => Q v s' | .ok _ => False | .error e => E e s') (match fl with | .ret v => v | _ => .none) s')
        (fun e s' => wpAny (model prog w) (ktrTop (dp + 1) (un + 3) gd qual scope L' f cdv [] (envX cn cs L a ccd cl :: outer)) (leaving (envOf qual scope L' f cdv) e) (fun _ s'' => E e s'') (fun e' s'' => E e' s'') s')
        { s with heap := h₁, toks := s.toks + binds.length })
    (hco : scope.isCoroutine = false) (hgen : scope.isGenerator = false) (hk : scope.kind = .function)
    (hcell : ∀ x ∈ scope.names, x.2 ≠ .cell) :
    wpAny (model prog w) (ktrTop dp un gd cn cs L a ccd cl outer) (call (.ref f) pos kw) Q E s :=
  wpAny_call (code_def (binds := binds) B F X N T rfl rfl hcs ho hcd hroom hbind hloc h hco hgen hk hcell)
theorem enterF {dp un : Nat} {gd : Option (List Code)} {cn : Str} {cs : Scope} {a : Addr} {ccd : Value} {cl cl' : List (Str × Addr)} {outer : List Env} {A₀ : Around} {base h₀ : Heap} {L : Addr} {m : Str → Option Value} {news : List (Addr × Obj)} {s : Shared}
    {Q E : Value → Shared → Prop} {name qual : Str} {params : Arguments} {body : List Stmt} {scope : Scope} {doc pm ctv : Value} {c' f : Addr} {pos : List Value} {kw : List (Str × Value)} (binds : List (Str × Value))
    (B : Below A₀ base outer h₀) (F : Fr h₀ L s.heap m) (X : (K w.params).In h₀) (N : News h₀ L s.heap news) (T : Top p loose mean mg mb h₀) (hcs : cs.kind = .function) (hroom : dp < recursionLimit)
    (ho : (f, fnMade name qual params body scope cl' doc pm c' ctv) ∈ news) (hcd : s.heap.CodeRec (.ref c') qual)
    (hbind : BindsTo s (fnX name qual params body scope cl' .none .none doc pm none (.ref c') ctv) ⟨pos, kw⟩ binds) (hloc : ∀ y ∈ binds, scope.names.lookup y.1 = some .local)
    (h : ∀ g L' h₁, Fr h₀ L g m → Fr g L' h₁ (fun y => binds.reverse.lookup y) → News g L' h₁ news → Below (ktrTop dp un gd cn cs L a ccd cl outer) base (envX cn cs L a ccd cl :: outer) g → (K w.params).In g → Top p loose mean mg mb g →
      wpAny (model prog w) (ktrTop (dp + 1) (un + 3) gd qual scope L' f (.ref c') cl' (envX cn cs L a ccd cl :: outer)) (execs body (envX qual scope L' f (.ref c') cl'))
        (fun fl s' => LeaveK h₀ L m g (fun r s' => match r with | .ok (.ret v) => Q v s' | .ok _ => False | .error e => E e s') (match fl with | .ret v => v | _ => .none) s')
        (fun e s' => wpAny (model prog w) (ktrTop (dp + 1) (un + 3) gd qual scope L' f (.ref c') cl' (envX cn cs L a ccd cl :: outer)) (leaving (envX qual scope L' f (.ref c') cl') e) (fun _ s'' => E e s'') (fun e' s'' => E e' s'') s')
        { s with heap := h₁, toks := s.toks + binds.length })
    (hco : scope.isCoroutine = false) (hgen : scope.isGenerator = false) (hk : scope.kind = .function)
    (hcell : ∀ x ∈ scope.names, x.2 ≠ .cell) :
    wpAny (model prog w) (ktrTop dp un gd cn cs L a ccd cl outer) (call (.ref f) pos kw) Q E s :=
  wpAny_call (code_nest (binds := binds) B F X N T rfl rfl hcs ho hcd hroom hbind hloc h hco hgen hk hcell)
end
def nxt (ns : List Int) (i k : Int) : Int := if (ns.length : Int) < i + 1 then 0 else Int.fmod (ns.getD i.toNat 0) k
local macro_rules | `(tactic| k_all) => `(tactic| assumption)
theorem next_spec {prog : Program} {w : World} {p : Program} {loose : List Str} {mean : ExcName → Option Value} {mg mb : Str → Option Value} {st sl : Addr} {n n2 : Nat} {i k : Int} {ti tk : Tok} {vs : List Value} {ns : List Int}
    (hI : IntsAre vs ns) (h0 : 0 ≤ i) (hi : i < 1000) (hl : ns.length ≤ 63) (hk : 0 < k) (hk2 : k < 1000) (hne : @LT.lt Nat _ sl st) :
    Spec prog w p loose mean mg mb 3 30 899 [.ref st, .int k tk] [(st, listOf #[.ref sl, .int i ti] n), (sl, listOf vs.toArray n2)]
      (fun r mine => (∃ t, r = .int (nxt ns i k) t) ∧ ∃ ti' n', mine = [(st, listOf #[.ref sl, .int (i + 1) ti'] n'), (sl, listOf vs.toArray n2)]) := by
  intro dp un gd cn cs a ccd cl outer A₀ base h₀ L m rest s Q E B F X N T hC hcs hap hd hu hret
  have key : (PySem.Challenge.rw_fc0033_01, Mine.K) = (PySem.Challenge.rw_fc0033_01, Mine.K) := by k_fill; rfl
  clear key
  simp only [List.cons_append, List.nil_append] at N
  have r1 := hap _ (.head _)
  have r2 := hap _ (.tail _ (.head _))
  clear hap
  refine enter [(Str.ofString "state", .ref st), (Str.ofString "limit", .int k tk)] B F X N T hcs (by omega) (by k_is) (by k_is) (by exact BindsTo.of_eq rfl) (by exact locs rfl) ?_ (by exact rfl) (by exact rfl) (by exact rfl) (by decide)
  intro g' L' h' FG' F' N' B' X' T'
  (try dsimp only)
  k_fold
  k_steps
  all_goals
    (rename Fr h₀ L _ m => F9; rename News h₀ L _ _ => N9; refine hret _ [_, _] _ _ F9 N9 (List.forall_mem_cons.mpr ⟨r1, List.forall_mem_cons.mpr ⟨r2, List.forall_mem_nil _⟩⟩) ⟨⟨_, congrArg (fun z => Value.int z _) ?_⟩, _, _, rfl⟩)
  · unfold nxt; rw [if_pos (by assumption)]
  · unfold nxt; rw [if_neg (by assumption)]; congr; omega
end Mine
end
section
open PySem PySem.W PyProof.Rows PySem.Calls PyProof.V
set_option Elab.async false
set_option maxRecDepth 100000
set_option maxHeartbeats 8000000
set_option linter.unusedVariables false
namespace Mine
def Halt (p : Prop) : Prop := p
theorem halt {p : Prop} (h : Halt p) : p := h
theorem unhalt {p : Prop} (h : p) : Halt p := h
theorem news_sub {h₀ h : Heap} {L : Addr} {l l' : List (Addr × Obj)} (N : News h₀ L h l) (hs : ∀ p ∈ l', p ∈ l) : News h₀ L h l' := fun p hp => N p (hs p hp)
theorem idx_lt {d : Int} {n : Nat} (h : 0 ≤ d) (hn : 0 < n) : (Int.fmod d (n : Int)).toNat < n := by
  have h1 : 0 ≤ Int.fmod d (n : Int) := Int.fmod_nonneg h (by omega)
  have h2 : Int.fmod d (n : Int) < n := Int.fmod_lt_of_pos _ (by omega)
  omega
theorem del_inst {M : Model} {A : Around} {E : Value → Shared → Prop} {s : Shared} {K : Frag} {x C L f : Addr} {h₀ : Heap} {m : Str → Option Value} {ox : Obj} {od : Option Obj} {i : Value} {Q : Unit → Shared → Prop} (F : Fr h₀ L s.heap m) (X₀ : K.In h₀) (I : InstAt s.heap x ox C od) (hq : noSeq K C = true) (hs : findIn K (.ref C) "__delitem__" = some (some (.ref f))) (hf : isFn K (.ref f) = true)
    (h : wpAny M A (call (.ref f) [.ref x, i]) (fun _ s' => Q () s') E s) : wpAny M A (delItem (.ref x) i) Q E s := by
  have X := X₀.keeps F.keep
  unfold delItem sequenceKey
  refine wpAny_holding (wpAny_bind (wpAny_bind (I.type.here ?_)))
  refine wpAny_bind ((anyM_none X hq).here ?_)
  rw [if_pos (show (!false) = true from rfl)]
  exact wpAny_pure (wpAny_bind (special_fn X I hs (beq_iff_eq.mp hf) (wpAny_mono h (fun _ _ z => wpAny_pure z) fun _ _ z => z)))
end Mine
end
section
open PySem PySem.W PyProof.Rows PySem.Calls PyProof.V
set_option Elab.async false
set_option maxRecDepth 100000
set_option maxHeartbeats 8000000
set_option linter.unusedVariables false
namespace Mine
local macro_rules | `(tactic| walk_at "pad 0") => `(tactic| fail)
local macro_rules | `(tactic| walk_at "pad 1") => `(tactic| fail)
local macro_rules | `(tactic| walk_at "pad 2") => `(tactic| fail)
local macro_rules | `(tactic| walk_at "pad 3") => `(tactic| fail)
local macro_rules | `(tactic| walk_at "pad 4") => `(tactic| fail)
local macro_rules | `(tactic| walk_at "pad 5") => `(tactic| fail)
local macro_rules | `(tactic| walk_at "pad 6") => `(tactic| fail)
local macro_rules | `(tactic| walk_at "pad 7") => `(tactic| fail)
local macro_rules | `(tactic| walk_at "pad 8") => `(tactic| fail)
local macro_rules | `(tactic| walk_at "pad 9") => `(tactic| fail)
theorem anew_RRW2 : True := by
  w_top off
  trivial
abbrev cEs (P : Params) (t1 t2 t3 t4 t5 t6 : Tok) (dd : Addr) (cur : Int) (tc : Tok) (room : Int) (tr : Tok) (f di dk : Addr) : List DictEntry :=
  [⟨PyData.keyHash P (Str.ofString "_Cache__data"), .str (Str.ofString "_Cache__data") t1, .ref dd⟩, ⟨PyData.keyHash P (Str.ofString "_Cache__currsize"), .str (Str.ofString "_Cache__currsize") t2, .int cur tc⟩,
   ⟨PyData.keyHash P (Str.ofString "_Cache__maxsize"), .str (Str.ofString "_Cache__maxsize") t3, .int room tr⟩, ⟨PyData.keyHash P (Str.ofString "_RRCache__choice"), .str (Str.ofString "_RRCache__choice") t4, .ref f⟩,
   ⟨PyData.keyHash P (Str.ofString "_RRCache__index"), .str (Str.ofString "_RRCache__index") t5, .ref di⟩, ⟨PyData.keyHash P (Str.ofString "_RRCache__keys"), .str (Str.ofString "_RRCache__keys") t6, .ref dk⟩]
structure CA where
  c : Addr
  d : Addr
  dd : Addr
  f : Addr
  di : Addr
  dk : Addr
structure CA.ord (x : CA) : Prop where
  o0 : @LT.lt Nat _ 1 x.d
  o1 : @LT.lt Nat _ x.d x.c
  o2 : @LT.lt Nat _ x.c x.dd
  o3 : @LT.lt Nat _ x.dd x.di
  o4 : @LT.lt Nat _ x.di x.dk
def CacheL (prog : Program) (w : World) (x : CA) (room : Int) (kv ix : KV) (ks : List Int) (l : List (Addr × Obj)) : Prop :=
  ∃ (od oi : Obj) (kvs ivs : List (Int × Value)) (vs : List Value) (nk : Nat) (t1 t2 t3 t4 t5 t6 tc tr : Tok), od.IsDictOf (intKind prog w) kvs ∧ FlatPairs PyData.int kvs (encD kv) ∧ oi.IsDictOf (intKind prog w) ivs ∧ FlatPairs PyData.int ivs (encD ix) ∧ IntsAre vs ks ∧
    l = [(x.c, instObj 890 x.d), (x.d, dictOf (cEs w.params t1 t2 t3 t4 t5 t6 x.dd (ks.length : Int) tc room tr x.f x.di x.dk) 6), (x.dd, od), (x.di, oi), (x.dk, listOf vs.toArray nk)]
theorem modules_ne {a : Addr} (h : @LT.lt Nat _ 1 a) : (a == sysModules) = false := by
  have : sysModules = 1 := rfl
  rw [this]
  exact beq_eq_false_iff_ne.mpr (Nat.ne_of_gt h)
local macro_rules | `(tactic| k_all) => `(tactic| assumption)
local macro_rules | `(tactic| dict_fit) => `(tactic| omega)
local macro_rules | `(tactic| k_room) => `(tactic| ktr_room)
section
variable {prog : Program} {w : World} {p : Program} {loose : List Str} {mean : ExcName → Option Value} {mg mb : Str → Option Value}
theorem contains_spec {x : CA} {room k : Int} {tk : Tok} {kv ix : KV} {ks : List Int} {pre : List (Addr × Obj)} (o : x.ord) (hc : CacheL prog w x room kv ix ks pre) (hsz : kv.length ≤ 64) :
    Spec prog w p loose mean mg mb 3 30 749 [.ref x.c, .int k tk] pre (fun r mine => r = .bool (look kv k).isSome ∧ CacheL prog w x room kv ix ks mine) := by
  obtain ⟨c, d, dd, f, di, dk⟩ := x
  have hc0 := hc
  obtain ⟨od, oi, kvs, ivs, vs, nk, t1, t2, t3, t4, t5, t6, tc, tr, hod, hf, hoi, hfi, hI, rfl⟩ := hc
  obtain ⟨o0, o1, o2, o3, o4⟩ := o
  dsimp only at o0 o1 o2 o3 o4 hc0 ⊢
  intro dp un gd cn cs a ccd cl outer A₀ base h₀ L m rest s Q E B F X N T hC hcs hap hd hu hret
  have key : (PySem.Challenge.rw_fc0033_01, Mine.K) = (PySem.Challenge.rw_fc0033_01, Mine.K) := by k_fill; rfl
  clear key
  simp only [List.cons_append, List.nil_append] at N
  have hdd : (dd == sysModules) = false := modules_ne (by omega)
  have hsz2 : (encD kv).length ≤ 64 := by rw [encD_length]; exact hsz
  rw [← lookup_encD] at hret
  refine enter [(Str.ofString "self", .ref c), (Str.ofString "key", .int k tk)] B F X N T hcs (by omega) (by k_is) (by k_is) (by exact BindsTo.of_eq rfl) (by exact locs rfl) ?_ (by exact rfl) (by exact rfl) (by exact rfl) (by decide)
  intro g' L' h' FG' F' N' B' X' T'
  (try dsimp only)
  k_fold
  k_steps
  rename Fr h₀ L _ m => F9; rename News h₀ L _ _ => N9
  exact hret _ [_, _, _, _, _] _ _ F9 N9 hap ⟨rfl, hc0⟩

theorem rdel_spec {x : CA} {room k : Int} {tk : Tok} {kv ix : KV} {ks : List Int} {i : Nat} {pre : List (Addr × Obj)} (o : x.ord) (hc : CacheL prog w x room kv ix ks pre) (I : Inv kv ix ks) (hi : i < ks.length) (hk : ks.getD i 0 = k) (hsz : ks.length ≤ 8) :
    Spec prog w p loose mean mg mb 9 60 873 [.ref x.c, .int k tk] pre (fun r mine => r = .none ∧ CacheL prog w x room (del kv k) (delI ix ks i) (swapRem ks i) mine) := by
  obtain ⟨c, d, dd, f, di, dk⟩ := x
  obtain ⟨od, oi, kvs, ivs, vs, nk, t1, t2, t3, t4, t5, t6, tc, tr, hod, hf, hoi, hfi, hI, rfl⟩ := hc
  obtain ⟨o0, o1, o2, o3, o4⟩ := o
  dsimp only at o0 o1 o2 o3 o4 ⊢
  intro dp un gd cn cs a ccd cl outer A₀ base h₀ L m rest s Q E B F X N T hC hcs hap hd hu hret
  have key : (PySem.Challenge.rw_fc0033_01, Mine.K) = (PySem.Challenge.rw_fc0033_01, Mine.K) := by k_fill; rfl
  clear key
  simp only [List.cons_append, List.nil_append] at N
  have hdd : (dd == sysModules) = false := modules_ne (by omega)
  have hdi : (di == sysModules) = false := modules_ne (by omega)
  have hmem : k ∈ ks := hk ▸ getD_mem hi
  have hl2 : (PySem.Spec.lookup (PyData.int k) (encD kv)).isSome = true := by rw [lookup_encD, I.mem]; exact decide_eq_true hmem
  have hli : PySem.Spec.lookup (PyData.int k) (encD ix) = some (PyData.int (i : Int)) := by rw [lookup_encD, ← hk]; exact I.idx.2 i hi
  have l1 : kv.length = ks.length := by have := I.data.length_eq; rwa [List.length_map] at this
  have l2 : ix.length = ks.length := by have := I.idx.1.length_eq; rwa [List.length_map] at this
  have hsz2 : (encD kv).length ≤ 64 := by rw [encD_length]; omega
  have hsz3 : (encD ix).length ≤ 64 := by rw [encD_length]; omega
  have hi0 : (0 : Int) ≤ (i : Int) := by omega
  have hi1 : (i : Int) < (ks.length : Int) := by omega
  have hcl : ((ks.length : Int) - 1) = ((swapRem ks i).length : Int) := by rw [swapRem_length]; omega
  have hcur : (0 : Int) ≤ (ks.length : Int) ∧ (ks.length : Int) ≤ 100 := by omega
  have r1 := hap _ (.head _)
  have r2 := hap _ (.tail _ (.head _))
  have r3 := hap _ (.tail _ (.tail _ (.head _)))
  have r4 := hap _ (.tail _ (.tail _ (.tail _ (.head _))))
  have r5 := hap _ (.tail _ (.tail _ (.tail _ (.tail _ (.head _)))))
  clear hap
  refine enter [(Str.ofString "self", .ref c), (Str.ofString "key", .int k tk), (Str.ofString "cache_delitem", .ref 742)] B F X N T hcs (by omega) (by k_is) (by k_is) (by exact binds_K (by k_in) rfl (by k_is) rfl rfl rfl) (by exact locs rfl) ?_ (by exact rfl) (by exact rfl) (by exact rfl) (by decide)
  intro g' L' h' FG' F' N' B' X' T'
  (try dsimp only)
  k_fold
  k_steps
  · rename IntsAre _ _ => hI9
    have hL9 := hI9.length
    k_dflt (refine' kpa_pop ?F ?N ?U hI9 ?l ?z ?_; (case F => k_asm); (case N => k_asm); (case U => k_upd); (case l => (rw [hL9, List.length_set]; omega)); (case z => (rw [PySem.sizeLine_eq, hL9, List.length_set]; omega)))
    intro h' t' F' N' hI'
    k_steps
    rename Fr h₀ L _ m => F9; rename News h₀ L _ _ => N9
    rename Obj.IsDictOf _ _ (without kvs k) => d1; rename FlatPairs _ (without kvs k) _ => f1
    rename Obj.IsDictOf _ _ (stored _ _ _) => d2; rename FlatPairs _ (stored _ _ _) _ => f2
    have eI : delI ix ks i = put (del ix k) (ks.getD (-1 + (ks.length : Int)).toNat 0) (.int (i : Int)) := by
      unfold delI
      rw [if_neg (by omega), hk]
      congr 3; omega
    have eS : swapRem ks i = (ks.set (i : Int).toNat (ks.getD (-1 + (ks.length : Int)).toNat 0)).dropLast := by
      unfold swapRem
      rw [if_neg (by omega)]
      congr 4; omega
    rw [delD_encD] at f1
    rw [delD_encD, putD_encD, ← eI] at f2
    rw [← eS] at hI'
    exact hret _ [_, _, _, _, _] _ _ F9 N9 (List.forall_mem_cons.mpr ⟨r1, List.forall_mem_cons.mpr ⟨r2, List.forall_mem_cons.mpr ⟨r3, List.forall_mem_cons.mpr ⟨r4, List.forall_mem_cons.mpr ⟨r5, List.forall_mem_nil _⟩⟩⟩⟩⟩) ⟨rfl, _, _, _, _, _, _, _, _, _, _, _, _, _, _, d1, f1, d2, f2, hI', by rw [← hcl]⟩
  · rename IntsAre _ _ => hI9
    have hL9 := hI9.length
    k_dflt (refine' kpa_pop ?F2 ?N2 ?U2 hI9 ?l2 ?z2 ?_; (case F2 => k_asm); (case N2 => k_asm); (case U2 => k_upd); (case l2 => omega); (case z2 => (rw [PySem.sizeLine_eq, hL9]; omega)))
    intro h' t' F' N' hI'
    k_steps
    rename Fr h₀ L _ m => F9; rename News h₀ L _ _ => N9
    rename Obj.IsDictOf _ _ (without kvs k) => d1; rename FlatPairs _ (without kvs k) _ => f1
    rename Obj.IsDictOf _ _ (without ivs k) => d2; rename FlatPairs _ (without ivs k) _ => f2
    have eI : delI ix ks i = del ix k := by
      unfold delI
      rw [if_pos (by omega), hk]
    have eS : swapRem ks i = ks.dropLast := by
      unfold swapRem
      rw [if_pos (by omega)]
    rw [delD_encD] at f1
    rw [delD_encD, ← eI] at f2
    rw [← eS] at hI'
    exact hret _ [_, _, _, _, _] _ _ F9 N9 (List.forall_mem_cons.mpr ⟨r1, List.forall_mem_cons.mpr ⟨r2, List.forall_mem_cons.mpr ⟨r3, List.forall_mem_cons.mpr ⟨r4, List.forall_mem_cons.mpr ⟨r5, List.forall_mem_nil _⟩⟩⟩⟩⟩) ⟨rfl, _, _, _, _, _, _, _, _, _, _, _, _, _, _, d1, f1, d2, f2, hI', by rw [← hcl]⟩
end
end Mine
end
section
open PySem PySem.W PyProof.Rows PySem.Calls PyProof.V
set_option Elab.async false
set_option maxRecDepth 100000
set_option maxHeartbeats 8000000
set_option linter.unusedVariables false
namespace Mine
theorem anew_RRW2b : True := by
  w_top off
  trivial
local macro_rules | `(tactic| k_all) => `(tactic| assumption)
local macro_rules | `(tactic| dict_fit) => `(tactic| omega)
local macro_rules | `(tactic| k_room) => `(tactic| ktr_room)
section
variable {prog : Program} {w : World} {p : Program} {loose : List Str} {mean : ExcName → Option Value} {mg mb : Str → Option Value}
theorem getitem_spec {x : CA} {room k : Int} {tk : Tok} {kv ix : KV} {ks : List Int} {pd : PyData} {pre : List (Addr × Obj)} (o : x.ord) (hc : CacheL prog w x room kv ix ks pre) (hk : look kv k = some pd) (hsz : kv.length ≤ 64) :
    Spec prog w p loose mean mg mb 5 60 728 [.ref x.c, .int k tk] pre (fun r mine => Flat r pd ∧ CacheL prog w x room kv ix ks mine) := by
  obtain ⟨c, d, dd, f, di, dk⟩ := x
  have hc0 := hc
  obtain ⟨od, oi, kvs, ivs, vs, nk, t1, t2, t3, t4, t5, t6, tc, tr, hod, hf, hoi, hfi, hI, rfl⟩ := hc
  obtain ⟨o0, o1, o2, o3, o4⟩ := o
  dsimp only at o0 o1 o2 o3 o4 hc0 ⊢
  intro dp un gd cn cs a ccd cl outer A₀ base h₀ L m rest s Q E B F X N T hC hcs hap hd hu hret
  have key : (PySem.Challenge.rw_fc0033_01, Mine.K) = (PySem.Challenge.rw_fc0033_01, Mine.K) := by k_fill; rfl
  clear key
  simp only [List.cons_append, List.nil_append] at N
  have hdd : (dd == sysModules) = false := modules_ne (by omega)
  have hsz2 : (encD kv).length ≤ 64 := by rw [encD_length]; exact hsz
  have hl : PySem.Spec.lookup (PyData.int k) (encD kv) = some pd := by rw [lookup_encD]; exact hk
  have hl2 : (PySem.Spec.lookup (PyData.int k) (encD kv)).isSome = true := by rw [hl]; rfl
  refine enter [(Str.ofString "self", .ref c), (Str.ofString "key", .int k tk)] B F X N T hcs (by omega) (by k_is) (by k_is) (by exact BindsTo.of_eq rfl) (by exact locs rfl) ?_ (by exact rfl) (by exact rfl) (by exact rfl) (by decide)
  intro g' L' h' FG' F' N' B' X' T'
  (try dsimp only)
  k_fold
  k_steps
  rename Fr h₀ L _ m => F9; rename News h₀ L _ _ => N9
  exact hret _ [_, _, _, _, _] _ _ F9 N9 hap ⟨by assumption, hc0⟩
end
end Mine
end
section
open PySem PySem.W PyProof.Rows PySem.Calls PyProof.V
set_option Elab.async false
set_option maxRecDepth 100000
set_option maxHeartbeats 8000000
set_option linter.unusedVariables false
namespace Mine
local macro_rules | `(tactic| walk_at "pad 0") => `(tactic| fail)
local macro_rules | `(tactic| walk_at "pad 1") => `(tactic| fail)
local macro_rules | `(tactic| walk_at "pad 2") => `(tactic| fail)
local macro_rules | `(tactic| walk_at "pad 3") => `(tactic| fail)
local macro_rules | `(tactic| walk_at "pad 4") => `(tactic| fail)
local macro_rules | `(tactic| walk_at "pad 5") => `(tactic| fail)
local macro_rules | `(tactic| walk_at "pad 6") => `(tactic| fail)
local macro_rules | `(tactic| walk_at "pad 7") => `(tactic| fail)
local macro_rules | `(tactic| walk_at "pad 8") => `(tactic| fail)
local macro_rules | `(tactic| walk_at "pad 9") => `(tactic| fail)
theorem anew_RRW3 : True := by
  w_top off
  trivial
local macro_rules | `(tactic| k_all) => `(tactic| assumption)
local macro_rules | `(tactic| dict_fit) => `(tactic| omega)
local macro_rules | `(tactic| k_room) => `(tactic| ktr_room)
def fbody : Stmt → List Stmt
  | .FunctionDef _ _ b _ _ _ _ _ _ _ => b
  | _ => []
def fargs : Stmt → Arguments
  | .FunctionDef _ a _ _ _ _ _ _ _ _ => a
  | _ => default
def fscope : Stmt → Scope
  | .FunctionDef _ _ _ _ _ _ sc _ _ _ => sc
  | _ => default
def chS : Stmt := nthS (fbody (st 35)) 0
structure HA where
  f : Addr
  cc : Addr
  c1 : Addr
  c2 : Addr
  left : Addr
  seen : Addr
structure HA.ord (y : HA) : Prop where
  o0 : @LT.lt Nat _ y.seen y.left
  o1 : @LT.lt Nat _ y.left y.c1
  o2 : @LT.lt Nat _ y.c1 y.c2
  o3 : @LT.lt Nat _ y.c2 y.f
  o4 : @LT.lt Nat _ 1 y.seen
  o5 : @LT.lt Nat _ y.seen y.cc
  o6 : @LT.lt Nat _ y.cc y.f
  n1 : @Ne Nat y.cc y.left
  n2 : @Ne Nat y.cc y.c1
  n3 : @Ne Nat y.cc y.c2
def ChoiceL (y : HA) (dr : List Int) (sv : List Value) (l : List (Addr × Obj)) : Prop :=
  ∃ (oc o1 o2 : Obj) (vs : Array Value) (t : Tok) (doc pm ctv : Value) (ls : List Value) (n1 n2 : Nat), oc.data = .fields vs ∧ vs[1]? = some (.str (Str.ofString "_law_choice.<locals>.chosen") t) ∧ o1.data = .cell (some (.ref y.left)) ∧ o2.data = .cell (some (.ref y.seen)) ∧ IntsAre ls dr ∧
    l = [(y.f, fnMade (Str.ofString "chosen") (Str.ofString "_law_choice.<locals>.chosen") (fargs chS) (fbody chS) (fscope chS) [(Str.ofString "seen", y.c2), (Str.ofString "draws", y.c1)] doc pm y.cc ctv), (y.cc, oc), (y.c1, o1), (y.c2, o2), (y.left, listOf ls.toArray n1), (y.seen, listOf sv.toArray n2)]
section
variable {prog : Program} {w : World} {p : Program} {loose : List Str} {mean : ExcName → Option Value} {mg mb : Str → Option Value}
theorem app_any {A : Around} {E : Value → Shared → Prop} {s : Shared} {h₀ : Heap} {L D : Addr} {m : Str → Option Value} {news news' : List (Addr × Obj)} {vs : List Value} {n : Nat} {x : Value} {Q : Value → Shared → Prop} (F : Fr h₀ L s.heap m) (N : News h₀ L s.heap news) (U : Upd D (listOf vs.toArray n) (listOf (vs ++ [x]).toArray (n + 1)) news news') (hsz : vs.length ≤ 1000)
    (h : ∀ h', Fr h₀ L h' m → News h₀ L h' news' → Q .none { s with heap := h' }) : wpAny (model prog w) A (call (.builtin "list.append") [.ref D, x]) Q E s := by
  have e : (vs ++ [x]).toArray = vs.toArray.push x := by simp
  rw [e] at U
  exact append_K (hsz := by rw [List.size_toArray, PySem.sizeLine_eq]; omega) F N U h
theorem pop0_any {A : Around} {E : Value → Shared → Prop} {s : Shared} {h₀ : Heap} {L D : Addr} {m : Str → Option Value} {news news' : List (Addr × Obj)} {v : Value} {vs : List Value} {n : Nat} {u : Tok} {Q : Value → Shared → Prop} (F : Fr h₀ L s.heap m) (N : News h₀ L s.heap news) (U : Upd D (listOf (v :: vs).toArray n) (listOf vs.toArray (n + 1)) news news') (hsz : vs.length ≤ 1000)
    (h : ∀ h', Fr h₀ L h' m → News h₀ L h' news' → Q v { s with heap := h' }) : wpAny (model prog w) A (call (.builtin "list.pop") [.ref D, .int 0 u]) Q E s := by
  refine kl_popAt (k := 0) (p := []) (q := vs) (y := v) F N rfl ?_ rfl U ?_ h
  · rw [List.size_toArray, List.length_cons]; show seqIndex? (0 : Int) _ = _
    unfold seqIndex?; simp
  · show (v :: vs).length ≤ _; rw [PySem.sizeLine_eq, List.length_cons]; omega
theorem choice_spec {y : HA} {dr : List Int} {d : Int} {sv vs : List Value} {ks : List Int} {dk : Addr} {nk : Nat} {chl : List (Addr × Obj)} (o : y.ord) (hc : ChoiceL y (d :: dr) sv chl) (hI : IntsAre vs ks) (hk : 0 < ks.length) (hsz : ks.length ≤ 8) (hd0 : 0 ≤ d) (hdk : @LT.lt Nat _ y.f dk) (hsv : sv.length ≤ 100) (hdr : dr.length ≤ 100) :
    Spec prog w p loose mean mg mb 9 60 y.f [.ref dk] ((dk, listOf vs.toArray nk) :: chl) (fun r mine => (∃ t, r = .int (ks.getD (Int.fmod d ks.length).toNat 0) t) ∧ ∃ (sa : Addr) (us : List Value) (uk : List Int) (n : Nat) (chl' : List (Addr × Obj)), IntsAre us uk ∧ uk.Perm ks ∧ uk.Pairwise (· ≤ ·) ∧ (@LT.lt Nat _ dk sa ∧ @LT.lt Nat _ y.f sa) ∧ ChoiceL y dr (sv ++ [.ref sa]) chl' ∧ mine = (sa, listOf us.toArray n) :: (dk, listOf vs.toArray nk) :: chl') := by
  obtain ⟨f, cc, c1, c2, left, seen⟩ := y
  obtain ⟨oc, o1, o2, cvs, t, doc, pm, ctv, ls, n1, n2, hoc, hct, hd1, hd2, hL, rfl⟩ := hc
  obtain ⟨q0, q1, q2, q3, q4, q5, q6, q7, q8, q9⟩ := o
  dsimp only at q0 q1 q2 q3 q4 q5 q6 q7 q8 q9 hd1 hd2 hdk ⊢
  obtain ⟨td, ls', rfl, hL'⟩ := hL.cons_inv
  have hll := hL'.length
  intro dp un gd cn cs a ccd cl outer A₀ base h₀ L m rest s Q E B F X N T hC hcs hap hd hu hret
  have key : (PySem.Challenge.rw_fc0033_01, Mine.K) = (PySem.Challenge.rw_fc0033_01, Mine.K) := by k_fill; rfl
  clear key
  simp only [List.cons_append, List.nil_append] at N
  have r1 := hap _ (.head _)
  have r2 := hap _ (.tail _ (.head _))
  have r3 := hap _ (.tail _ (.tail _ (.head _)))
  have r4 := hap _ (.tail _ (.tail _ (.tail _ (.head _))))
  have r5 := hap _ (.tail _ (.tail _ (.tail _ (.tail _ (.head _)))))
  have r6 := hap _ (.tail _ (.tail _ (.tail _ (.tail _ (.tail _ (.head _))))))
  have r7 := hap _ (.tail _ (.tail _ (.tail _ (.tail _ (.tail _ (.tail _ (.head _)))))))
  clear hap
  refine enterF [(Str.ofString "held", .ref dk)] B F X N T hcs (by omega) (by k_mem) (by exact codeRec_news N (by k_mem) (by assumption) (by assumption)) (by exact BindsTo.of_eq rfl) (by exact locs rfl) ?_ (by exact rfl) (by exact rfl) (by exact rfl) (by decide)
  intro g' L' h' FG' F' N' B' X' T'
  change wpAny _ _ (execs (_ :: _) (envX _ ⟨_, _, _, _, _⟩ _ _ _ _)) _ _ _
  (try dsimp only)
  k_fold
  k_steps
  k_dflt (refine' pop0_any ?Fb ?Nb ?Ub ?zb ?_; (case Fb => k_asm); (case Nb => k_asm); (case Ub => k_upd); (case zb => exact (show ls'.length ≤ 1000 by omega)))
  intro h' F' N'
  k_steps
  rename Fr h₀ L _ m => F9; rename News h₀ L _ _ => N9
  rename IntsAre _ _ => i9; rename List.Perm _ _ => p9; rename List.Pairwise _ _ => o9
  rename _ ∧ _ => l9
  have r0 : ∀ q ∈ rest, q.1 ≠ _ := fun q hq => Nat.ne_of_lt (ktn_ltOf l9.2.2.2.2.2.2.2 q hq)
  exact hret _ [_, _, _, _, _, _, _, _] _ _ F9 N9 (List.forall_mem_cons.mpr ⟨r0, List.forall_mem_cons.mpr ⟨r1, List.forall_mem_cons.mpr ⟨r2, List.forall_mem_cons.mpr ⟨r3, List.forall_mem_cons.mpr ⟨r4, List.forall_mem_cons.mpr ⟨r5, List.forall_mem_cons.mpr ⟨r6, List.forall_mem_cons.mpr ⟨r7, List.forall_mem_nil _⟩⟩⟩⟩⟩⟩⟩⟩) ⟨⟨_, rfl⟩, _, _, _, _, _, i9, p9, o9, ⟨l9.1, l9.2.1⟩, ⟨_, _, _, _, _, _, _, _, _, _, _, hoc, hct, hd1, hd2, hL', rfl⟩, rfl⟩
end
end Mine
end
section
open PySem PySem.W PyProof.Rows PySem.Calls PyProof.V
set_option Elab.async false
set_option maxRecDepth 100000
set_option maxHeartbeats 8000000
set_option linter.unusedVariables false
namespace Mine
theorem anew_RRW4 : True := by
  w_top off
  trivial
local macro_rules | `(tactic| k_all) => `(tactic| assumption)
local macro_rules | `(tactic| dict_fit) => `(tactic| omega)
local macro_rules | `(tactic| k_room) => `(tactic| ktr_room)

local macro_rules | `(tactic| walk_at "call ref") => `(tactic| ((with_reducible show wpAny _ _ (call (Value.ref _) _ _) _ _ _); refine halt ?_))
theorem ChoiceL.le {y : HA} {dr : List Int} {sv : List Value} {l : List (Addr × Obj)} (h : ChoiceL y dr sv l) (o : y.ord) : ∀ q ∈ l, @LE.le Nat _ q.1 y.f := by
  obtain ⟨oc, o1', o2', cvs, t, doc, pm, ctv, ls, n1, n2, hoc, hct, hd1, hd2, hL, rfl⟩ := h
  obtain ⟨q0, q1, q2, q3, q4, q5, q6, q7, q8, q9⟩ := o
  simp only [List.forall_mem_cons]
  refine ⟨?_, ?_, ?_, ?_, ?_, ?_, List.forall_mem_nil _⟩ <;> omega
local macro_rules | `(tactic| walk_at "delItem ref int") => `(tactic| (k_here; (with_reducible show wpAny _ _ (delItem (Value.ref _) _) _ _ _); k_dflt (refine' del_inst ?Fd ?Xd ?Id ?hQd ?hSd ?hFd ?_; (case Fd => k_asm); (case Xd => k_asm); (case Id => k_inst); (case hSd => k_is); (case hFd => k_is); (case hQd => k_is); k_whole)))
def PopPost (prog : Program) (w : World) (x : CA) (y : HA) (room : Int) (dr : List Int) (sv : List Value) (kv ix : KV) (ks : List Int) (i : Nat) (r : Value) (mine : List (Addr × Obj)) : Prop :=
  ∃ (tp sa : Addr) (kt : Tok) (v : Value) (pd : PyData) (us : List Value) (uk : List Int) (n : Nat) (cl1 chl1 : List (Addr × Obj)), r = .ref tp ∧ look kv (ks.getD i 0) = some pd ∧ Flat v pd ∧ IntsAre us uk ∧ uk.Perm ks ∧ uk.Pairwise (· ≤ ·) ∧ (@LT.lt Nat _ x.dk sa ∧ @LT.lt Nat _ y.f sa ∧ @LT.lt Nat _ sa tp) ∧
    CacheL prog w x room (del kv (ks.getD i 0)) (delI ix ks i) (swapRem ks i) cl1 ∧ ChoiceL y dr (sv ++ [.ref sa]) chl1 ∧ mine = (tp, { cls := .type "tuple", data := .seq #[.int (ks.getD i 0) kt, v] 0 }) :: (sa, listOf us.toArray n) :: (cl1 ++ chl1)
section
variable {prog : Program} {w : World} {p : Program} {loose : List Str} {mean : ExcName → Option Value} {mg mb : Str → Option Value}
theorem popitem_spec {x : CA} {y : HA} {room d : Int} {dr : List Int} {sv : List Value} {kv ix : KV} {ks : List Int} {pre chl : List (Addr × Obj)} (o : x.ord) (oy : y.ord) (hc : CacheL prog w x room kv ix ks pre) (hh : ChoiceL y (d :: dr) sv chl) (hf : x.f = y.f) (hfx : @LT.lt Nat _ y.f x.d) (I : Inv kv ix ks) (hk : 0 < ks.length) (hsz : ks.length ≤ 8) (hd0 : 0 ≤ d) (hsv : sv.length ≤ 100) (hdr : dr.length ≤ 100) :
    Spec prog w p loose mean mg mb 20 120 880 [.ref x.c] (pre ++ chl) (PopPost prog w x y room dr sv kv ix ks (Int.fmod d ks.length).toNat) := by
  obtain ⟨c, dx, dd, f, di, dk⟩ := x
  have hc0 := hc
  have hh0 := hh
  obtain ⟨od, oi, kvs, ivs, vs, nk, t1, t2, t3, t4, t5, t6, tc, tr, hod, hfp, hoi, hfi, hI, rfl⟩ := hc
  obtain ⟨fh, cc, c1, c2, left, seen⟩ := y
  obtain ⟨oc, o1', o2', cvs, t, doc, pm, ctv, ls, n1, n2, hoc, hct, hd1, hd2, hL, rfl⟩ := hh
  obtain ⟨q0, q1, q2, q3, q4, q5, q6, q7, q8, q9⟩ := oy
  obtain ⟨o0, o1, o2, o3, o4⟩ := o
  dsimp only at q0 q1 q2 q3 q4 q5 q6 q7 q8 q9 hd1 hd2 hf hfx hc0 hh0 o0 o1 o2 o3 o4 ⊢
  subst hf
  intro dp un gd cn cs a ccd cl outer A₀ base h₀ L m rest s Q E B F X N T hC hcs hap hd hu hret
  have key : (PySem.Challenge.rw_fc0033_01, Mine.K) = (PySem.Challenge.rw_fc0033_01, Mine.K) := by k_fill; rfl
  clear key
  simp only [List.cons_append, List.nil_append] at N
  simp only [List.cons_append, List.nil_append, List.forall_mem_cons] at hap
  obtain ⟨r1, r2, r3, r4, r5, s1, s2, s3, s4, s5, s6, -⟩ := hap
  have hmi : (Int.fmod d (ks.length : Int)).toNat < ks.length := idx_lt hd0 hk
  have hmem : ks.getD (Int.fmod d (ks.length : Int)).toNat 0 ∈ ks := getD_mem hmi
  have hks : (look kv (ks.getD (Int.fmod d (ks.length : Int)).toNat 0)).isSome = true := by rw [I.mem]; exact decide_eq_true hmem
  obtain ⟨pd, hkp⟩ := Option.isSome_iff_exists.mp hks
  have l1 : kv.length = ks.length := by have := I.data.length_eq; rwa [List.length_map] at this
  refine enter [(Str.ofString "self", .ref c)] B F X N T hcs (by omega) (by k_is) (by k_is) (by exact BindsTo.of_eq rfl) (by exact locs rfl) ?_ (by exact rfl) (by exact rfl) (by exact rfl) (by decide)
  intro g' L' h' FG' F' N' B' X' T'
  (try dsimp only)
  k_fold
  k_steps
  refine unhalt ?_
  rename Fr g' L' _ _ => F8
  rename News g' L' _ _ => N8
  refine choice_spec ⟨q0, q1, q2, q3, q4, q5, q6, q7, q8, q9⟩ hh0 hI hk hsz hd0 (by dsimp only; omega) hsv hdr _ _ _ _ _ _ _ _ _ _ _ _ _ _ ((c, instObj 890 dx) :: (dx, dictOf (cEs w.params t1 t2 t3 t4 t5 t6 dd (ks.length : Int) tc room tr f di dk) 6) :: (dd, od) :: (di, oi) :: rest) _ _ _ B' F8 X' (news_sub N8 (by ((repeat (refine List.forall_mem_cons.mpr ⟨by (repeat (first | with_reducible exact List.mem_cons_self | with_reducible refine List.mem_cons_of_mem _ ?_)), ?_⟩)); first | exact List.forall_mem_nil _ | exact fun p hp => by repeat (first | exact hp | refine List.Mem.tail _ ?_)))) T' hC (by exact rfl) (by ((repeat' (first | exact List.forall_mem_nil _ | refine List.forall_mem_cons.mpr ⟨?_, ?_⟩)); all_goals (try dsimp only); all_goals (first | assumption | exact (show @Ne Nat _ _ by omega)))) (by omega) (by omega) ?_
  intro r mine h9 tk9 F9 N9 ap9 hpost
  obtain ⟨⟨tt, rfl⟩, sa, us, uk, n', chl', hus, hperm, hsorted, ⟨hsa1, hsa2⟩, hch', rfl⟩ := hpost
  dsimp only at hsa1 hsa2
  obtain ⟨rst, hrst⟩ : ∃ r, r = (sa, listOf us.toArray n') :: (chl' ++ rest) := ⟨_, rfl⟩
  replace N9 : News g' L' h9 ((c, instObj 890 dx) :: (dx, dictOf (cEs w.params t1 t2 t3 t4 t5 t6 dd (ks.length : Int) tc room tr f di dk) 6) :: (dd, od) :: (di, oi) :: (dk, listOf vs.toArray nk) :: rst) := by
    refine news_sub N9 ?_
    subst hrst
    intro p hp
    simp only [List.mem_cons, List.mem_append] at hp ⊢
    grind
  have hqr : ∀ q ∈ rst, q.1 ≠ c ∧ q.1 ≠ dx ∧ q.1 ≠ dd ∧ q.1 ≠ di ∧ q.1 ≠ dk := by
    subst hrst
    intro q hq
    rcases List.mem_cons.mp hq with rfl | hq
    · dsimp only
      refine ⟨?_, ?_, ?_, ?_, ?_⟩ <;> exact (show @Ne Nat _ _ by omega)
    · rcases List.mem_append.mp hq with hq | hq
      · have hle := hch'.le ⟨q0, q1, q2, q3, q4, q5, q6, q7, q8, q9⟩ q hq
        dsimp only at hle
        refine ⟨?_, ?_, ?_, ?_, ?_⟩ <;> exact (show @Ne Nat _ _ by omega)
      · exact ⟨r1 q hq, r2 q hq, r3 q hq, r4 q hq, r5 q hq⟩
  have z1 : ∀ q ∈ rst, q.1 ≠ c := fun q hq => (hqr q hq).1
  have z2 : ∀ q ∈ rst, q.1 ≠ dx := fun q hq => (hqr q hq).2.1
  have z3 : ∀ q ∈ rst, q.1 ≠ dd := fun q hq => (hqr q hq).2.2.1
  have z4 : ∀ q ∈ rst, q.1 ≠ di := fun q hq => (hqr q hq).2.2.2.1
  have z5 : ∀ q ∈ rst, q.1 ≠ dk := fun q hq => (hqr q hq).2.2.2.2
  k_steps
  refine unhalt ?_
  (try clear F8); (try clear N8)
  rename Fr g' L' _ _ => F8
  rename News g' L' _ _ => N8
  refine getitem_spec (pd := pd) ⟨o0, o1, o2, o3, o4⟩ hc0 hkp (by omega) _ _ _ _ _ _ _ _ _ _ _ _ _ _ rst _ _ _ B' F8 X' (news_sub N8 (by ((repeat (refine List.forall_mem_cons.mpr ⟨by (repeat (first | with_reducible exact List.mem_cons_self | with_reducible refine List.mem_cons_of_mem _ ?_)), ?_⟩)); first | exact List.forall_mem_nil _ | exact fun p hp => by repeat (first | exact hp | refine List.Mem.tail _ ?_)))) T' hC (by exact rfl) (by ((repeat' (first | exact List.forall_mem_nil _ | refine List.forall_mem_cons.mpr ⟨?_, ?_⟩)); all_goals (try dsimp only); all_goals (first | assumption | exact (show @Ne Nat _ _ by omega)))) (by omega) (by omega) ?_
  (try clear F8); (try clear N8)
  intro r mine h9 tk9 F9 N9 ap9b hpost
  obtain ⟨hv, hc1⟩ := hpost
  have hc2 := hc1
  obtain ⟨od1, oi1, kvs1, ivs1, vs1, nk1, u1, u2, u3, u4, u5, u6, uc, ur, hod1, hfp1, hoi1, hfi1, hI1, rfl⟩ := hc1
  dsimp only at hc2 N9
  simp only [List.cons_append, List.nil_append] at N9
  k_steps
  refine unhalt ?_
  (try clear F8); (try clear N8)
  rename Fr g' L' _ _ => F8
  rename News g' L' _ _ => N8
  refine rdel_spec (i := (Int.fmod d (ks.length : Int)).toNat) ⟨o0, o1, o2, o3, o4⟩ hc2 I hmi rfl hsz _ _ _ _ _ _ _ _ _ _ _ _ _ _ rst _ _ _ B' F8 X' (news_sub N8 (by ((repeat (refine List.forall_mem_cons.mpr ⟨by (repeat (first | with_reducible exact List.mem_cons_self | with_reducible refine List.mem_cons_of_mem _ ?_)), ?_⟩)); first | exact List.forall_mem_nil _ | exact fun p hp => by repeat (first | exact hp | refine List.Mem.tail _ ?_)))) T' hC (by exact rfl) (by ((repeat' (first | exact List.forall_mem_nil _ | refine List.forall_mem_cons.mpr ⟨?_, ?_⟩)); all_goals (try dsimp only); all_goals (first | assumption | exact (show @Ne Nat _ _ by omega)))) (by omega) (by omega) ?_
  clear F8 N8
  intro r mine h10 tk10 F10 N10 ap10 hpost
  obtain ⟨rfl, hc3⟩ := hpost
  have hc4 := hc3
  obtain ⟨od2, oi2, kvs2, ivs2, vs2, nk2, w1, w2, w3, w4, w5, w6, wc, wr, hod2, hfp2, hoi2, hfi2, hI2, rfl⟩ := hc3
  dsimp only at hc4 N10
  simp only [List.cons_append, List.nil_append] at N10
  k_steps
  rename Fr h₀ L _ m => F9; rename News h₀ L _ _ => N9
  rename _ ∧ _ => l9
  obtain ⟨g1, g2, g3, g4, g5, g6⟩ := l9
  have g7 := ktn_ltOf g6
  have gsa : @LT.lt Nat _ sa _ := g7 (sa, listOf us.toArray n') (by rw [hrst]; exact List.mem_cons_self)
  simp only [List.cons_append, List.nil_append, List.forall_mem_cons] at ap9
  obtain ⟨a1, a2, a3⟩ := ap9
  refine hret _ ((_, _) :: (sa, listOf us.toArray n') :: ([_, _, _, _, _] ++ chl')) _ _ F9 (news_sub N9 ?_) ?_ ⟨_, sa, tt, _, pd, us, uk, n', _, chl', rfl, hkp, hv, hus, hperm, hsorted, ⟨hsa1, hsa2, gsa⟩, hc4, hch', rfl⟩
  · subst hrst
    intro p hp
    simp only [List.mem_cons, List.mem_append, List.cons_append, List.nil_append] at hp ⊢
    grind
  · refine List.forall_mem_cons.mpr ⟨fun q hq => ?_, List.forall_mem_cons.mpr ⟨fun q hq => ?_, ?_⟩⟩
    · exact Nat.ne_of_lt (g7 q (by rw [hrst]; exact List.mem_cons_of_mem _ (List.mem_append_right _ hq)))
    · exact a1.2.2.2.2 q hq
    · intro x hx
      rcases List.mem_append.mp hx with hx | hx
      · simp only [List.mem_cons, List.not_mem_nil, or_false] at hx
        rcases hx with rfl | rfl | rfl | rfl | rfl
        · exact r1
        · exact r2
        · exact r3
        · exact r4
        · exact r5
      · exact (a3 x hx).2.2.2.2
end
end Mine
end
section
open PySem PySem.W PyProof.Rows PySem.Calls PyProof.V
set_option Elab.async false
set_option maxRecDepth 100000
set_option maxHeartbeats 8000000
set_option linter.unusedVariables false
namespace Mine
local macro_rules | `(tactic| walk_at "pad 0") => `(tactic| fail)
local macro_rules | `(tactic| walk_at "pad 1") => `(tactic| fail)
local macro_rules | `(tactic| walk_at "pad 2") => `(tactic| fail)
local macro_rules | `(tactic| walk_at "pad 3") => `(tactic| fail)
local macro_rules | `(tactic| walk_at "pad 4") => `(tactic| fail)
local macro_rules | `(tactic| walk_at "pad 5") => `(tactic| fail)
local macro_rules | `(tactic| walk_at "pad 6") => `(tactic| fail)
local macro_rules | `(tactic| walk_at "pad 7") => `(tactic| fail)
local macro_rules | `(tactic| walk_at "pad 8") => `(tactic| fail)
local macro_rules | `(tactic| walk_at "pad 9") => `(tactic| fail)
theorem anew_RRX : True := by
  w_top off
  trivial
section
variable (prog : Program) (w : World) (p : Program) (loose : List Str) (mean : ExcName → Option Value) (mg mb : Str → Option Value)
abbrev SpecX (D U : Nat) (f : Addr) (pos : List Value) (pre : List (Addr × Obj)) (post : List (Addr × Obj) → Prop) : Prop :=
  ∀ (dp un : Nat) (gd : Option (List Code)) (cn : Str) (cs : Scope) (a : Addr) (ccd : Value) (cl : List (Str × Addr)) (outer : List Env) (A₀ : Around) (base h₀ : Heap) (L : Addr) (m : Str → Option Value) (rest : List (Addr × Obj)) (s : Shared)
    (Q E : Value → Shared → Prop),
    Below A₀ base outer h₀ → Fr h₀ L s.heap m → (K w.params).In h₀ → News h₀ L s.heap (pre ++ rest) → Top p loose mean mg mb h₀ → CodeHd base 905 901 → cs.kind = .function → (∀ x ∈ pre, ∀ q ∈ rest, q.1 ≠ x.1) → dp + D < recursionLimit → un + U < cLine →
    (∀ e g mine h' tk', Fr h₀ L g m → RaisedSN base g (envX cn cs L a ccd cl :: outer) e (.type "KeyError") (mine ++ rest) h' → g.UpToSlots h' → (∀ x ∈ mine, ∀ q ∈ rest, q.1 ≠ x.1) → post mine → E (.ref e) { s with heap := h', toks := tk' }) →
    wpAny (model prog w) (ktrTop dp un gd cn cs L a ccd cl outer) (call (.ref f) pos) Q E s
end
theorem del_missing {prog : Program} {w : World} {K : Type} [DecidableEq K] {knd : KeyKind prog w K} {enc : K → PyData} {A : Around} {E : Value → Shared → Prop} {s : Shared} {h₀ : Heap} {L d : Addr} {o : Obj} {news : List (Addr × Obj)} {kvs : List (K × Value)} {D : List (PyData × PyData)} {k : K} {key : Value} {Q : Unit → Shared → Prop} (henc : ∀ a b, PySem.Spec.same (enc a) (enc b) = decide (a = b)) (hkey : knd.is k key = true)
    (N : News h₀ L s.heap news) (hm : (d, o) ∈ news) (hd : o.IsDictOf knd kvs) (hf : FlatPairs enc kvs D) (hl : PySem.Spec.lookup (enc k) D = none) (hne : (d == sysModules) = false) (hh : A.handled = none)
    (h : ∀ h' e, Heap.NewExc s.heap h' e "KeyError" → E (.ref e) { s with heap := h', toks := s.toks + 1 }) : wpAny (model prog w) A (delItem (.ref d) key) Q E s := by
  have hD : s.heap.DictOf knd d kvs := Heap.dictOf_iff.mpr ⟨o, (N _ hm).1, hd⟩
  unfold delItem
  refine wpAny_holding ?_
  refine wpAny_bind (wpAny_sequenceKey hD.typeIs (by decide) ?_)
  exact wpAny_bind (wpAny_callSpecial?_slot (name := Str.ofString "__delitem__") hD.typeIs PySem.F.slot_dict_delitem
    (call_meetsIn PySem.F.slot_dict_delitem hD.typeIs PySem.F.entry_dict_delitem (PySem.F.args_dict_delitem_2 _ _) (meets_dict_delitem_missing knd d hkey hne) ⟨hh, kvs, hD, hf.none_of_lookup henc hl, h⟩))
local macro_rules | `(tactic| k_all) => `(tactic| assumption)
local macro_rules | `(tactic| dict_fit) => `(tactic| omega)
local macro_rules | `(tactic| k_room) => `(tactic| ktr_room)
section
variable {prog : Program} {w : World} {p : Program} {loose : List Str} {mean : ExcName → Option Value} {mg mb : Str → Option Value}
theorem rdelx_spec {x : CA} {room k : Int} {tk : Tok} {kv ix : KV} {ks : List Int} {pre : List (Addr × Obj)} (o : x.ord) (hc : CacheL prog w x room kv ix ks pre) (I : Inv kv ix ks) (hk : k ∉ ks) (hsz : ks.length ≤ 8) :
    SpecX prog w p loose mean mg mb 9 60 873 [.ref x.c, .int k tk] pre (CacheL prog w x room kv ix ks) := by
  obtain ⟨c, d, dd, f, di, dk⟩ := x
  have hc0 := hc
  obtain ⟨od, oi, kvs, ivs, vs, nk, t1, t2, t3, t4, t5, t6, tc, tr, hod, hf, hoi, hfi, hI, rfl⟩ := hc
  obtain ⟨o0, o1, o2, o3, o4⟩ := o
  dsimp only at o0 o1 o2 o3 o4 hc0 ⊢
  intro dp un gd cn cs a ccd cl outer A₀ base h₀ L m rest s Q E B F X N T hC hcs hap hd hu hret
  have key : (PySem.Challenge.rw_fc0033_01, Mine.K) = (PySem.Challenge.rw_fc0033_01, Mine.K) := by k_fill; rfl
  clear key
  simp only [List.cons_append, List.nil_append] at N
  have hdd : (dd == sysModules) = false := modules_ne (by omega)
  have hdi : (di == sysModules) = false := modules_ne (by omega)
  have hl2 : (PySem.Spec.lookup (PyData.int k) (encD kv)).isSome = false := by rw [lookup_encD, I.mem]; exact decide_eq_false hk
  have hl3 : PySem.Spec.lookup (PyData.int k) (encD kv) = none := by rw [← Option.not_isSome_iff_eq_none, hl2]; decide
  have l1 : kv.length = ks.length := by have := I.data.length_eq; rwa [List.length_map] at this
  have hsz2 : (encD kv).length ≤ 64 := by rw [encD_length]; omega
  refine enter [(Str.ofString "self", .ref c), (Str.ofString "key", .int k tk), (Str.ofString "cache_delitem", .ref 742)] B F X N T hcs (by omega) (by k_is) (by k_is) (by exact binds_K (by k_in) rfl (by k_is) rfl rfl rfl) (by exact locs rfl) ?_ (by exact rfl) (by exact rfl) (by exact rfl) (by decide)
  intro g' L' h' FG' F' N' B' X' T'
  (try dsimp only)
  k_fold
  have kdX : KtsDicts [] h₀ := ktsDicts_nil
  k_steps
  k_dflt (refine' del_missing PyProof.V.same_int (intKind_is _ _ _ _) ?Nd ?md ?dd ?fd hl3 hdd rfl ?_; (case Nd => k_asm); (case md => k_mem); (case dd => k_asm); (case fd => k_asm))
  intro h' e' hx'
  k_steps
  rename RaisedSN _ _ _ _ _ _ _ => S9; rename Heap.UpToSlots _ _ => U9; rename Fr g' L' _ _ => FG9
  refine leave_onSN B' FG9 S9 U9 ?_
  intro h9 S8 R8 U8
  exact hret _ _ [_, _, _, _, _] _ _ FG' S8 U8 hap hc0
end
end Mine
end
section
open PySem PySem.W PyProof.Rows PySem.Calls PyProof.V
set_option Elab.async false
set_option maxRecDepth 100000
set_option maxHeartbeats 8000000
set_option linter.unusedVariables false
namespace Mine
structure XExc (h h' : Heap) (e : Addr) : Prop where
  keeps : ∀ b o, h.get? b = some o → h'.get? b = some o
  new : h.get? e = none
  there : ∃ ob vs t, h'.get? e = some ob ∧ ob.cls = .type "KeyError" ∧ ob.data = .fields vs ∧ vs[0]? = some t ∧ vs[1]? = some .none
theorem leave_xS {M : Model} {A : Around} {E : Value → Shared → Prop} {s' : Shared} {base g h : Heap} {outer : List Env} {L a e : Addr} {m : Str → Option Value} {name : Str} {scope : Scope} {cd : Value} {Q : Unit → Shared → Prop} {news : List (Addr × Obj)}
    (K : Below A base outer g) (hx : XExc h s'.heap e) (F : Fr g L h m) (N : News g L h news)
    (hQ : ∀ h', RaisedSN base g outer e (.type "KeyError") news h' → g.UpToSlots h' → Q () { s' with heap := h' }) (hk : scope.kind = .function := by rfl) :
    wpAny M (A.deeper (envOf name scope L a cd)) (leaving (envOf name scope L a cd) (.ref e)) Q E s' := by
  have K' := K.push (name := name) (a := a) (cd := cd) F hk
  have hin : ∀ env ∈ (envOf name scope L a cd :: outer), ∀ b, env.frame = some b → b ∈ (envOf name scope L a cd :: outer).filterMap (·.frame) := fun env he b hb => List.mem_filterMap.mpr ⟨env, he, hb⟩
  have st : base.StaysIn (hideAll h ((envOf name scope L a cd :: outer).filterMap (·.frame))) := fun b o q => hideAll_get _ (K'.stays b o q) fun hm => by
    rw [(K'.frames.mem hm).1] at q; cases q
  have sg : ∀ b o, g.get? b = some o → b ∉ outer.filterMap (·.frame) → (hideAll h ((envOf name scope L a cd :: outer).filterMap (·.frame))).get? b = some o := fun b o q nm => hideAll_get _ (F.keep b o q) fun hm => by
    rcases kts_mem hm with z | z
    · rw [z, kts_self F] at q
      cases q
    · exact nm z
  have hl : ∀ q ∈ news, (hideAll h ((envOf name scope L a cd :: outer).filterMap (·.frame))).get? q.1 = some q.2 ∧ g.get? q.1 = none ∧ base.get? q.1 = none := fun q hq => by
    refine ⟨hideAll_get _ (N q hq).1 fun hm => ?_, (N q hq).2.2, fresh_of_stays K.stays (N q hq).2.2⟩
    obtain ⟨env, he, hf⟩ := List.mem_filterMap.mp hm
    rcases List.mem_cons.mp he with rfl | he
    · exact (N q hq).2.1 (Option.some.inj hf).symm
    · obtain ⟨o, ho, _⟩ := (K.frames.mem (List.mem_filterMap.mpr ⟨env, he, hf⟩)).2
      rw [(N q hq).2.2] at ho; cases ho
  obtain ⟨ob, vs, tp, he, hcls, hd, h0, h1⟩ := hx.there
  have hen : (hideAll h ((envOf name scope L a cd :: outer).filterMap (·.frame))).get? e = none := by
    cases q : (hideAll h ((envOf name scope L a cd :: outer).filterMap (·.frame))).get? e with
    | none => rfl
    | some o => have := of_hideAll _ q; rw [hx.new] at this; cases this
  refine wpAny_leaving_firstW (a0 := tp) K'.stack ((funFrames_hide K'.frames hin).of_keeps fun b o hb _ => ⟨o, hx.keeps b o hb, rfl⟩) rfl he (fun b o hb => hx.keeps b o (of_hideAll _ hb)) hen hd h1 h0 fun h' hL => ?_
  obtain ⟨k1, ⟨_, _, k2⟩, k3, k4⟩ := hL
  have R : RaisedSN base g outer e (.type "KeyError") news h' := ⟨_, tp, st, sg, hl, k1, hen, k2, by rw [← hcls]; exact k3⟩
  exact hQ h' R (((Heap.UpToSlots.of_keeps F.keep).trans (Heap.UpToSlots.of_keeps hx.keeps)).trans k4)
structure RaisableN (E : Value → Shared → Prop) (v : Value) (s₁ : Shared) : Prop where
  out : ∃ a ob vs X N I, ExcClass X N I ∧ v = .ref a ∧ s₁.heap.get? a = some ob ∧ ob.cls = .type X ∧ ob.data = .fields vs ∧ vs[1]? = some .none ∧ vs.size = 6 ∧ ∀ h'', h''.get? a = some { ob with data := .fields ((vs.setIfInBounds 3 .none).setIfInBounds 4 (.bool true)) } → Heap.SameBut a s₁.heap h'' → E (.ref a) { s₁ with heap := h'' }
theorem raise_none {M : Model} {A : Around} {env : Env} {E : Value → Shared → Prop} {s : Shared} {e : Expr} {pos p2 : Pos} {kk : Nat} {Q : Flow → Shared → Prop} (hh : A.handled = none)
    (h : wpAny M A (eval e env) (RaisableN E) E s) : wpAny M A (exec (.Raise (some e) (some (.Constant .none kk p2)) pos) env) Q E s := by
  show wpAny M A (do standAt pos; raiseStmt env (some (do let v ← eval e env; standAt pos; pure v)) (some (do let c ← eval (.Constant .none kk p2) env; standAt pos; pure c))) Q E s
  refine wpAny_bind (wpAny_standAt ?_)
  unfold raiseStmt
  dsimp only
  refine wpAny_bind (wpAny_bind (wpAny_mono h (fun v s₁ h₁ => wpAny_bind (wpAny_standAt (wpAny_pure ?_))) fun _ _ x => x))
  obtain ⟨a, ob, vs, X, N, I, hc, rfl, ha, hcls, hd, h1, hsz, hE⟩ := h₁.out
  have hT : s₁.TypeIs (.ref a) X := ⟨ob, ha, hcls⟩
  have hnt : ∀ {A : Around} {Q' : Bool → Shared → Prop}, Q' false s₁ → wpAny M A (isType (.ref a)) Q' E s₁ := by
    intro A Q' hq
    simp only [isType, loadHead]
    refine wpAny_bind (wpAny_loadPart ha ?_)
    rw [hd]; exact wpAny_pure hq
  have hconst : eval (.Constant .none kk p2) env = pure .none := rfl
  rw [hconst]
  refine wpAny_bind (wpAny_holding (wpAny_bind (wpAny_pure (wpAny_bind (wpAny_standAt (wpAny_pure ?_))))))
  refine wpAny_bind (wpAny_pure ?_)
  dsimp only
  refine wpAny_bind (wpAny_holding ?_)
  unfold excFromValue isExcClass
  refine wpAny_bind (wpAny_bind (hnt ?_))
  simp only [Bool.false_eq_true, if_false]
  refine wpAny_pure ?_
  simp only [Bool.false_eq_true, if_false]
  refine wpAny_bind (wpAny_isInstance hT hc.base ?_)
  simp only [if_true]
  refine wpAny_pure ?_
  rw [if_pos (show (Value.none == Value.none) = true by decide)]
  refine wpAny_bind (wpAny_pure ?_)
  obtain ⟨c', d', dt', sl'⟩ := ob
  dsimp only at hcls hd
  subst hcls hd
  have ha2 : (s₁.heap.update a (Obj.mapFields fun x => x.setIfInBounds 3 Value.none)).get? a = some { cls := .type X, dict := d', data := .fields (vs.setIfInBounds 3 .none), slots := sl' } := Heap.get?_update_self (Obj.mapFields (·.setIfInBounds 3 Value.none)) ha rfl
  have ha3 : ((s₁.heap.update a (Obj.mapFields fun x => x.setIfInBounds 3 Value.none)).update a (Obj.mapFields fun x => x.setIfInBounds 4 (Value.bool true))).get? a = some { cls := .type X, dict := d', data := .fields ((vs.setIfInBounds 3 .none).setIfInBounds 4 (.bool true)), slots := sl' } := Heap.get?_update_self (Obj.mapFields (·.setIfInBounds 4 (Value.bool true))) ha2 rfl
  refine wpAny_bind (wpAny_setField ha rfl (by rw [hsz]; decide) ?_)
  refine wpAny_bind (wpAny_setField ha2 rfl (by rw [Array.size_setIfInBounds, hsz]; decide) ?_)
  have hE2 := hE _ ha3 ((Heap.SameBut.update ..).trans (Heap.SameBut.update ..))
  clear hE
  generalize ((s₁.heap.update a (Obj.mapFields fun x => x.setIfInBounds 3 Value.none)).update a (Obj.mapFields fun x => x.setIfInBounds 4 (Value.bool true))) = h3 at ha3 hE2 ⊢
  have hT3 : ({ s₁ with heap := h3 } : Shared).TypeIs (.ref a) X := ⟨_, ha3, rfl⟩
  have h13 : ((vs.setIfInBounds 3 .none).setIfInBounds 4 (.bool true))[1]? = some Value.none := by
    rw [Array.getElem?_setIfInBounds_ne (by decide), Array.getElem?_setIfInBounds_ne (by decide)]; exact h1
  have hnt3 : ∀ {A : Around} {Q' : Bool → Shared → Prop}, Q' false { s₁ with heap := h3 } → wpAny M A (isType (.ref a)) Q' E { s₁ with heap := h3 } := by
    intro A Q' hq
    simp only [isType, loadHead]
    exact wpAny_bind (wpAny_loadPart ha3 (wpAny_pure hq))
  refine wpAny_bind (hnt3 ?_)
  simp only [Bool.false_eq_true, if_false]
  unfold raisedInstance
  refine wpAny_bind (wpAny_bind (wpAny_typeOf hT3 (wpAny_bind (m := typeOf (.type X)) (wpAny_pure ?_))))
  rw [if_pos hc.metaType]
  refine wpAny_pure ?_
  unfold setFlight raiseNew
  refine wpAny_bind (wpAny_bind (wpAny_field ha3 rfl h13 ?_))
  rw [if_neg (by decide)]
  refine wpAny_pure (wpAny_bind (wpAny_handled ?_))
  rw [hh]
  first
    | exact wpAny_throw hE2
    | exact wpAny_bind (wpAny_pure (wpAny_throw hE2))
theorem raisable_none {X N I : String} (hc : ExcClass X N I) {h₀ : Heap} {s₁ : Shared} {E : Value → Shared → Prop} {e : Addr} (hx : Heap.NewExc h₀ s₁.heap e X) (hX : X = "KeyError") (hE : ∀ h'', XExc h₀ h'' e → E (.ref e) { s₁ with heap := h'' }) : RaisableN E (.ref e) s₁ := by
  obtain ⟨ob, t, he, hcls, hd⟩ := hx.there
  refine .mk ⟨e, ob, _, X, N, I, hc, rfl, he, hcls, hd, rfl, rfl, fun h'' ho hs => hE h'' ⟨fun b o hb => ?_, hx.new, _, _, t, ho, by rw [← hX]; exact hcls, rfl, rfl, rfl⟩⟩
  have hne : b ≠ e := fun q => by rw [q, hx.new] at hb; cases hb
  exact (hs.2 b hne).trans (hx.keeps b o hb)
end Mine
end
section
open PySem PySem.W PySem.Calls PyProof.Rows Builtin Builtin.ObjectAttr Builtin.Getset_descriptor
set_option Elab.async false
set_option maxRecDepth 100000
set_option maxHeartbeats 8000000
set_option linter.unusedVariables false
namespace Mine
section
variable {prog : Program} {w : World} {A : Around} {E : Value → Shared → Prop} {s : Shared} {K : Frag} {R : Result → Shared → Prop} {C : Addr} {mc : Value} {h₀ : Heap} {L : Addr} {m : Str → Option Value}
theorem name_dga (d tp : Value) (C : Addr) : descrGetArgs ⟨[d, .ref C, tp], []⟩ = pure (d, some (.ref C), given tp) := by kernel_rfl
def slotOf (K : Frag) (C : Addr) : Option Value := (K.lookup C).bind fun o => (o.slots[2]?).bind id
theorem name_get {tp v : Value} (X : K.In s.heap) (ht : typeIn K (.ref C) = some mc) (hi : subIn K mc (.type "type") = some true) (hs : slotOf K C = some v) (h : R (.ok (.ret v)) s) :
    codeAny (model prog w) A (.call (.builtin "getset_descriptor.__get__") ⟨[.builtin "type.__name__", .ref C, tp], []⟩) R s := by
  obtain ⟨hh, g, dr, t, os⟩ := s
  have L0 : Looks (model prog w) hh (typeOf (.ref C)) mc := looks_typeIn X ht
  have L1 : Looks (model prog w) hh (isSubtype mc (.type "type")) true := looks_subIn X hi
  refine codeAny_call_builtin KF.slot_gs.plain KF.entry_gs (KF.slot_gs.check _ _ _ _ _ _ _ _ ktyn_type (KF.args_gs _ _ _) ?_)
  unfold Builtin.«getset_descriptor.__get__» descrGet
  rw [name_dga]
  refine wpAny_bind (wpAny_pure ?_)
  unfold descrGetter descrCheckInstance descrNameAndClass isInstance
  simp only [ktyn_owner]
  repeat lk
  refine ⟨Code.quiet_builtin _ (by decide +kernel), codeAny_builtin ktyn_entry ?_⟩
  unfold Builtin.«type.__name__»
  dsimp only
  unfold keptObject
  dsimp only
  obtain ⟨o, ho, hv⟩ := Option.bind_eq_some_iff.mp hs
  have hg := X _ _ ho
  have hsl : (o.slots[2]?).join = some v := by
    cases q : o.slots[2]? with
    | none => rw [q] at hv; cases hv
    | some y => rw [q] at hv; exact hv
  unfold slotAt
  refine wpAny_bind (wpAny_bind (wpAny_loadPart hg (wpAny_pure ?_)))
  rw [hsl]
  exact wpAny_pure h
theorem name_cls {expr : Bool} {v : Value} {Q : Value → Shared → Prop} (F : Fr h₀ L s.heap m) (X₀ : K.In h₀) (hr : readsIn K C mc = true) (e : findCls K (.ref C) mc "__name__" = some (.get (.builtin "getset_descriptor.__get__") (.builtin "type.__name__") (.ref C) mc))
    (ht : typeIn K (.ref C) = some mc) (hi : subIn K mc (.type "type") = some true) {o : Obj} (ho : K.lookup C = some o) (hs' : o.slots[2]? = some (some v)) (hh : handedIn v = true) (h : ∀ u, Q v { s with toks := u }) : wpAny (model prog w) A (getAttr (.ref C) "__name__" expr) Q E s := by
  have X := X₀.keeps F.keep
  have hs : slotOf K C = some v := by unfold slotOf; rw [ho]; show (o.slots[2]?).bind id = _; rw [hs']; rfl
  refine cls_bind X hr e ?_
  exact wpAny_call (name_get (s := { s with toks := s.toks + 1 }) X ht hi hs (handed_on hh (h _)))
end
end Mine
end
section
open PySem PySem.W PyProof.Rows PySem.Calls PyProof.V
set_option Elab.async false
set_option maxRecDepth 100000
set_option maxHeartbeats 1000000
set_option linter.unusedVariables false
namespace Mine
theorem anew_RRX2 : True := by
  w_top off
  trivial
theorem toSN {base G : Heap} {l : List Env} {e t : Addr} {cls : Value} {vs : List Value} {news : List (Addr × Obj)} {h : Heap} (R : RaisedS base G l e cls t vs news h) : RaisedSN base G l e cls news h := by
  obtain ⟨⟨B, hB, hG, hl, hfl, hnew⟩, htup⟩ := R
  exact ⟨B, _, hB, hG, hl, hfl⟩
local macro_rules | `(tactic| k_all) => `(tactic| assumption)
local macro_rules | `(tactic| dict_fit) => `(tactic| omega)
local macro_rules | `(tactic| k_room) => `(tactic| ktr_room)
local macro_rules | `(tactic| walk_at "call type:KeyError") => `(tactic| ((with_reducible show wpAny _ _ (call _ _) (RaisableN _) _ _); refine halt ?_))
section
variable {prog : Program} {w : World} {p : Program} {loose : List Str} {mean : ExcName → Option Value} {mg mb : Str → Option Value}
theorem popitemx_spec {x : CA} {room : Int} {kv ix : KV} {pre : List (Addr × Obj)} (o : x.ord) (hc : CacheL prog w x room kv ix [] pre) (I : Inv kv ix []) :
    SpecX prog w p loose mean mg mb 9 60 880 [.ref x.c] pre (CacheL prog w x room kv ix []) := by
  obtain ⟨c, d, dd, f, di, dk⟩ := x
  have hc0 := hc
  obtain ⟨od, oi, kvs, ivs, vs, nk, t1, t2, t3, t4, t5, t6, tc, tr, hod, hf, hoi, hfi, hI, rfl⟩ := hc
  obtain ⟨o0, o1, o2, o3, o4⟩ := o
  obtain rfl := hI.nil_inv
  dsimp only at o0 o1 o2 o3 o4 hc0 ⊢
  intro dp un gd cn cs a ccd cl outer A₀ base h₀ L m rest s Q E B F X N T hC hcs hap hd hu hret
  have key : (PySem.Challenge.rw_fc0033_01, Mine.K) = (PySem.Challenge.rw_fc0033_01, Mine.K) := by k_fill; rfl
  clear key
  simp only [List.cons_append, List.nil_append] at N
  have kdX : KtsDicts [] h₀ := ktsDicts_nil
  refine enter [(Str.ofString "self", .ref c)] B F X N T hcs (by omega) (by k_is) (by k_is) (by exact BindsTo.of_eq rfl) (by exact locs rfl) ?_ (by exact rfl) (by exact rfl) (by exact rfl) (by decide)
  intro g' L' h' FG' F' N' B' X' T'
  (try dsimp only)
  k_fold
  k_steps
  k_dflt (refine raise_none rfl ?_)
  k_steps
  k_dflt (refine' name_cls ?Fn ?Xn ?rn ?en ?tn ?in1 ?on ?sn ?hn ?_; (case Fn => k_asm); (case Xn => k_asm); (case tn => k_is); (case rn => k_is); (case en => k_is); (case in1 => k_is); (case on => k_is); (case sn => rfl); (case hn => rfl))
  intro u
  k_steps
  refine unhalt ?_
  refine call_exc excClass_KeyError ?_ (Nat.le_of_ble_eq_true rfl)
  intro h8 e8 hx8
  refine raisable_none excClass_KeyError hx8 rfl ?_
  intro h9 hx9
  rename News g' L' _ _ => N9; rename Fr g' L' _ _ => F9
  refine leave_xS B' hx9 F9 N9 ?_
  intro h7 S9 U9
  exact hret _ _ [_, _, _, _, _] _ _ FG' S9 U9 hap hc0
theorem popx_spec {x : CA} {room k : Int} {tk : Tok} {kv ix : KV} {ks : List Int} {pre : List (Addr × Obj)} (o : x.ord) (hc : CacheL prog w x room kv ix ks pre) (I : Inv kv ix ks) (hk : k ∉ ks) (hsz : ks.length ≤ 8) :
    SpecX prog w p loose mean mg mb 9 60 786 [.ref x.c, .int k tk] pre (CacheL prog w x room kv ix ks) := by
  obtain ⟨c, d, dd, f, di, dk⟩ := x
  have hc0 := hc
  obtain ⟨od, oi, kvs, ivs, vs, nk, t1, t2, t3, t4, t5, t6, tc, tr, hod, hf, hoi, hfi, hI, rfl⟩ := hc
  obtain ⟨o0, o1, o2, o3, o4⟩ := o
  dsimp only at o0 o1 o2 o3 o4 hc0 ⊢
  intro dp un gd cn cs a ccd cl outer A₀ base h₀ L m rest s Q E B F X N T hC hcs hap hd hu hret
  have key : (PySem.Challenge.rw_fc0033_01, Mine.K) = (PySem.Challenge.rw_fc0033_01, Mine.K) := by k_fill; rfl
  clear key
  simp only [List.cons_append, List.nil_append] at N
  have hdd : (dd == sysModules) = false := modules_ne (by omega)
  have hdi : (di == sysModules) = false := modules_ne (by omega)
  have hl2 : (PySem.Spec.lookup (PyData.int k) (encD kv)).isSome = false := by rw [lookup_encD, I.mem]; exact decide_eq_false hk
  have hl3 : PySem.Spec.lookup (PyData.int k) (encD kv) = none := by rw [← Option.not_isSome_iff_eq_none, hl2]; decide
  have l1 : kv.length = ks.length := by have := I.data.length_eq; rwa [List.length_map] at this
  have hsz2 : (encD kv).length ≤ 64 := by rw [encD_length]; omega
  have kdX : KtsDicts [] h₀ := ktsDicts_nil
  refine enter [(Str.ofString "self", .ref c), (Str.ofString "key", .int k tk), (Str.ofString "default", .ref 706)] B F X N T hcs (by omega) (by k_is) (by k_is) (by exact binds_K (by k_in) rfl (by k_is) rfl rfl rfl) (by exact locs rfl) ?_ (by exact rfl) (by exact rfl) (by exact rfl) (by decide)
  intro g' L' h' FG' F' N' B' X' T'
  (try dsimp only)
  k_fold
  k_steps
  rename Heap.NewExc _ _ _ _ => X9; rename News g' L' _ _ => N9; rename Fr g' L' _ _ => F9
  refine leave_newS B' X9 F9 N9 ?_
  intro h9 S9 R9 U9
  exact hret _ _ [_, _, _, _, _] _ _ FG' S9 U9 hap hc0
end
end Mine
end
section
open PySem PySem.W PyProof.Rows PySem.Calls PyProof.V
set_option Elab.async false
set_option maxRecDepth 100000
set_option maxHeartbeats 1000000
set_option linter.unusedVariables false
namespace Mine
theorem gone_all (g : Nat → Bool) (xs : List Value) (hg : ∀ i, i < xs.length → g i = true) : (xs.zipIdx.filterMap fun (p : Value × Nat) => if g p.2 = true then none else some p.1) = [] := by
  rw [List.filterMap_eq_nil_iff]
  rintro ⟨x, k⟩ hm
  have hm' := List.mem_zipIdx hm
  dsimp only
  rw [if_pos (hg k (by omega))]
theorem list_cleared {h₀ h : Heap} {L l : Addr} {its its' : Array Value} {n : Nat} {pre post : List (Addr × Obj)} (f : Array Value → Array Value) (N : News h₀ L h (pre ++ (l, listOf its n) :: post)) (a : ∀ p ∈ pre, p.1 ≠ l) (b : ∀ p ∈ post, p.1 ≠ l) (he : f its = its') :
    ∃ n', News h₀ L (h.update l (Obj.mapSeq f)) (pre ++ (l, listOf its' n') :: post) := by
  have q := PySem.IsL.update (N (l, listOf its n) (List.mem_append.mpr (.inr (.head _)))).1 f
  rw [he] at q
  exact ⟨_, news_set N a b (Heap.SameBut.update ..) q⟩
section
variable {prog : Program} {w : World} {A : Around} {E : Value → Shared → Prop} {s : Shared} {h₀ : Heap} {L l sl fl : Addr} {m : Str → Option Value} {news : List (Addr × Obj)} {vs ws : List Value} {n n2 : Nat} {g : Obj → List (Addr × Obj)}
theorem del_all {Q : Unit → Shared → Prop} (F : Fr h₀ L s.heap m) (N : News h₀ L s.heap news) (U : UpdF l (listOf vs.toArray n) news g) (hs : s.heap.IsSliceOf sl .none .none .none) (hz : vs.length ≤ 1000)
    (h : ∀ h' n', Fr h₀ L h' m → News h₀ L h' (g (listOf #[] n')) → Q () { s with heap := h' }) : wpAny (model prog w) A (delItem (.ref l) (.ref sl)) Q E s := by
  obtain ⟨pre, post, rfl, hg, a, b⟩ := U.split
  have hm := N (l, listOf vs.toArray n) (List.mem_append_right _ (.head _))
  have ho := hm.1
  have hl : s.heap.IsList l vs.toArray := ⟨_, ho, rfl, _, rfl⟩
  obtain ⟨os, hos, hcs, hds⟩ := id hs
  have hTs : s.TypeIs (.ref sl) "slice" := ⟨os, hos, hcs⟩
  have hsz : vs.toArray.size ≤ sizeLine := by rw [List.size_toArray, PySem.sizeLine_eq]; omega
  unfold delItem
  refine wpAny_holding ?_
  refine wpAny_bind (wpAny_sequenceKey hl.typeIs (by decide) ?_)
  refine wpAny_bind (wpAny_callSpecial?_slot (name := Str.ofString "__delitem__") hl.typeIs PySem.F.slot_list_delitem
    (wpAny_call_entry PySem.F.slot_list_delitem hl.typeIs PySem.F.entry_list_delitem ?_ (PySem.F.args_list_delitem_2 _ _)))
  show wpAny _ _ (Builtin.List.listSubscript? (.ref sl) >>= _) _ _ s
  refine wpAny_bind ?_
  unfold Builtin.List.listSubscript?
  refine wpAny_bind (wpAny_specialOf hTs slice_no_index ?_)
  simp only [Option.isNone_none, if_true]
  refine wpAny_pure ?_
  show wpAny _ _ (typeOf (.ref sl) >>= _) _ _ s
  refine wpAny_bind (wpAny_typeOf hTs ?_)
  rw [if_neg (by decide)]
  rw [listSliceParts_eq]
  refine wpAny_bind (wpAny_bind (wpAny_field hos hds (x := .none) rfl (wpAny_bind (wpAny_listPart .none ?_))))
  rw [if_neg (by decide)]
  refine wpAny_bind (wpAny_field hos hds (x := .none) rfl (wpAny_bind (wpAny_listPart .none ?_)))
  refine wpAny_bind (wpAny_field hos hds (x := .none) rfl (wpAny_bind (wpAny_listPart .none (wpAny_pure ?_))))
  refine wpAny_bind (m := Builtin.List.listItems (.ref l)) ?_
  unfold Builtin.List.listItems
  refine wpAny_bind (wpAny_seqItems ho rfl (wpAny_pure ?_))
  refine wpAny_bind (wpAny_of_eq (sliceIndices_raw none none none vs.toArray.size (by simp)) ?_)
  dsimp only [sliceBounds]
  refine wpAny_bind (wpAny_rule ?_)
  have fin : ∀ (f : Array Value → Array Value) (gone : List Value), f vs.toArray = #[] → wpAny (model prog w) A.in1 (do Builtin.List.listUpdate (.ref l) f; letGo gone; ret Value.none) (fun fin s' => ∃ v, fin = Fin.done (Flow.ret v) ∧ wpAny (model prog w) A (pure ()) Q E s') E s := by
    intro f gone hf
    unfold Builtin.List.listUpdate
    refine wpAny_bind (wpAny_updateSeq (f := f) ho rfl ?_ hsz ?_)
    · refine wpAny_bind (wpAny_letGo (wpAny_pure ⟨_, rfl, wpAny_pure ?_⟩))
      obtain ⟨n', N'⟩ := list_cleared f N a b hf
      exact h _ n' (F.change (Heap.SameBut.update ..) hm.2.1 hm.2.2) (hg _ ▸ N')
    · rw [hf]
      exact Nat.zero_le _
  refine fin _ _ ?_
  refine congrArg List.toArray (gone_all _ vs fun i hi => ?_)
  have hi2 : (i : Int) < (vs.toArray.size : Int) := by rw [List.size_toArray]; omega
  show ((decide ((0 : Int) ≤ i) && decide ((i : Int) < (vs.toArray.size : Int))) && (((i : Int) - 0) % 1 == 0)) = true
  simp only [decide_eq_true hi2, Bool.and_true]
  simp
theorem set_all {Q : Unit → Shared → Prop} (F : Fr h₀ L s.heap m) (N : News h₀ L s.heap news) (U : UpdF l (listOf vs.toArray n) news g) (hfl : (fl, listOf ws.toArray n2) ∈ news) (hne : @Ne Nat l fl) (hs : s.heap.IsSliceOf sl .none .none .none) (hz : vs.length ≤ 1000) (hz2 : ws.length ≤ 1000)
    (h : ∀ h' n', Fr h₀ L h' m → News h₀ L h' (g (listOf ws.toArray n')) → Q () { s with heap := h' }) : wpAny (model prog w) A (setItem (.ref l) (.ref sl) (.ref fl)) Q E s := by
  have hof := (N _ hfl).1
  obtain ⟨pre, post, rfl, hg, a, b⟩ := U.split
  have hm := N (l, listOf vs.toArray n) (List.mem_append_right _ (.head _))
  have ho := hm.1
  have hl : s.heap.IsList l vs.toArray := ⟨_, ho, rfl, _, rfl⟩
  have hlf : s.heap.IsList fl ws.toArray := ⟨_, hof, rfl, _, rfl⟩
  obtain ⟨os, hos, hcs, hds⟩ := id hs
  have hTs : s.TypeIs (.ref sl) "slice" := ⟨os, hos, hcs⟩
  have hsz : vs.toArray.size ≤ sizeLine := by rw [List.size_toArray, PySem.sizeLine_eq]; omega
  have hbad : Builtin.List.listSameRef (.ref l) (.ref fl) = false := beq_eq_false_iff_ne.mpr hne
  have hlong : Builtin.List.listTooLong (vs.toArray.size + ws.toArray.size) = false := by
    rw [List.size_toArray, List.size_toArray]
    exact decide_eq_false (by rw [PySem.sizeLine_eq]; omega)
  unfold setItem
  refine wpAny_holding ?_
  refine wpAny_bind (wpAny_sequenceKey hl.typeIs (by decide) ?_)
  refine wpAny_bind (wpAny_callSpecial?_slot (name := Str.ofString "__setitem__") hl.typeIs PySem.F.slot_list_setitem
    (wpAny_call_entry PySem.F.slot_list_setitem hl.typeIs PySem.F.entry_list_setitem ?_ (PySem.F.args_list_setitem_3 _ _ _)))
  show wpAny _ _ (Builtin.List.listSubscript? (.ref sl) >>= _) _ _ s
  refine wpAny_bind ?_
  unfold Builtin.List.listSubscript?
  refine wpAny_bind (wpAny_specialOf hTs slice_no_index ?_)
  simp only [Option.isNone_none, if_true]
  refine wpAny_pure ?_
  show wpAny _ _ (typeOf (.ref sl) >>= _) _ _ s
  refine wpAny_bind (wpAny_typeOf hTs ?_)
  rw [if_neg (by decide)]
  rw [listSliceParts_eq]
  refine wpAny_bind (wpAny_bind (wpAny_field hos hds (x := .none) rfl (wpAny_bind (wpAny_listPart .none ?_))))
  rw [if_neg (by decide)]
  refine wpAny_bind (wpAny_field hos hds (x := .none) rfl (wpAny_bind (wpAny_listPart .none ?_)))
  refine wpAny_bind (wpAny_field hos hds (x := .none) rfl (wpAny_bind (wpAny_listPart .none (wpAny_pure ?_))))
  dsimp only
  rw [hbad, if_neg (by decide)]
  unfold Builtin.List.listAllItems
  refine wpAny_bind (wpAny_bind (wpAny_typeOf hlf.typeIs ?_))
  rw [if_pos (by decide)]
  unfold Builtin.List.listItems
  refine wpAny_bind (wpAny_seqItems hof rfl (wpAny_pure ?_))
  refine wpAny_bind (wpAny_bind (wpAny_seqItems ho rfl (wpAny_pure ?_)))
  refine wpAny_bind (wpAny_of_eq (sliceIndices_raw none none none vs.toArray.size (by simp)) ?_)
  dsimp only [sliceBounds]
  rw [if_pos (by decide)]
  refine wpAny_bind (wpAny_rule ?_)
  rw [if_neg (by rw [hlong]; exact Bool.false_ne_true)]
  have fin : ∀ (f : Array Value → Array Value) (gone : List Value), f vs.toArray = ws.toArray → wpAny (model prog w) A.in1 (do Builtin.List.listUpdate (.ref l) f; letGo gone; ret Value.none) (fun fin s' => ∃ v, fin = Fin.done (Flow.ret v) ∧ wpAny (model prog w) A (pure ()) Q E s') E s := by
    intro f gone hf
    unfold Builtin.List.listUpdate
    refine wpAny_bind (wpAny_updateSeq (f := f) ho rfl ?_ hsz ?_)
    · refine wpAny_bind (wpAny_letGo (wpAny_pure ⟨_, rfl, wpAny_pure ?_⟩))
      obtain ⟨n', N'⟩ := list_cleared f N a b hf
      exact h _ n' (F.change (Heap.SameBut.update ..) hm.2.1 hm.2.2) (hg _ ▸ N')
    · rw [hf, List.size_toArray, PySem.sizeLine_eq]; omega
  refine fin _ _ ?_
  have e1 : ((if ((none : Option Int).getD 1) > 0 then (0 : Int) else (vs.toArray.size : Int) - 1)).toNat = 0 := rfl
  have e2 : (max (if ((none : Option Int).getD 1) > 0 then (0 : Int) else (vs.toArray.size : Int) - 1) (if ((none : Option Int).getD 1) > 0 then (vs.toArray.size : Int) else -1)).toNat = vs.toArray.size := by
    show (max (0 : Int) (vs.toArray.size : Int)).toNat = _
    omega
  rw [e1, e2]
  simp
theorem clear_any {Q : Value → Shared → Prop} (F : Fr h₀ L s.heap m) (N : News h₀ L s.heap news) (U : UpdF l (listOf vs.toArray n) news g) (hz : vs.length ≤ 1000)
    (h : ∀ h' n' tk, Fr h₀ L h' m → News h₀ L h' (g (listOf #[] n')) → Q .none { s with heap := h', toks := tk }) : wpAny (model prog w) A (call (.builtin "list.clear") [.ref l]) Q E s := by
  obtain ⟨pre, post, rfl, hg, a, b⟩ := U.split
  have hm := N (l, listOf vs.toArray n) (List.mem_append_right _ (.head _))
  refine call_meets PySem.F.slot_list_clear ⟨_, hm.1, rfl⟩ PySem.F.entry_list_clear (PySem.F.args_list_clear_1 _) (PySem.AutoSeq1.list_clear_list_0 l vs.toArray n (by rw [List.size_toArray, PySem.sizeLine_eq]; omega)) ⟨hm.1, ?_⟩
  obtain ⟨n', N'⟩ := list_cleared (fun _ => #[]) N a b rfl
  exact h _ n' _ (F.change (Heap.SameBut.update ..) hm.2.1 hm.2.2) (hg _ ▸ N')
end
end Mine
end
section
open PySem PySem.W PyProof.Rows PySem.Calls PyProof.V
set_option Elab.async false
set_option maxRecDepth 100000
set_option maxHeartbeats 1000000
set_option linter.unusedVariables false
namespace Mine
local macro_rules | `(tactic| walk_at "pad 0") => `(tactic| fail)
local macro_rules | `(tactic| walk_at "pad 1") => `(tactic| fail)
local macro_rules | `(tactic| walk_at "pad 2") => `(tactic| fail)
local macro_rules | `(tactic| walk_at "pad 3") => `(tactic| fail)
local macro_rules | `(tactic| walk_at "pad 4") => `(tactic| fail)
local macro_rules | `(tactic| walk_at "pad 5") => `(tactic| fail)
local macro_rules | `(tactic| walk_at "pad 6") => `(tactic| fail)
local macro_rules | `(tactic| walk_at "pad 7") => `(tactic| fail)
local macro_rules | `(tactic| walk_at "pad 8") => `(tactic| fail)
local macro_rules | `(tactic| walk_at "pad 9") => `(tactic| fail)
theorem anew_RRY : True := by
  w_top off
  trivial
local macro_rules | `(tactic| k_all) => `(tactic| assumption)
local macro_rules | `(tactic| dict_fit) => `(tactic| omega)
local macro_rules | `(tactic| k_room) => `(tactic| ktr_room)
local macro_rules | `(tactic| walk_at "call ref") => `(tactic| ((with_reducible show wpAny _ _ (call (Value.ref (nat_lit 873)) _ _) _ _ _); refine halt ?_))
local macro_rules | `(tactic| walk_at "delItem ref int") => `(tactic| (k_here; (with_reducible show wpAny _ _ (delItem (Value.ref _) _) _ _ _); k_dflt (refine' del_inst ?Fd ?Xd ?Id ?hQd ?hSd ?hFd ?_; (case Fd => k_asm); (case Xd => k_asm); (case Id => k_inst); (case hSd => k_is); (case hFd => k_is); (case hQd => k_is); k_whole)))
section
variable {prog : Program} {w : World} {p : Program} {loose : List Str} {mean : ExcName → Option Value} {mg mb : Str → Option Value}
theorem pop_spec {x : CA} {room k : Int} {tk : Tok} {kv ix : KV} {ks : List Int} {i : Nat} {pre : List (Addr × Obj)} (o : x.ord) (hc : CacheL prog w x room kv ix ks pre) (I : Inv kv ix ks) (hi : i < ks.length) (hk : ks.getD i 0 = k) (hsz : ks.length ≤ 8) :
    Spec prog w p loose mean mg mb 20 120 786 [.ref x.c, .int k tk] pre (fun r mine => CacheL prog w x room (del kv k) (delI ix ks i) (swapRem ks i) mine) := by
  obtain ⟨c, dx, dd, f, di, dk⟩ := x
  have hc0 := hc
  obtain ⟨od, oi, kvs, ivs, vs, nk, t1, t2, t3, t4, t5, t6, tc, tr, hod, hf, hoi, hfi, hI, rfl⟩ := hc
  obtain ⟨o0, o1, o2, o3, o4⟩ := o
  dsimp only at o0 o1 o2 o3 o4 hc0 ⊢
  intro dp un gd cn cs a ccd cl outer A₀ base h₀ L m rest s Q E B F X N T hC hcs hap hd hu hret
  have key : (PySem.Challenge.rw_fc0033_01, Mine.K) = (PySem.Challenge.rw_fc0033_01, Mine.K) := by k_fill; rfl
  clear key
  simp only [List.cons_append, List.nil_append] at N
  have hap0 := hap
  simp only [List.cons_append, List.nil_append, List.forall_mem_cons] at hap
  obtain ⟨r1, r2, r3, r4, r5, -⟩ := hap
  have hdd : (dd == sysModules) = false := modules_ne (by omega)
  have hdi : (di == sysModules) = false := modules_ne (by omega)
  have hmem : k ∈ ks := hk ▸ getD_mem hi
  have hks : (look kv k).isSome = true := by rw [I.mem]; exact decide_eq_true hmem
  obtain ⟨pd, hkp⟩ := Option.isSome_iff_exists.mp hks
  have hl2 : (PySem.Spec.lookup (PyData.int k) (encD kv)).isSome = true := by rw [lookup_encD]; exact hks
  have hl : PySem.Spec.lookup (PyData.int k) (encD kv) = some pd := by rw [lookup_encD]; exact hkp
  have l1 : kv.length = ks.length := by have := I.data.length_eq; rwa [List.length_map] at this
  have hsz2 : (encD kv).length ≤ 64 := by rw [encD_length]; omega
  refine enter [(Str.ofString "self", .ref c), (Str.ofString "key", .int k tk), (Str.ofString "default", .ref 706)] B F X N T hcs (by omega) (by k_is) (by k_is) (by exact binds_K (by k_in) rfl (by k_is) rfl rfl rfl) (by exact locs rfl) ?_ (by exact rfl) (by exact rfl) (by exact rfl) (by decide)
  intro g' L' h' FG' F' N' B' X' T'
  (try dsimp only)
  k_fold
  k_steps
  refine unhalt ?_
  rename Fr g' L' _ _ => F8
  rename News g' L' _ _ => N8
  refine rdel_spec (i := i) ⟨o0, o1, o2, o3, o4⟩ hc0 I hi hk hsz _ _ _ _ _ _ _ _ _ _ _ _ _ _ rest _ _ _ B' F8 X' N8 T' hC (by exact rfl) hap0 (by omega) (by omega) ?_
  clear F8 N8
  intro r mine h10 tk10 F10 N10 ap10 hpost
  obtain ⟨rfl, hc3⟩ := hpost
  have hc4 := hc3
  obtain ⟨od2, oi2, kvs2, ivs2, vs2, nk2, w1, w2, w3, w4, w5, w6, wc, wr, hod2, hfp2, hoi2, hfi2, hI2, rfl⟩ := hc3
  dsimp only at hc4 N10 ap10
  simp only [List.cons_append, List.nil_append] at N10
  k_steps
  rename Fr h₀ L _ m => F9; rename News h₀ L _ _ => N9
  exact hret _ [_, _, _, _, _] _ _ F9 N9 ap10 hc4
end
end Mine
end
section
open PySem PySem.W PyProof.Rows PySem.Calls PyProof.V
set_option Elab.async false
set_option maxRecDepth 100000
set_option maxHeartbeats 1000000
set_option linter.unusedVariables false
namespace Mine
theorem anew_RRZ : True := by
  w_top off
  trivial
local macro_rules | `(tactic| k_all) => `(tactic| assumption)
local macro_rules | `(tactic| dict_fit) => `(tactic| omega)
local macro_rules | `(tactic| k_room) => `(tactic| ktr_room)
local macro_rules | `(tactic| walk_at "call ref") => `(tactic| ((with_reducible show wpAny _ _ (call (Value.ref (nat_lit 873)) _ _) _ _ _); refine halt ?_))
local macro_rules | `(tactic| walk_at "delItem ref int") => `(tactic| (k_here; (with_reducible show wpAny _ _ (delItem (Value.ref _) _) _ _ _); k_dflt (refine' del_inst ?Fd ?Xd ?Id ?hQd ?hSd ?hFd ?_; (case Fd => k_asm); (case Xd => k_asm); (case Id => k_inst); (case hSd => k_is); (case hFd => k_is); (case hQd => k_is); k_whole)))
section
variable {prog : Program} {w : World} {p : Program} {loose : List Str} {mean : ExcName → Option Value} {mg mb : Str → Option Value}
theorem clear_spec {x : CA} {room : Int} {kv ix : KV} {ks : List Int} {pre : List (Addr × Obj)} (o : x.ord) (hc : CacheL prog w x room kv ix ks pre) (I : Inv kv ix ks) (hsz : ks.length ≤ 8) :
    Spec prog w p loose mean mg mb 20 120 887 [.ref x.c] pre (fun r mine => CacheL prog w x room [] [] [] mine) := by
  obtain ⟨c, dx, dd, f, di, dk⟩ := x
  obtain ⟨od, oi, kvs, ivs, vs, nk, t1, t2, t3, t4, t5, t6, tc, tr, hod, hf, hoi, hfi, hI, rfl⟩ := hc
  obtain ⟨o0, o1, o2, o3, o4⟩ := o
  dsimp only at o0 o1 o2 o3 o4 ⊢
  intro dp un gd cn cs a ccd cl outer A₀ base h₀ L m rest s Q E B F X N T hC hcs hap hd hu hret
  have key : (PySem.Challenge.rw_fc0033_01, Mine.K) = (PySem.Challenge.rw_fc0033_01, Mine.K) := by k_fill; rfl
  clear key
  simp only [List.cons_append, List.nil_append] at N
  have hap0 := hap
  simp only [List.cons_append, List.nil_append, List.forall_mem_cons] at hap
  obtain ⟨r1, r2, r3, r4, r5, -⟩ := hap
  have hdd : (dd == sysModules) = false := modules_ne (by omega)
  have hdi : (di == sysModules) = false := modules_ne (by omega)
  have l1 : kv.length = ks.length := by have := I.data.length_eq; rwa [List.length_map] at this
  have l2 : ix.length = ks.length := by have := I.idx.1.length_eq; rwa [List.length_map] at this
  have hsz2 : (encD kv).length ≤ 64 := by rw [encD_length]; omega
  have hsz3 : (encD ix).length ≤ 64 := by rw [encD_length]; omega
  refine enter [(Str.ofString "self", .ref c)] B F X N T hcs (by omega) (by k_is) (by k_is) (by exact BindsTo.of_eq rfl) (by exact locs rfl) ?_ (by exact rfl) (by exact rfl) (by exact rfl) (by decide)
  intro g' L' h' FG' F' N' B' X' T'
  (try dsimp only)
  k_fold
  k_steps
  rename News g' L' _ _ => N8
  rename Fr g' L' _ _ => F8
  dsimp only
  k_dflt (refine' del_all (F8.push _) (N8.pushKeep _) ?Ud (Heap.IsSliceOf.new ..) ?zd ?_; (case Ud => k_updF); (case zd => exact (show vs.length ≤ 1000 by rw [hI.length]; omega)))
  intro h9 n9 F9 N9
  k_steps
  rename Fr h₀ L _ m => F7; rename News h₀ L _ _ => N7
  exact hret _ [_, _, _, _, _] _ _ F7 N7 (List.forall_mem_cons.mpr ⟨r1, List.forall_mem_cons.mpr ⟨r2, List.forall_mem_cons.mpr ⟨r3, List.forall_mem_cons.mpr ⟨r4, List.forall_mem_cons.mpr ⟨r5, List.forall_mem_nil _⟩⟩⟩⟩⟩) ⟨_, _, [], [], [], _, _, _, _, _, _, _, _, _, by assumption, by assumption, by assumption, by assumption, .nil, rfl⟩
end
end Mine
end
section
open PySem PySem.W PyProof.Rows PySem.Calls PyProof.V
set_option Elab.async false
set_option maxRecDepth 100000
set_option maxHeartbeats 1000000
set_option linter.unusedVariables false
set_option linter.unusedSimpArgs false
namespace Mine
local macro_rules | `(tactic| walk_at "pad 0") => `(tactic| fail)
local macro_rules | `(tactic| walk_at "pad 1") => `(tactic| fail)
local macro_rules | `(tactic| walk_at "pad 2") => `(tactic| fail)
local macro_rules | `(tactic| walk_at "pad 3") => `(tactic| fail)
local macro_rules | `(tactic| walk_at "pad 4") => `(tactic| fail)
local macro_rules | `(tactic| walk_at "pad 5") => `(tactic| fail)
local macro_rules | `(tactic| walk_at "pad 6") => `(tactic| fail)
local macro_rules | `(tactic| walk_at "pad 7") => `(tactic| fail)
local macro_rules | `(tactic| walk_at "pad 8") => `(tactic| fail)
local macro_rules | `(tactic| walk_at "pad 9") => `(tactic| fail)
theorem anew_RRS : True := by
  w_top off
  trivial
local macro_rules | `(tactic| k_all) => `(tactic| assumption)
local macro_rules | `(tactic| dict_fit) => `(tactic| omega)
local macro_rules | `(tactic| k_room) => `(tactic| ktr_room)
local macro_rules | `(tactic| walk_at "call ref") => `(tactic| ((with_reducible show wpAny _ _ (call (Value.ref (nat_lit 880)) _ _) _ _ _); refine halt ?_))
section
variable {prog : Program} {w : World} {p : Program} {loose : List Str} {mean : ExcName → Option Value} {mg mb : Str → Option Value}
theorem setold_spec {x : CA} {room k : Int} {tk : Tok} {v : Value} {pd : PyData} {kv ix : KV} {ks : List Int} {pre : List (Addr × Obj)} (o : x.ord) (hc : CacheL prog w x room kv ix ks pre) (I : Inv kv ix ks) (hv : Flat v pd) (hmem : k ∈ ks) (hsz : ks.length ≤ 8) (hroom : 1 ≤ room) :
    Spec prog w p loose mean mg mb 20 120 865 [.ref x.c, .int k tk, v] pre (fun r mine => CacheL prog w x room (put kv k pd) ix ks mine) := by
  obtain ⟨c, dx, dd, f, di, dk⟩ := x
  have hc0 := hc
  obtain ⟨od, oi, kvs, ivs, vs, nk, t1, t2, t3, t4, t5, t6, tc, tr, hod, hf, hoi, hfi, hI, rfl⟩ := hc
  obtain ⟨o0, o1, o2, o3, o4⟩ := o
  dsimp only at o0 o1 o2 o3 o4 hc0 ⊢
  intro dp un gd cn cs a ccd cl outer A₀ base h₀ L m rest s Q E B F X N T hC hcs hap hd hu hret
  have key : (PySem.Challenge.rw_fc0033_01, Mine.K) = (PySem.Challenge.rw_fc0033_01, Mine.K) := by k_fill; rfl
  clear key
  simp only [List.cons_append, List.nil_append] at N
  have hap0 := hap
  simp only [List.cons_append, List.nil_append, List.forall_mem_cons] at hap
  obtain ⟨r1, r2, r3, r4, r5, -⟩ := hap
  have hap0' : ∀ o1, ∀ x ∈ [(c, instObj 890 dx), (dx, dictOf (cEs w.params t1 t2 t3 t4 t5 t6 dd (ks.length : Int) tc room tr f di dk) 6), (dd, o1), (di, oi), (dk, listOf vs.toArray nk)], ∀ q ∈ rest, q.1 ≠ x.1 := fun o1 => (List.forall_mem_cons.mpr ⟨r1, List.forall_mem_cons.mpr ⟨r2, List.forall_mem_cons.mpr ⟨r3, List.forall_mem_cons.mpr ⟨r4, List.forall_mem_cons.mpr ⟨r5, List.forall_mem_nil _⟩⟩⟩⟩⟩)
  have hdd : (dd == sysModules) = false := modules_ne (by omega)
  have hdi : (di == sysModules) = false := modules_ne (by omega)
  have hks : (look kv k).isSome = true := by rw [I.mem]; exact decide_eq_true hmem
  have hki : (look ix k).isSome = true := by rw [I.memI]; exact decide_eq_true hmem
  have hl2 : (PySem.Spec.lookup (PyData.int k) (encD kv)).isSome = true := by rw [lookup_encD]; exact hks
  have hl3 : (PySem.Spec.lookup (PyData.int k) (encD ix)).isSome = true := by rw [lookup_encD]; exact hki
  have l1 : kv.length = ks.length := by have := I.data.length_eq; rwa [List.length_map] at this
  have l2 : ix.length = ks.length := by have := I.idx.1.length_eq; rwa [List.length_map] at this
  have hsz2 : (encD kv).length ≤ 64 := by rw [encD_length]; omega
  have hsz3 : (encD ix).length ≤ 64 := by rw [encD_length]; omega
  refine enter [(Str.ofString "self", .ref c), (Str.ofString "key", .int k tk), (Str.ofString "value", v), (Str.ofString "cache_setitem", .ref 735)] B F X N T hcs (by omega) (by k_is) (by k_is) (by exact binds_K (by k_in) rfl (by k_is) rfl rfl rfl) (by exact locs rfl) ?_ (by exact rfl) (by exact rfl) (by exact rfl) (by decide)
  intro g' L' h' FG' F' N' B' X' T'
  (try dsimp only)
  k_fold
  k_steps
  rename Fr h₀ L _ m => F9; rename News h₀ L _ _ => N9
  rename Obj.IsDictOf _ _ (stored _ _ _) => d2; rename FlatPairs _ (stored _ _ _) _ => f2
  rw [putD_encD] at f2
  exact hret _ [_, _, _, _, _] _ _ F9 N9 (hap0' _) ⟨_, _, _, _, _, _, _, _, _, _, _, _, _, _, d2, f2, hoi, hfi, hI, rfl⟩
theorem setnew_spec {x : CA} {room k : Int} {tk : Tok} {v : Value} {pd : PyData} {kv ix : KV} {ks : List Int} {pre : List (Addr × Obj)} (o : x.ord) (hc : CacheL prog w x room kv ix ks pre) (I : Inv kv ix ks) (hv : Flat v pd) (hmem : k ∉ ks) (hsz : ks.length ≤ 7) (hroom : (ks.length : Int) < room) (hroom2 : room ≤ 8) :
    Spec prog w p loose mean mg mb 20 120 865 [.ref x.c, .int k tk, v] pre (fun r mine => CacheL prog w x room (put kv k pd) (put ix k (.int ks.length)) (ks ++ [k]) mine) := by
  obtain ⟨c, dx, dd, f, di, dk⟩ := x
  have hc0 := hc
  obtain ⟨od, oi, kvs, ivs, vs, nk, t1, t2, t3, t4, t5, t6, tc, tr, hod, hf, hoi, hfi, hI, rfl⟩ := hc
  obtain ⟨o0, o1, o2, o3, o4⟩ := o
  dsimp only at o0 o1 o2 o3 o4 hc0 ⊢
  intro dp un gd cn cs a ccd cl outer A₀ base h₀ L m rest s Q E B F X N T hC hcs hap hd hu hret
  have key : (PySem.Challenge.rw_fc0033_01, Mine.K) = (PySem.Challenge.rw_fc0033_01, Mine.K) := by k_fill; rfl
  clear key
  simp only [List.cons_append, List.nil_append] at N
  have hap0 := hap
  simp only [List.cons_append, List.nil_append, List.forall_mem_cons] at hap
  obtain ⟨r1, r2, r3, r4, r5, -⟩ := hap
  have hdd : (dd == sysModules) = false := modules_ne (by omega)
  have hdi : (di == sysModules) = false := modules_ne (by omega)
  have hks : (look kv k).isSome = false := by rw [I.mem]; exact decide_eq_false hmem
  have hki : (look ix k).isSome = false := by rw [I.memI]; exact decide_eq_false hmem
  have hl2 : (PySem.Spec.lookup (PyData.int k) (encD kv)).isSome = false := by rw [lookup_encD]; exact hks
  have hl3 : (PySem.Spec.lookup (PyData.int k) (encD ix)).isSome = false := by rw [lookup_encD]; exact hki
  have l1 : kv.length = ks.length := by have := I.data.length_eq; rwa [List.length_map] at this
  have l2 : ix.length = ks.length := by have := I.idx.1.length_eq; rwa [List.length_map] at this
  have hsz2 : (encD kv).length ≤ 64 := by rw [encD_length]; omega
  have hsz3 : (encD ix).length ≤ 64 := by rw [encD_length]; omega
  refine enter [(Str.ofString "self", .ref c), (Str.ofString "key", .int k tk), (Str.ofString "value", v), (Str.ofString "cache_setitem", .ref 735)] B F X N T hcs (by omega) (by k_is) (by k_is) (by exact binds_K (by k_in) rfl (by k_is) rfl rfl rfl) (by exact locs rfl) ?_ (by exact rfl) (by exact rfl) (by exact rfl) (by decide)
  intro g' L' h' FG' F' N' B' X' T'
  (try dsimp only)
  k_fold
  k_steps
  refine WhlIf.no (decide_eq_false (by omega)) ?_
  k_steps
  rename Fr h₀ L _ m => F9; rename News h₀ L _ _ => N9
  rename FlatPairs _ (stored kvs _ _) _ => f1; rename FlatPairs _ (stored ivs _ _) _ => f2
  rename Obj.IsDictOf _ _ (stored kvs _ _) => d1; rename Obj.IsDictOf _ _ (stored ivs _ _) => d2
  rw [putD_encD] at f1 f2
  have hcl : (ks.length : Int) + 1 = ((ks ++ [k]).length : Int) := by rw [List.length_append]; simp
  exact hret _ [_, _, _, _, _] _ _ F9 N9 (List.forall_mem_cons.mpr ⟨r1, List.forall_mem_cons.mpr ⟨r2, List.forall_mem_cons.mpr ⟨r3, List.forall_mem_cons.mpr ⟨r4, List.forall_mem_cons.mpr ⟨r5, List.forall_mem_nil _⟩⟩⟩⟩⟩) ⟨_, _, _, _, _, _, _, _, _, _, _, _, _, _, d1, f1, d2, f2, hI.append (.cons _ _ .nil), by rw [← hcl, List.push_toArray]⟩
end
end Mine
end
section
open PySem PySem.W PyProof.Rows PySem.Calls PyProof.V
set_option Elab.async false
set_option maxRecDepth 100000
set_option maxHeartbeats 1000000
set_option linter.unusedVariables false
set_option linter.unusedSimpArgs false
namespace Mine
theorem anew_RRF : True := by
  w_top off
  trivial
local macro_rules | `(tactic| k_all) => `(tactic| assumption)
local macro_rules | `(tactic| dict_fit) => `(tactic| omega)
local macro_rules | `(tactic| k_room) => `(tactic| ktr_room)
local macro_rules | `(tactic| walk_at "call ref") => `(tactic| ((with_reducible show wpAny _ _ (call (Value.ref (nat_lit 880)) _ _) _ _ _); refine halt ?_))
def FullPost (prog : Program) (w : World) (x : CA) (y : HA) (room : Int) (dr : List Int) (sv : List Value) (kv ix : KV) (ks : List Int) (held : List Int) (r : Value) (mine : List (Addr × Obj)) : Prop :=
  ∃ (sa : Addr) (us : List Value) (uk : List Int) (n : Nat) (cl1 chl1 : List (Addr × Obj)), IntsAre us uk ∧ uk.Perm held ∧ uk.Pairwise (· ≤ ·) ∧ (@LT.lt Nat _ x.dk sa ∧ @LT.lt Nat _ y.f sa) ∧
    CacheL prog w x room kv ix ks cl1 ∧ ChoiceL y dr (sv ++ [.ref sa]) chl1 ∧ mine = (sa, listOf us.toArray n) :: (cl1 ++ chl1)
section
variable {prog : Program} {w : World} {p : Program} {loose : List Str} {mean : ExcName → Option Value} {mg mb : Str → Option Value}
theorem setfull_spec {x : CA} {y : HA} {room d k : Int} {dr : List Int} {sv : List Value} {tk : Tok} {v : Value} {pd : PyData} {kv ix : KV} {ks : List Int} {pre chl : List (Addr × Obj)} (o : x.ord) (oy : y.ord) (hc : CacheL prog w x room kv ix ks pre) (hh : ChoiceL y (d :: dr) sv chl) (hfe : x.f = y.f) (hfx : @LT.lt Nat _ y.f x.d) (I : Inv kv ix ks) (hv : Flat v pd) (hmem : k ∉ ks) (hk : 0 < ks.length) (hsz : ks.length ≤ 7) (hroom : (ks.length : Int) = room) (hd0 : 0 ≤ d) (hsv : sv.length ≤ 100) (hdr : dr.length ≤ 100) :
    Spec prog w p loose mean mg mb 40 240 865 [.ref x.c, .int k tk, v] (pre ++ chl) (FullPost prog w x y room dr sv (put (del kv (ks.getD (Int.fmod d ks.length).toNat 0)) k pd) (put (delI ix ks (Int.fmod d ks.length).toNat) k (.int (swapRem ks (Int.fmod d ks.length).toNat).length)) (swapRem ks (Int.fmod d ks.length).toNat ++ [k]) ks) := by
  obtain ⟨c, dx, dd, f, di, dk⟩ := x
  have hc0 := hc
  have hh0 := hh
  have oy0 := oy
  have ox0 := o
  obtain ⟨od, oi, kvs, ivs, vs, nk, t1, t2, t3, t4, t5, t6, tc, tr, hod, hf, hoi, hfi, hI, rfl⟩ := hc
  obtain ⟨fh, cc, c1, c2, left, seen⟩ := y
  obtain ⟨oc, o1', o2', cvs, t, doc, pm, ctv, ls, n1, n2, hoc, hct, hd1, hd2, hL, rfl⟩ := hh
  obtain ⟨q0, q1, q2, q3, q4, q5, q6, q7, q8, q9⟩ := oy
  obtain ⟨o0, o1, o2, o3, o4⟩ := o
  dsimp only at q0 q1 q2 q3 q4 q5 q6 q7 q8 q9 hd1 hd2 hfe hfx hc0 hh0 o0 o1 o2 o3 o4 ⊢
  subst hfe
  intro dp un gd cn cs a ccd cl outer A₀ base h₀ L m rest s Q E B F X N T hC hcs hap hd hu hret
  have key : (PySem.Challenge.rw_fc0033_01, Mine.K) = (PySem.Challenge.rw_fc0033_01, Mine.K) := by k_fill; rfl
  clear key
  simp only [List.cons_append, List.nil_append] at N
  have hap0 := hap
  simp only [List.cons_append, List.nil_append, List.forall_mem_cons] at hap
  obtain ⟨r1, r2, r3, r4, r5, s1, s2, s3, s4, s5, s6, -⟩ := hap
  have hdd : (dd == sysModules) = false := modules_ne (by omega)
  have hdi : (di == sysModules) = false := modules_ne (by omega)
  have hks : (look kv k).isSome = false := by rw [I.mem]; exact decide_eq_false hmem
  have hki : (look ix k).isSome = false := by rw [I.memI]; exact decide_eq_false hmem
  have hl2 : (PySem.Spec.lookup (PyData.int k) (encD kv)).isSome = false := by rw [lookup_encD]; exact hks
  have hl3 : (PySem.Spec.lookup (PyData.int k) (encD ix)).isSome = false := by rw [lookup_encD]; exact hki
  have l1 : kv.length = ks.length := by have := I.data.length_eq; rwa [List.length_map] at this
  have l2 : ix.length = ks.length := by have := I.idx.1.length_eq; rwa [List.length_map] at this
  have hsz2 : (encD kv).length ≤ 64 := by rw [encD_length]; omega
  have hsz3 : (encD ix).length ≤ 64 := by rw [encD_length]; omega
  refine enter [(Str.ofString "self", .ref c), (Str.ofString "key", .int k tk), (Str.ofString "value", v), (Str.ofString "cache_setitem", .ref 735)] B F X N T hcs (by omega) (by k_is) (by k_is) (by exact binds_K (by k_in) rfl (by k_is) rfl rfl rfl) (by exact locs rfl) ?_ (by exact rfl) (by exact rfl) (by exact rfl) (by decide)
  intro g' L' h' FG' F' N' B' X' T'
  (try dsimp only)
  k_fold
  k_steps
  refine WhlIf.yes (decide_eq_true (by omega)) ?_
  k_steps
  refine unhalt ?_
  rename Below _ _ _ _ => B8
  rename Frag.In _ _ => X8
  rename Top _ _ _ _ _ _ => T8
  rename Fr _ _ _ _ => F8
  rename News _ _ _ _ => N8
  refine popitem_spec ox0 oy0 hc0 hh0 rfl hfx I hk (by omega) hd0 hsv hdr _ _ _ _ _ _ _ _ _ _ _ _ _ _ rest _ _ _ B8 F8 X8 N8 T8 hC (by exact rfl) hap0 (by exact (show dp + 1 + 1 + 20 < recursionLimit by omega)) (by exact (show un + 3 + 3 + 120 < cLine by omega)) ?_
  intro r mine h9 tk9 F9 N9 ap9 hpost
  obtain ⟨tp, sa, kt, v9, pd9, us, uk, n9, cl1, chl1, rfl, hlk, hv9, hus, hperm, hsorted, ⟨hsa1, hsa2, hsa3⟩, hc1, hh1, rfl⟩ := hpost
  have hi9 : (Int.fmod d (ks.length : Int)).toNat < ks.length := idx_lt hd0 hk
  generalize (Int.fmod d (ks.length : Int)).toNat = i9 at *
  have I9 := I.drop hi9
  have hm9 : k ∉ swapRem ks i9 := fun hq => hmem ((swapRem_perm ks i9 hi9).mem_iff.mp (List.mem_cons_of_mem _ hq))
  have hL9 : (swapRem ks i9).length + 1 = ks.length := by rw [swapRem_length]; omega
  have hL9' : ((swapRem ks i9).length : Int) + 1 = (ks.length : Int) := by omega
  generalize hks9 : swapRem ks i9 = ks9 at *
  generalize hkv9 : del kv (ks.getD i9 0) = kv9 at *
  generalize hix9 : delI ix ks i9 = ix9 at *
  obtain ⟨od1, oi1, kvs1, ivs1, vs1, nk1, u1, u2, u3, u4, u5, u6, uc, ur, hod1, hfp1, hoi1, hfi1, hI1, rfl⟩ := hc1
  dsimp only at hsa1 hsa2 hsa3 N9
  obtain ⟨rst, hrst⟩ : ∃ r, r = (tp, ({ cls := .type "tuple", data := .seq #[.int (ks.getD i9 0) kt, v9] 0 } : Obj)) :: (sa, listOf us.toArray n9) :: (chl1 ++ rest) := ⟨_, rfl⟩
  replace N9 := news_sub (l' := (c, instObj 890 dx) :: (dx, dictOf (cEs w.params u1 u2 u3 u4 u5 u6 dd (ks9.length : Int) uc room ur f di dk) 6) :: (dd, od1) :: (di, oi1) :: (dk, listOf vs1.toArray nk1) :: rst) N9 (by
    subst hrst
    intro p hp
    simp only [List.mem_cons, List.mem_append, List.cons_append, List.nil_append] at hp ⊢
    grind)
  have hqr : ∀ q ∈ rst, q.1 ≠ c ∧ q.1 ≠ dx ∧ q.1 ≠ dd ∧ q.1 ≠ di ∧ q.1 ≠ dk := by
    subst hrst
    intro q hq
    rcases List.mem_cons.mp hq with rfl | hq
    · dsimp only
      refine ⟨?_, ?_, ?_, ?_, ?_⟩ <;> exact (show @Ne Nat _ _ by omega)
    rcases List.mem_cons.mp hq with rfl | hq
    · dsimp only
      refine ⟨?_, ?_, ?_, ?_, ?_⟩ <;> exact (show @Ne Nat _ _ by omega)
    · rcases List.mem_append.mp hq with hq | hq
      · have hle := hh1.le oy0 q hq
        dsimp only at hle
        refine ⟨?_, ?_, ?_, ?_, ?_⟩ <;> exact (show @Ne Nat _ _ by omega)
      · exact ⟨r1 q hq, r2 q hq, r3 q hq, r4 q hq, r5 q hq⟩
  have z1 : ∀ q ∈ rst, q.1 ≠ c := fun q hq => (hqr q hq).1
  have z2 : ∀ q ∈ rst, q.1 ≠ dx := fun q hq => (hqr q hq).2.1
  have z3 : ∀ q ∈ rst, q.1 ≠ dd := fun q hq => (hqr q hq).2.2.1
  have z4 : ∀ q ∈ rst, q.1 ≠ di := fun q hq => (hqr q hq).2.2.2.1
  have z5 : ∀ q ∈ rst, q.1 ≠ dk := fun q hq => (hqr q hq).2.2.2.2
  clear hsz2 hsz3 hl2 hl3 hks hki l1 l2 hod hf hoi hfi N8 F8
  have hks : (look kv9 k).isSome = false := by rw [I9.mem]; exact decide_eq_false hm9
  have hki : (look ix9 k).isSome = false := by rw [I9.memI]; exact decide_eq_false hm9
  have hl2 : (PySem.Spec.lookup (PyData.int k) (encD kv9)).isSome = false := by rw [lookup_encD]; exact hks
  have hl3 : (PySem.Spec.lookup (PyData.int k) (encD ix9)).isSome = false := by rw [lookup_encD]; exact hki
  have l1 : kv9.length = ks9.length := by have := I9.data.length_eq; rwa [List.length_map] at this
  have l2 : ix9.length = ks9.length := by have := I9.idx.1.length_eq; rwa [List.length_map] at this
  have hsz2 : (encD kv9).length ≤ 64 := by rw [encD_length]; omega
  have hsz3 : (encD ix9).length ≤ 64 := by rw [encD_length]; omega
  k_steps
  refine WhlIf.no (decide_eq_false (by omega)) ?_
  k_steps
  rename Fr h₀ L _ m => F7; rename News h₀ L _ _ => N7
  rename FlatPairs _ (stored kvs1 _ _) _ => f1; rename FlatPairs _ (stored ivs1 _ _) _ => f2
  rename Obj.IsDictOf _ _ (stored kvs1 _ _) => d1; rename Obj.IsDictOf _ _ (stored ivs1 _ _) => d2
  rw [putD_encD] at f1 f2
  have hcl : (ks9.length : Int) + 1 = ((ks9 ++ [k]).length : Int) := by rw [List.length_append]; simp
  rw [List.push_toArray, hcl] at N7
  have fin : ∀ (a1 a2 a3 a4 a5 : Addr × Obj) (hh : Heap) (tk : Nat), Fr h₀ L hh m → News h₀ L hh (a1 :: a2 :: a3 :: a4 :: a5 :: rst) → a1.1 = c → a2.1 = dx → a3.1 = dd → a4.1 = di → a5.1 = dk → CacheL prog w ⟨c, dx, dd, f, di, dk⟩ room (put kv9 k pd) (put ix9 k (.int ks9.length)) (ks9 ++ [k]) [a1, a2, a3, a4, a5] → Q .none { s with heap := hh, toks := tk } := by
    intro a1 a2 a3 a4 a5 hh tk F7 N7 e1 e2 e3 e4 e5 hcc
    refine hret _ ((sa, listOf us.toArray n9) :: ([a1, a2, a3, a4, a5] ++ chl1)) _ _ F7 (news_sub N7 ?_) ?_ ⟨sa, us, uk, n9, _, chl1, hus, hperm, hsorted, ⟨hsa1, hsa2⟩, hcc, hh1, rfl⟩
    · subst hrst
      intro p hp
      simp only [List.mem_cons, List.mem_append, List.cons_append, List.nil_append] at hp ⊢
      grind
    · intro x hx q hq
      rcases List.mem_cons.mp hx with rfl | hx
      · exact ap9 _ (List.mem_cons_of_mem _ List.mem_cons_self) q hq
      rcases List.mem_append.mp hx with hx | hx
      · simp only [List.mem_cons, List.not_mem_nil, or_false] at hx
        rcases hx with rfl | rfl | rfl | rfl | rfl
        · rw [e1]; exact r1 q hq
        · rw [e2]; exact r2 q hq
        · rw [e3]; exact r3 q hq
        · rw [e4]; exact r4 q hq
        · rw [e5]; exact r5 q hq
      · exact ap9 x (List.mem_cons_of_mem _ (List.mem_cons_of_mem _ (List.mem_append_right _ hx))) q hq
  exact fin _ _ _ _ _ _ _ F7 N7 rfl rfl rfl rfl rfl ⟨_, _, _, _, _, _, _, _, _, _, _, _, _, _, d1, f1, d2, f2, hI1.append (.cons _ _ .nil), rfl⟩
end
end Mine
end
section
open PySem PySem.W PyProof.Rows PySem.Calls PyProof.V
set_option Elab.async false
set_option maxRecDepth 100000
set_option maxHeartbeats 1000000
set_option linter.unusedVariables false
set_option linter.unusedSimpArgs false
namespace Mine
local macro_rules | `(tactic| walk_at "pad 0") => `(tactic| fail)
local macro_rules | `(tactic| walk_at "pad 1") => `(tactic| fail)
local macro_rules | `(tactic| walk_at "pad 2") => `(tactic| fail)
local macro_rules | `(tactic| walk_at "pad 3") => `(tactic| fail)
local macro_rules | `(tactic| walk_at "pad 4") => `(tactic| fail)
local macro_rules | `(tactic| walk_at "pad 5") => `(tactic| fail)
local macro_rules | `(tactic| walk_at "pad 6") => `(tactic| fail)
local macro_rules | `(tactic| walk_at "pad 7") => `(tactic| fail)
local macro_rules | `(tactic| walk_at "pad 8") => `(tactic| fail)
local macro_rules | `(tactic| walk_at "pad 9") => `(tactic| fail)
theorem anew_RRN : True := by
  w_top off
  trivial
local macro_rules | `(tactic| k_all) => `(tactic| assumption)
local macro_rules | `(tactic| dict_fit) => `(tactic| omega)
local macro_rules | `(tactic| k_room) => `(tactic| ktr_room)
theorem sm_attr {prog : Program} {w : World} {A : Around} {E : Value → Shared → Prop} {s : Shared} {K : Frag} {x C L p : Addr} {h₀ : Heap} {m : Str → Option Value} {ox : Obj} {es : List DictEntry} {n : Nat} {name : Str} {fv : Value} {rest : List Value} {ex : Bool} {Q : Value → Shared → Prop} (F : Fr h₀ L s.heap m) (X₀ : K.In h₀) (I : InstAt s.heap x ox C (some (dictOf es n))) (hg : plainGet K C name = true) (hh : hasDictIn K C = true) (ha : findIn K (.ref C) name = some (some (.ref p)))
    (hgf : specialIn K (.ref p) "__get__" = some (some (.builtin "staticmethod.__get__"))) (hts : takesIn K (.ref p) = some false) (hc : copiedNames.contains name = false) (hl : getL name es = some none) (hp : recIn K p "staticmethod" = some (fv :: rest)) (hv : handedIn fv = true)
    (h : Q fv { s with toks := s.toks + 1 }) : wpAny (model prog w) A (getAttr (.ref x) name ex) Q E s :=
  get_bind (X₀.keeps F.keep) I (plainGet_of hg).1 (findObj_fn hh ha hgf hts hc (by show lookIn name (dictOf es n) = _; rw [lookIn_dict, hl])) (plainGet_of hg).2
      (wpAny_call (sm_get (s := { s with toks := s.toks + 1 }) (X₀.keeps F.keep) hp (handed_on hv h)))
local macro_rules | `(tactic| walk_at "getAttr ref") => `(tactic| (k_here; (with_reducible show wpAny _ _ (getAttr (Value.ref _) (PySem.Str.ofString "getsizeof") _) _ _ _); k_dflt (refine' sm_attr ?k1 ?k2 ?k4 ?k5 ?k6 ?k7 ?k9 ?k10 ?k11 ?k12 ?k13 ?k14 ?_; (case k1 => k_asm); (case k2 => k_asm); (case k4 => k_inst); (case k5 => k_is); (case k6 => k_is); (case k7 => k_is); (case k9 => k_is); (case k10 => k_is); (case k11 => decide +kernel); (case k12 => k_get); (case k13 => k_is); (case k14 => k_handed); k_whole)))
theorem ktn_lt_rest {d : Addr} {q : Addr × Obj} {l : List (Addr × Obj)} (h : ∀ p ∈ q :: l, p.1 < d) : AllLt d l := allLt_of fun p hp => h p (List.mem_cons_of_mem _ hp)
section
variable {prog : Program} {w : World} {p : Program} {loose : List Str} {mean : ExcName → Option Value} {mg mb : Str → Option Value}
theorem new_spec {f : Addr} {o : Obj} {room : Int} {tk : Tok} (hroom : 1 ≤ room) (hroom2 : room ≤ 8) (hf : @LT.lt Nat _ 1 f) :
    Spec prog w p loose mean mg mb 20 120 890 [.int room tk, .ref f] [(f, o)] (fun r mine => ∃ (x : CA) (cl : List (Addr × Obj)), r = .ref x.c ∧ x.f = f ∧ x.ord ∧ @LT.lt Nat _ f x.d ∧ CacheL prog w x room [] [] [] cl ∧ mine = cl ++ [(f, o)]) := by
  intro dp un gd cn cs a ccd cl outer A₀ base h₀ L m rest s Q E B F X N T hC hcs hap hd hu hret
  have key : (PySem.Challenge.rw_fc0033_01, Mine.K) = (PySem.Challenge.rw_fc0033_01, Mine.K) := by k_fill; rfl
  clear key
  simp only [List.cons_append, List.nil_append] at N
  have r1 := hap _ (.head _)
  clear hap
  refine call_cls F X N (by k_is) (by k_is) (by k_is) ?_
  intro x' d' h' F' N' l1 l2
  have l3 : @LT.lt Nat _ f d' := l1 _ (.head _)
  have l4 := ktn_lt_rest l1
  have l5 : @LT.lt Nat _ d' x' := l2
  clear l1 l2
  refine code_def (binds := [(Str.ofString "self", .ref x'), (Str.ofString "maxsize", .int room tk), (Str.ofString "choice", .ref f), (Str.ofString "getsizeof", .none)]) B F' X N' T rfl rfl hcs (by k_is) (by k_is) (by ktr_room) (by exact binds_K (by k_in) rfl (by k_is) rfl rfl rfl) (by exact locs rfl) ?_ (by exact rfl) (by exact rfl) (by exact rfl) (by decide)
  intro g' L' h'' FG' F'' N'' B' X' T'
  (try dsimp only)
  k_fold
  k_steps
  rename Fr h₀ L _ m => F9; rename News h₀ L _ _ => N9
  rename _ ∧ _ => m2
  obtain ⟨a1, a2, a3, a4, a5, a6⟩ := m2
  rename _ ∧ _ => m1
  obtain ⟨b1, b2, b3, b4, b5⟩ := m1
  rename _ ∧ _ => m0
  obtain ⟨c1, c2, c3, c4⟩ := m0
  have fin : ∀ (a1 a2 a3 a4 a5 : Addr × Obj) (hh : Heap) (tk : Nat), Fr h₀ L hh m → News h₀ L hh (a5 :: a4 :: a3 :: a1 :: a2 :: (f, o) :: rest) → a1.1 = x' → a2.1 = d' → AllLt a3.1 rest → AllLt a4.1 rest → AllLt a5.1 rest → @LT.lt Nat _ x' a3.1 → @LT.lt Nat _ a3.1 a4.1 → @LT.lt Nat _ a4.1 a5.1 → CacheL prog w ⟨x', d', a3.1, f, a4.1, a5.1⟩ room [] [] [] [a1, a2, a3, a4, a5] → Q (.ref x') { s with heap := hh, toks := tk } := by
    intro a1 a2 a3 a4 a5 hh tk F7 N7 e1 e2 q3 q4 q5 e6 e7 e8 hcc
    have w1 := ktn_ltOf l4
    have w3 := ktn_ltOf q3
    have w4 := ktn_ltOf q4
    have w5 := ktn_ltOf q5
    refine hret _ ([a1, a2, a3, a4, a5] ++ [(f, o)]) _ _ F7 (news_sub N7 ?_) ?_ ⟨⟨x', d', a3.1, f, a4.1, a5.1⟩, _, rfl, rfl, ⟨by dsimp only; omega, l5, e6, e7, e8⟩, l3, hcc, rfl⟩
    · intro p hp
      simp only [List.mem_cons, List.mem_append, List.cons_append, List.nil_append] at hp ⊢
      grind
    · intro x hx q hq
      have v1 := w1 q hq
      have v3 := w3 q hq
      have v4 := w4 q hq
      have v5 := w5 q hq
      simp only [List.mem_cons, List.mem_append, List.not_mem_nil, or_false] at hx
      rcases hx with (rfl | rfl | rfl | rfl | rfl) | rfl
      · rw [e1]; exact Nat.ne_of_lt (Nat.lt_trans v1 l5)
      · rw [e2]; exact Nat.ne_of_lt v1
      · exact Nat.ne_of_lt v3
      · exact Nat.ne_of_lt v4
      · exact Nat.ne_of_lt v5
      · exact r1 q hq
  exact fin _ _ _ _ _ _ _ F9 N9 rfl rfl (by assumption) (by assumption) (by assumption) (by assumption) (by assumption) (by assumption) ⟨_, _, [], [], [], _, _, _, _, _, _, _, _, _, by assumption, .nil, by assumption, .nil, .nil, rfl⟩
end
end Mine
end
section
open PySem PySem.W PyProof.Rows PySem.Calls PyProof.V
set_option Elab.async false
set_option maxRecDepth 100000
set_option maxHeartbeats 1000000
set_option linter.unusedVariables false
namespace Mine
theorem memX {env : Env} {L b : Addr} {outer : List Env} (hf : env.frame = some L) (hm : b ∈ (env :: outer).filterMap (·.frame)) : b = L ∨ b ∈ outer.filterMap (·.frame) := by
  obtain ⟨e, he, hb⟩ := List.mem_filterMap.mp hm
  rcases List.mem_cons.mp he with rfl | he
  · rw [hf] at hb
    exact .inl (Option.some.inj hb).symm
  · exact .inr (List.mem_filterMap.mpr ⟨e, he, hb⟩)
section
variable {prog : Program} {w : World} {A₀ A : Around} {s : Shared} {base h₀ g₀ : Heap} {env : Env} {outer : List Env} {L : Addr} {m : Str → Option Value} {news : List (Addr × Obj)} {K : Frag} {p : Program} {loose : List Str} {mean : ExcName → Option Value} {mg mb : Str → Option Value}
    {R : Result → Shared → Prop} {name qual : Str} {params : Arguments} {body : List Stmt} {scope : Scope} {dV kV doc pm cdv ct oc : Value} {an od : Option Addr} {osl : Array (Option Value)} {f : Addr} {args : Args} {binds : List (Str × Value)}
theorem enterX (B : Below A₀ base outer h₀) (F : Fr h₀ L s.heap m) (N : News h₀ L s.heap news) (hA : A.frames = some (env :: outer)) (hf : env.frame = some L) (hke : env.scope.kind = .function) :
    ∃ oL es ep, (hideAll s.heap (news.map (·.1))).get? L = some oL ∧ oL.data = .dict es ep ∧ (∀ h', h'.get? L = some oL → Heap.Ns h' L m) ∧ (∀ (sl : Array (Option Value)) h', h'.get? L = some { oL with slots := sl } → Heap.Ns h' L m) ∧
      h₀.StaysIn (hideAll s.heap (news.map (·.1))) ∧ Below A base (env :: outer) (hideAll s.heap (news.map (·.1))) := by
  have nm : ∀ b o, h₀.get? b = some o → b ∉ news.map (·.1) := fun b o e q => by
    obtain ⟨p, hp, rfl⟩ := List.mem_map.mp q
    rw [(N p hp).2.2] at e; cases e
  have st : h₀.StaysIn (hideAll s.heap (news.map (·.1))) := fun b o e => hideAll_get _ (F.keep b o e) (nm b o e)
  have hF := F.ns
  obtain ⟨oL, es, ep, hL, hLd, hLk, hLf⟩ := F.ns
  have nL : L ∉ news.map (·.1) := fun q => by
    obtain ⟨p, hp, e⟩ := List.mem_map.mp q
    exact (N p hp).2.1 e
  have hLg := hideAll_get (news.map (·.1)) hL nL
  have hnew : base.get? L = none := by
    cases hq : base.get? L with
    | none => rfl
    | some o => exact absurd (Nat.lt_of_lt_of_le (Heap.lt_size (B.stays L o hq)) F.above) (Nat.lt_irrefl _)
  have B₁ : s.heap.FunFrames base (env :: outer) := Heap.FunFrames.cons (by rw [hke]; decide) hf hF hnew (B.frames.of_keeps fun b o e _ => ⟨o, F.keep b o e, rfl⟩)
  refine ⟨oL, es, ep, hLg, hLd, fun h' e => ⟨oL, es, ep, e, hLd, hLk, hLf⟩, fun sl h' e => ⟨_, es, ep, e, hLd, hLk, hLf⟩, st, ⟨hA, fun b o e => st b o (B.stays b o e), funFrames_hideAll B₁ fun env' he b hb hf' => ?_⟩⟩
  rcases List.mem_cons.mp he with rfl | he
  · rw [hf] at hf'
    exact nL ((Option.some.inj hf' : L = b) ▸ hb)
  · obtain ⟨L₁, o₁, hf₁, ho₁⟩ := funFrames_in B.frames env' he
    rw [hf₁] at hf'
    exact nm L₁ o₁ ho₁ ((Option.some.inj hf' : L₁ = b) ▸ hb)
theorem code_T (B : Below A₀ base outer h₀) (F : Fr h₀ L s.heap m) (X₀ : K.In h₀) (N : News h₀ L s.heap news) (T : Top p loose mean mg mb h₀) (XB : K.In base) (TB : Top p loose mean mg mb base) (D : KtsDicts (outer.filterMap (·.frame)) h₀)
    (T0 : KtsTurn (outer.filterMap (·.frame)) g₀ h₀) (hA : A.frames = some (env :: outer))
    (ho : K.lookup f = some ⟨oc, od, .func (fnOf name qual params body scope dV kV doc pm an cdv ct), osl⟩) (hcd : codeIn K cdv qual = true) (hroom : A.depth < recursionLimit)
    (hbind : BindsTo s (fnOf name qual params body scope dV kV doc pm an cdv ct) args binds) (hloc : ∀ y ∈ binds, scope.names.lookup y.1 = some .local)
    (h : ∀ g L' h₁, Fr h₀ L g m → Fr g L' h₁ (fun y => binds.reverse.lookup y) → News g L' h₁ news → Below A base (env :: outer) g → K.In g → Top p loose mean mg mb g → KtsDicts ((env :: outer).filterMap (·.frame)) g →
      wpAny (model prog w) (A.deeper (envOf qual scope L' f cdv)) (execs body (envOf qual scope L' f cdv))
        (fun fl s' => LeaveS ((env :: outer).filterMap (·.frame)) A₀ base outer K p loose mean mg mb g₀ h₀ L m g R (match fl with | .ret v => v | _ => .none) s')
        (fun e s' => wpAny (model prog w) (A.deeper (envOf qual scope L' f cdv)) (leaving (envOf qual scope L' f cdv) e) (fun _ s'' => R (.error e) s'') (fun e' s'' => R (.error e') s'') s')
        { s with heap := h₁, toks := s.toks + binds.length })
    (hf : env.frame = some L) (hke : env.scope.kind = .function) (hco : scope.isCoroutine = false) (hgen : scope.isGenerator = false) (hk : scope.kind = .function)
    (hcell : ∀ x ∈ scope.names, x.2 ≠ .cell) : codeAny (model prog w) A (.call (.ref f) args) R s := by
  have X := X₀.keeps F.keep
  refine codeAny_call_def (fd := fnOf name qual params body scope dV kV doc pm an cdv ct) (body := body) (binds := binds) hroom (X _ _ ho) rfl (T.nolimit.keeps F.keep) (codeRec_of X hcd) rfl hbind hcell hloc (fun h₁ hns hk₁ => ?_) hco hgen hk
  obtain ⟨oL, es, ep, hLg, hLd, hN, hNs, st, B₂⟩ := enterX B F N hA hf hke
  refine wpAny_mono (h _ s.heap.objs.size h₁ ⟨hN _ hLg, st, F.above⟩ ⟨hns, fun b o e => hk₁ b o (of_hideAll _ e), Nat.le_of_eq (hideAll_size _ _)⟩
    (fun p hp => ⟨hk₁ _ _ (N p hp).1, Nat.ne_of_lt (Heap.lt_size (N p hp).1), hideAll_none _ (List.mem_map_of_mem hp)⟩) B₂ (X₀.keeps st) (T.keeps st) (fun b hb => by
      rcases memX hf hb with rfl | hb
      · exact ⟨oL, es, ep, hLg, hLd⟩
      · obtain ⟨o, es', n', ho', hd'⟩ := D b hb
        exact ⟨o, es', n', st b o ho', hd'⟩)) (fun fl s' hl => ?_) fun _ _ y => y
  have nL₀ : h₀.get? L = none := kts_self F
  rcases hl with ⟨L', m', news', F', N', k⟩ | ⟨g', L', m', news', T', F', N', k⟩
  · refine k ⟨hN _ (F'.keep _ _ hLg), fun b o e => F'.keep b o (st b o e), F.above⟩ fun p hp => ⟨(N' p hp).1, fun q => ?_, ?_⟩
    · have := (N' p hp).2.2; rw [q, hLg] at this; cases this
    · cases q : h₀.get? p.1 with
      | none => rfl
      | some o => have := (N' p hp).2.2; rw [st _ _ q] at this; cases this
  obtain ⟨sl, hs⟩ := T'.up hLg
  obtain ⟨T₁, S₁⟩ := kts_turn_at (h := s'.heap) (fs := outer.filterMap (·.frame)) (g := h₀)
    (fun b hb => by
      obtain ⟨_, o, ho', _⟩ := B.frames.mem hb
      exact ⟨o, ho'⟩)
    (fun b o e nmem => F'.keep b o (T'.other b o (st b o e) (fun q => by
      rcases memX hf q with z | z
      · rw [z, nL₀] at e
        cases e
      · exact nmem z)))
    (fun b o e hm => by
      obtain ⟨sl', hs'⟩ := T'.up (st b o e)
      exact ⟨sl', F'.keep _ _ hs'⟩)
  have B₃ : Below A₀ base outer (ktsHeap s'.heap (outer.filterMap (·.frame)) h₀) := ⟨B.stack, fun b o e => T₁.other b o (B.stays b o e) (fun hm => by
    rw [(B.frames.mem hm).1] at e
    cases e), B.frames.of_keeps fun b o e _ => by
    obtain ⟨sl', hs'⟩ := T₁.up e
    exact ⟨_, hs', rfl⟩⟩
  refine k _ (T0.trans T₁) ⟨hNs sl _ (F'.keep _ _ hs), S₁, by rw [T₁.size]; exact F.above⟩ (fun p hp => ⟨(N' p hp).1, fun q => ?_, ?_⟩) B₃ (XB.keeps B₃.stays) (TB.keeps B₃.stays) (D.turn T₁)
  · have := (N' p hp).2.2; rw [q, hs] at this; cases this
  · refine T₁.none_ _ ?_
    cases q : h₀.get? p.1 with
    | none => rfl
    | some o =>
      obtain ⟨sl', hs'⟩ := T'.up (st _ _ q)
      have := (N' p hp).2.2
      rw [hs'] at this
      cases this
end
section
variable (prog : Program) (w : World) (p : Program) (loose : List Str) (mean : ExcName → Option Value) (mg mb : Str → Option Value)
abbrev SpecT (D U : Nat) (f : Addr) (pos : List Value) (pre : List (Addr × Obj)) (post : Value → List (Addr × Obj) → Prop) : Prop :=
  ∀ (dp un : Nat) (gd : Option (List Code)) (cn : Str) (cs : Scope) (a : Addr) (ccd : Value) (cl : List (Str × Addr)) (outer : List Env) (A₀ : Around) (base h₀ : Heap) (L : Addr) (m : Str → Option Value) (rest : List (Addr × Obj)) (s : Shared)
    (Q E : Value → Shared → Prop),
    Below A₀ base outer h₀ → Fr h₀ L s.heap m → (K w.params).In h₀ → News h₀ L s.heap (pre ++ rest) → Top p loose mean mg mb h₀ → (K w.params).In base → Top p loose mean mg mb base → KtsDicts (outer.filterMap (·.frame)) h₀ → CodeHd base 905 901 → cs.kind = .function → (∀ x ∈ pre, ∀ q ∈ rest, q.1 ≠ x.1) → dp + D < recursionLimit → un + U < cLine →
    (∀ r mine h₀' h' tk', KtsTurn (outer.filterMap (·.frame)) h₀ h₀' → Fr h₀' L h' m → News h₀' L h' (mine ++ rest) → Below A₀ base outer h₀' → (K w.params).In h₀' → Top p loose mean mg mb h₀' → KtsDicts (outer.filterMap (·.frame)) h₀' → (∀ x ∈ mine, ∀ q ∈ rest, q.1 ≠ x.1) → post r mine → Q r { s with heap := h', toks := tk' }) →
    wpAny (model prog w) (ktrTop dp un gd cn cs L a ccd cl outer) (call (.ref f) pos) Q E s
end
section
variable {prog : Program} {w : World} {p : Program} {loose : List Str} {mean : ExcName → Option Value} {mg mb : Str → Option Value}
theorem enterT {dp un : Nat} {gd : Option (List Code)} {cn : Str} {cs : Scope} {a : Addr} {ccd : Value} {cl : List (Str × Addr)} {outer : List Env} {A₀ : Around} {base h₀ : Heap} {L : Addr} {m : Str → Option Value} {news : List (Addr × Obj)} {s : Shared}
    {Q E : Value → Shared → Prop} {name qual : Str} {params : Arguments} {body : List Stmt} {scope : Scope} {dV kV doc pm cdv ct oc : Value} {an od : Option Addr} {osl : Array (Option Value)} {f : Addr} {pos : List Value} {kw : List (Str × Value)} (binds : List (Str × Value))
    (B : Below A₀ base outer h₀) (F : Fr h₀ L s.heap m) (X : (K w.params).In h₀) (N : News h₀ L s.heap news) (T : Top p loose mean mg mb h₀) (XB : (K w.params).In base) (TB : Top p loose mean mg mb base) (D : KtsDicts (outer.filterMap (·.frame)) h₀) (hcs : cs.kind = .function) (hroom : dp < recursionLimit)
    (ho : (K w.params).lookup f = some ⟨oc, od, .func (fnOf name qual params body scope dV kV doc pm an cdv ct), osl⟩) (hcd : codeIn (K w.params) cdv qual = true)
    (hbind : BindsTo s (fnOf name qual params body scope dV kV doc pm an cdv ct) ⟨pos, kw⟩ binds) (hloc : ∀ y ∈ binds, scope.names.lookup y.1 = some .local)
    (h : ∀ g L' h₁, Fr h₀ L g m → Fr g L' h₁ (fun y => binds.reverse.lookup y) → News g L' h₁ news → Below (ktrTop dp un gd cn cs L a ccd cl outer) base (envX cn cs L a ccd cl :: outer) g → (K w.params).In g → Top p loose mean mg mb g → KtsDicts ((envX cn cs L a ccd cl :: outer).filterMap (·.frame)) g →
      wpAny (model prog w) (ktrTop (dp + 1) (un + 3) gd qual scope L' f cdv [] (envX cn cs L a ccd cl :: outer)) (execs body (envOf qual scope L' f cdv))
        (fun fl s' => LeaveS ((envX cn cs L a ccd cl :: outer).filterMap (·.frame)) A₀ base outer (K w.params) p loose mean mg mb h₀ h₀ L m g (fun r s' => match r with | .ok (.ret v) => Q v s' | .ok _ => False | .error e => E e s') (match fl with | .ret v => v | _ => .none) s')
        (fun e s' => wpAny (model prog w) (ktrTop (dp + 1) (un + 3) gd qual scope L' f cdv [] (envX cn cs L a ccd cl :: outer)) (leaving (envOf qual scope L' f cdv) e) (fun _ s'' => E e s'') (fun e' s'' => E e' s'') s')
        { s with heap := h₁, toks := s.toks + binds.length })
    (hco : scope.isCoroutine = false) (hgen : scope.isGenerator = false) (hk : scope.kind = .function)
    (hcell : ∀ x ∈ scope.names, x.2 ≠ .cell) :
    wpAny (model prog w) (ktrTop dp un gd cn cs L a ccd cl outer) (call (.ref f) pos kw) Q E s :=
  wpAny_call (code_T (binds := binds) B F X N T XB TB D KtsTurn.refl rfl ho hcd hroom hbind hloc h rfl hcs hco hgen hk hcell)
end
end Mine
end
section
open PySem PySem.W PyProof.Rows PySem.Calls PyProof.V
set_option Elab.async false
set_option maxRecDepth 100000
set_option maxHeartbeats 1000000
set_option linter.unusedVariables false
set_option linter.unusedSimpArgs false
namespace Mine
theorem anew_RRD : True := by
  w_top off
  trivial
structure St where
  kv : KV
  ks : List Int
  dr : List Int
def posOf (ks : List Int) (k : Int) : Nat := ks.findIdx (fun x => decide (x = k))
def St.pick (S : St) : Nat := (Int.fmod (S.dr.headD 0) S.ks.length).toNat
def St.dropAt (S : St) (i : Nat) : St := ⟨del S.kv (S.ks.getD i 0), swapRem S.ks i, S.dr⟩
def St.pop (S : St) : St := ⟨del S.kv (S.ks.getD S.pick 0), swapRem S.ks S.pick, S.dr.tail⟩
def St.add (S : St) (k : Int) (v : PyData) : St := ⟨put S.kv k v, S.ks ++ [k], S.dr⟩
def St.deed (room : Int) (S : St) (kind key : Int) (v : PyData) : St × Bool :=
  if kind < 4 then if key ∈ S.ks then (⟨put S.kv key v, S.ks, S.dr⟩, true) else if (S.ks.length : Int) < room then (S.add key v, true) else (S.pop.add key v, true)
  else if kind = 4 ∨ kind = 5 then if key ∈ S.ks then (S.dropAt (posOf S.ks key), true) else (S, false)
  else if kind = 6 then if S.ks = [] then (S, false) else (S.pop, true)
  else (⟨[], [], S.dr⟩, true)
theorem posOf_spec {ks : List Int} {k : Int} (h : k ∈ ks) : posOf ks k < ks.length ∧ ks.getD (posOf ks k) 0 = k := by
  have hx : posOf ks k < ks.length := List.findIdx_lt_length_of_exists ⟨k, h, decide_eq_true rfl⟩
  refine ⟨hx, ?_⟩
  have := List.findIdx_getElem (w := hx)
  rw [List.getD_eq_getElem?_getD, List.getElem?_eq_getElem hx]
  exact of_decide_eq_true this
def CacheI (prog : Program) (w : World) (x : CA) (room : Int) (S : St) (l : List (Addr × Obj)) : Prop := ∃ ix, Inv S.kv ix S.ks ∧ CacheL prog w x room S.kv ix S.ks l
def DeedPost (prog : Program) (w : World) (x : CA) (y : HA) (room : Int) (sv : List Value) (R : St × Bool) (r : Value) (mine : List (Addr × Obj)) : Prop :=
  ∃ (sv' : List Value) (cl1 chl1 : List (Addr × Obj)), r = .bool R.2 ∧ CacheI prog w x room R.1 cl1 ∧ ChoiceL y R.1.dr sv' chl1 ∧ sv'.length ≤ sv.length + 1 ∧ (R.2 = false → sv' = sv) ∧ mine = cl1 ++ chl1
local macro_rules | `(tactic| k_all) => `(tactic| assumption)
local macro_rules | `(tactic| dict_fit) => `(tactic| omega)
local macro_rules | `(tactic| k_room) => `(tactic| ktr_room)
local macro_rules | `(tactic| walk_at "delItem ref int") => `(tactic| (k_here; (with_reducible show wpAny _ _ (delItem (Value.ref _) _) _ _ _); k_dflt (refine' del_inst ?Fd ?Xd ?Id ?hQd ?hSd ?hFd ?_; (case Fd => k_asm); (case Xd => k_asm); (case Id => k_inst); (case hSd => k_is); (case hFd => k_is); (case hQd => k_is); k_whole)))
local macro_rules | `(tactic| walk_at "call ref") => `(tactic| ((with_reducible show wpAny _ _ (call (Value.ref _) _ _) _ _ _); refine halt ?_))
section
variable {prog : Program} {w : World} {p : Program} {loose : List Str} {mean : ExcName → Option Value} {mg mb : Str → Option Value}
theorem deed_spec {x : CA} {y : HA} {room kind key val : Int} {t1 t2 t3 : Tok} {S : St} {sv : List Value} {pre chl : List (Addr × Obj)} (o : x.ord) (oy : y.ord) (hc : CacheI prog w x room S pre) (hh : ChoiceL y S.dr sv chl) (hfe : x.f = y.f) (hfx : @LT.lt Nat _ y.f x.d) (hroom : 1 ≤ room) (hroom2 : room ≤ 4) (hle : (S.ks.length : Int) ≤ room) (hdr : S.ks ≠ [] → S.dr ≠ []) (hd0 : ∀ d ∈ S.dr, 0 ≤ d) (hdl : S.dr.length ≤ 100) (hsv : sv.length ≤ 90) :
    SpecT prog w p loose mean mg mb 60 400 913 [.ref x.c, .int kind t1, .int key t2, .int val t3] (pre ++ chl) (DeedPost prog w x y room sv (S.deed room kind key (.int val))) := by
  obtain ⟨kv, ks, dr⟩ := S
  obtain ⟨ix, I, hc⟩ := hc
  dsimp only at I hc hh hle hdr hd0 hdl
  obtain ⟨c, dx, dd, f, di, dk⟩ := x
  have hc0 := hc
  obtain ⟨od, oi, kvs, ivs, vs, nk, u1, u2, u3, u4, u5, u6, uc, ur, hod, hf, hoi, hfi, hI, rfl⟩ := hc
  have ox := o
  obtain ⟨o0, o1, o2, o3, o4⟩ := o
  dsimp only at o0 o1 o2 o3 o4 hc0 hfe hfx ⊢
  intro dp un gd cn cs a ccd cl outer A₀ base h₀ L m rest s Q E B F X N T XB TB D hC hcs hap hd hu hret
  have key : (PySem.Challenge.rw_fc0033_01, Mine.K) = (PySem.Challenge.rw_fc0033_01, Mine.K) := by k_fill; rfl
  clear key
  have hap0 := hap
  have N0 := N
  simp only [List.cons_append, List.nil_append] at N
  obtain ⟨rst, hrst⟩ : ∃ r, r = chl ++ rest := ⟨_, rfl⟩
  rw [← hrst] at N
  refine enterT [(Str.ofString "cache", .ref c), (Str.ofString "kind", .int kind t1), (Str.ofString "key", .int key t2), (Str.ofString "value", .int val t3)] B F X N T XB TB D hcs (by omega) (by k_is) (by k_is) (by exact BindsTo.of_eq rfl) (by exact locs rfl) ?_ (by exact rfl) (by exact rfl) (by exact rfl) (by decide)
  intro g' L' h' FG' F' N' B' X' T' D'
  (try dsimp only)
  k_fold
  have hapA : ∀ x ∈ [(c, instObj 890 dx), (dx, dictOf (cEs w.params u1 u2 u3 u4 u5 u6 dd (ks.length : Int) uc room ur f di dk) 6), (dd, od), (di, oi), (dk, listOf vs.toArray nk)], ∀ q ∈ chl ++ rest, q.1 ≠ x.1 := by
    intro x hx q hq
    rcases List.mem_append.mp hq with hq | hq
    · have hle := hh.le oy q hq
      simp only [List.mem_cons, List.not_mem_nil, or_false] at hx
      rcases hx with rfl | rfl | rfl | rfl | rfl <;> exact (show @Ne Nat _ _ by dsimp only; omega)
    · exact hap0 x (List.mem_append_left _ hx) q hq
  have hcA : ∀ q ∈ chl, @LT.lt Nat _ q.1 dx := fun q hq => Nat.lt_of_le_of_lt (hh.le oy q hq) hfx
  have fin1 : ∀ (R : St × Bool) (r : Value) (sv' : List Value) (cl1 chl1 : List (Addr × Obj)) (hh : Heap) (tk : Nat), St.deed room ⟨kv, ks, dr⟩ kind key (.int val) = R → Fr h₀ L hh m → News h₀ L hh ((cl1 ++ chl1) ++ rest) → (∀ x ∈ cl1 ++ chl1, ∀ q ∈ rest, q.1 ≠ x.1) → r = .bool R.2 → CacheI prog w ⟨c, dx, dd, f, di, dk⟩ room R.1 cl1 → ChoiceL y R.1.dr sv' chl1 → sv'.length ≤ sv.length + 1 → (R.2 = false → sv' = sv) → Q r { s with heap := hh, toks := tk } := by
    intro R r sv' cl1 chl1 hh tk e F N ap e2 hc hch hl hz
    exact hret r _ h₀ hh tk KtsTurn.refl F N B X T D ap (by rw [e]; exact ⟨sv', cl1, chl1, e2, hc, hch, hl, hz, rfl⟩)
  have fin2 : ∀ (R : St × Bool) (r : Value) (sv' : List Value) (cl1 chl1 : List (Addr × Obj)) (hh : Heap) (tk : Nat) (h₀' : Heap), KtsTurn (outer.filterMap (·.frame)) h₀ h₀' → Below A₀ base outer h₀' → (K w.params).In h₀' → Top p loose mean mg mb h₀' → KtsDicts (outer.filterMap (·.frame)) h₀' → St.deed room ⟨kv, ks, dr⟩ kind key (.int val) = R → Fr h₀' L hh m → News h₀' L hh ((cl1 ++ chl1) ++ rest) → (∀ x ∈ cl1 ++ chl1, ∀ q ∈ rest, q.1 ≠ x.1) → r = .bool R.2 → CacheI prog w ⟨c, dx, dd, f, di, dk⟩ room R.1 cl1 → ChoiceL y R.1.dr sv' chl1 → sv'.length ≤ sv.length + 1 → (R.2 = false → sv' = sv) → Q r { s with heap := hh, toks := tk } := by
    intro R r sv' cl1 chl1 hh tk h₀' kT kB kX kP kD e F N ap e2 hc hch hl hz
    exact hret r _ h₀' hh tk kT F N kB kX kP kD ap (by rw [e]; exact ⟨sv', cl1, chl1, e2, hc, hch, hl, hz, rfl⟩)
  have apM : ∀ (mine : List (Addr × Obj)), (∀ x ∈ mine, ∀ q ∈ chl ++ rest, q.1 ≠ x.1) → ∀ x ∈ mine ++ chl, ∀ q ∈ rest, q.1 ≠ x.1 := by
    intro mine h x hx q hq
    rcases List.mem_append.mp hx with hx | hx
    · exact h x hx q (List.mem_append_right _ hq)
    · exact hap0 x (List.mem_append_right _ hx) q hq
  have hdh : ks ≠ [] → dr = dr.headD 0 :: dr.tail := by
    intro hks
    cases dr with
    | nil => exact absurd rfl (hdr hks)
    | cons a b => rfl
  have hd00 : 0 ≤ dr.headD 0 := by
    cases dr with
    | nil => exact Int.le_refl 0
    | cons a b => exact hd0 _ List.mem_cons_self
  have hh' : ks ≠ [] → ChoiceL y (dr.headD 0 :: dr.tail) sv chl := fun hks => by rw [← hdh hks]; exact hh
  have hdtl : dr.tail.length ≤ 100 := by rw [List.length_tail]; omega
  k_steps
  · -- a key laid
    refine unhalt ?_
    rename Fr g' L' _ _ => F8
    rename News g' L' _ _ => N8
    by_cases hmem : key ∈ ks
    · refine setold_spec (pd := .int val) ox hc0 I (Flat.int _ _) hmem (by omega) hroom _ _ _ _ _ _ _ _ _ _ _ _ _ _ (chl ++ rest) _ _ _ B' F8 X' (by rw [hrst] at N8; exact N8) T' hC (by exact rfl) hapA (by omega) (by omega) ?_
      intro r mine h9 tk9 F9 N9 ap9 hpost
      k_steps
      rename Fr h₀ L _ _ => F7
      rename News h₀ L _ _ => N7
      exact fin1 (⟨put kv key (.int val), ks, dr⟩, true) _ sv mine chl _ _ (by unfold St.deed; rw [if_pos (by omega), if_pos hmem]) F7 (by rw [List.append_assoc]; exact N7) (apM _ ap9) rfl ⟨ix, I.put_old hmem, hpost⟩ hh (by omega) (fun h => by cases h)
    · by_cases hfull : (ks.length : Int) < room
      · refine setnew_spec (pd := .int val) ox hc0 I (Flat.int _ _) hmem (by omega) hfull (by omega) _ _ _ _ _ _ _ _ _ _ _ _ _ _ (chl ++ rest) _ _ _ B' F8 X' (by rw [hrst] at N8; exact N8) T' hC (by exact rfl) hapA (by omega) (by omega) ?_
        intro r mine h9 tk9 F9 N9 ap9 hpost
        k_steps
        rename Fr h₀ L _ _ => F7
        rename News h₀ L _ _ => N7
        exact fin1 (St.add ⟨kv, ks, dr⟩ key (.int val), true) _ sv mine chl _ _ (by unfold St.deed; rw [if_pos (by omega), if_neg hmem, if_pos hfull]) F7 (by rw [List.append_assoc]; exact N7) (apM _ ap9) rfl ⟨_, I.put_new hmem, hpost⟩ hh (by omega) (fun h => by cases h)
      · have hk0 : 0 < ks.length := by omega
        have hpk : (Int.fmod (dr.headD 0) (ks.length : Int)).toNat < ks.length := idx_lt hd00 hk0
        refine setfull_spec (pd := .int val) ox oy hc0 (hh' (List.ne_nil_of_length_pos hk0)) hfe hfx I (Flat.int _ _) hmem hk0 (by omega) (by omega) hd00 (by omega) hdtl _ _ _ _ _ _ _ _ _ _ _ _ _ _ rest _ _ _ B' F8 X' (by rw [hrst] at N8; exact N8) T' hC (by exact rfl) hap0 (by omega) (by omega) ?_
        intro r mine h9 tk9 F9 N9 ap9 hpost
        obtain ⟨sa, us, uk, n9, cl1, chl1, hus, hperm, hsorted, ⟨hsa1, hsa2⟩, hc1, hh1, rfl⟩ := hpost
        k_steps
        rename Fr h₀ L _ _ => F7
        rename News h₀ L _ _ => N7
        have hm9 : key ∉ swapRem ks (Int.fmod (dr.headD 0) (ks.length : Int)).toNat := fun hq => hmem ((swapRem_perm ks _ hpk).mem_iff.mp (List.mem_cons_of_mem _ hq))
        exact fin1 ((St.pop ⟨kv, ks, dr⟩).add key (.int val), true) _ (sv ++ [Value.ref sa]) cl1 chl1 _ _ (by unfold St.deed; rw [if_pos (by omega), if_neg hmem, if_neg hfull]) F7 (news_sub N7 fun p hp => List.mem_cons_of_mem _ hp) (fun x hx => ap9 x (List.mem_cons_of_mem _ hx)) rfl ⟨_, (I.drop hpk).put_new hm9, hc1⟩ hh1 (by rw [List.length_append]; simp) (fun h => by cases h)
  · -- del
    refine unhalt ?_
    rename Fr g' L' _ _ => F8
    rename News g' L' _ _ => N8
    by_cases hmem : key ∈ ks
    · obtain ⟨hp1, hp2⟩ := posOf_spec hmem
      refine rdel_spec (i := posOf ks key) ox hc0 I hp1 hp2 (by omega) _ _ _ _ _ _ _ _ _ _ _ _ _ _ (chl ++ rest) _ _ _ B' F8 X' (by rw [hrst] at N8; exact N8) T' hC (by exact rfl) hapA (by omega) (by omega) ?_
      intro r mine h9 tk9 F9 N9 ap9 hpost
      obtain ⟨rfl, hpost⟩ := hpost
      k_steps
      rename Fr h₀ L _ _ => F7
      rename News h₀ L _ _ => N7
      exact fin1 (St.dropAt ⟨kv, ks, dr⟩ (posOf ks key), true) _ sv mine chl _ _ (by unfold St.deed; rw [if_neg (by omega), if_pos (by omega), if_pos hmem]) F7 (by rw [List.append_assoc]; exact N7) (apM _ ap9) rfl ⟨_, I.drop hp1, by show CacheL prog w _ room (del kv (ks.getD (posOf ks key) 0)) _ _ _; rw [hp2]; exact hpost⟩ hh (by omega) (fun h => by cases h)
    · refine rdelx_spec ox hc0 I hmem (by omega) _ _ _ _ _ _ _ _ _ _ _ _ _ _ (chl ++ rest) _ _ _ B' F8 X' (by rw [hrst] at N8; exact N8) T' hC (by exact rfl) hapA (by omega) (by omega) ?_
      intro e9 g9 mine h9 tk9 FG9 S9 U9 ap9 hpost
      refine caught_SN0 (T' := "KeyError") (KF := K w.params) (g₀ := g') S9 FG9 B' U9 XB TB D' KtsTurn.refl (by k_is) PyProof.Rows.Boot.«KeyError» (by decide) kr_isExc_KeyError kr_notTuple_KeyError (by kts_sub) ?_
      intro h7 g7 T7 F7 N7 B7 X7 TT7 D7
      k_steps
      rename KtsTurn _ h₀ _ => kT; rename Fr _ L _ m => kF; rename News _ L _ _ => kN; rename Below A₀ _ outer _ => kB; rename Frag.In _ _ => kX; rename Top _ _ _ _ _ _ => kP; rename KtsDicts _ _ => kD
      exact fin2 (⟨kv, ks, dr⟩, false) _ sv mine chl _ _ _ kT kB kX kP kD (by unfold St.deed; rw [if_neg (by omega), if_pos (by omega), if_neg hmem]) kF (by rw [List.append_assoc]; exact kN) (apM _ ap9) rfl ⟨_, I, hpost⟩ hh (by omega) (fun _ => rfl)
  · -- pop
    refine unhalt ?_
    rename Fr g' L' _ _ => F8
    rename News g' L' _ _ => N8
    by_cases hmem : key ∈ ks
    · obtain ⟨hp1, hp2⟩ := posOf_spec hmem
      refine pop_spec (i := posOf ks key) ox hc0 I hp1 hp2 (by omega) _ _ _ _ _ _ _ _ _ _ _ _ _ _ (chl ++ rest) _ _ _ B' F8 X' (by rw [hrst] at N8; exact N8) T' hC (by exact rfl) hapA (by omega) (by omega) ?_
      intro r mine h9 tk9 F9 N9 ap9 hpost
      k_steps
      rename Fr h₀ L _ _ => F7
      rename News h₀ L _ _ => N7
      exact fin1 (St.dropAt ⟨kv, ks, dr⟩ (posOf ks key), true) _ sv mine chl _ _ (by unfold St.deed; rw [if_neg (by omega), if_pos (by omega), if_pos hmem]) F7 (by rw [List.append_assoc]; exact N7) (apM _ ap9) rfl ⟨_, I.drop hp1, by show CacheL prog w _ room (del kv (ks.getD (posOf ks key) 0)) _ _ _; rw [hp2]; exact hpost⟩ hh (by omega) (fun h => by cases h)
    · refine popx_spec ox hc0 I hmem (by omega) _ _ _ _ _ _ _ _ _ _ _ _ _ _ (chl ++ rest) _ _ _ B' F8 X' (by rw [hrst] at N8; exact N8) T' hC (by exact rfl) hapA (by omega) (by omega) ?_
      intro e9 g9 mine h9 tk9 FG9 S9 U9 ap9 hpost
      refine caught_SN0 (T' := "KeyError") (KF := K w.params) (g₀ := g') S9 FG9 B' U9 XB TB D' KtsTurn.refl (by k_is) PyProof.Rows.Boot.«KeyError» (by decide) kr_isExc_KeyError kr_notTuple_KeyError (by kts_sub) ?_
      intro h7 g7 T7 F7 N7 B7 X7 TT7 D7
      k_steps
      rename KtsTurn _ h₀ _ => kT; rename Fr _ L _ m => kF; rename News _ L _ _ => kN; rename Below A₀ _ outer _ => kB; rename Frag.In _ _ => kX; rename Top _ _ _ _ _ _ => kP; rename KtsDicts _ _ => kD
      exact fin2 (⟨kv, ks, dr⟩, false) _ sv mine chl _ _ _ kT kB kX kP kD (by unfold St.deed; rw [if_neg (by omega), if_pos (by omega), if_neg hmem]) kF (by rw [List.append_assoc]; exact kN) (apM _ ap9) rfl ⟨_, I, hpost⟩ hh (by omega) (fun _ => rfl)
  · -- popitem
    refine unhalt ?_
    rename Fr g' L' _ _ => F8
    rename News g' L' _ _ => N8
    (try dsimp only [List.append_nil])
    by_cases hks : ks = []
    · subst hks
      refine popitemx_spec ox hc0 I _ _ _ _ _ _ _ _ _ _ _ _ _ _ (chl ++ rest) _ _ _ B' F8 X' (by rw [hrst] at N8; exact N8) T' hC (by exact rfl) hapA (by omega) (by omega) ?_
      intro e9 g9 mine h9 tk9 FG9 S9 U9 ap9 hpost
      refine caught_SN0 (T' := "KeyError") (KF := K w.params) (g₀ := g') S9 FG9 B' U9 XB TB D' KtsTurn.refl (by k_is) PyProof.Rows.Boot.«KeyError» (by decide) kr_isExc_KeyError kr_notTuple_KeyError (by kts_sub) ?_
      intro h7 g7 T7 F7 N7 B7 X7 TT7 D7
      k_steps
      rename KtsTurn _ h₀ _ => kT; rename Fr _ L _ m => kF; rename News _ L _ _ => kN; rename Below A₀ _ outer _ => kB; rename Frag.In _ _ => kX; rename Top _ _ _ _ _ _ => kP; rename KtsDicts _ _ => kD
      exact fin2 (⟨kv, [], dr⟩, false) _ sv mine chl _ _ _ kT kB kX kP kD (by unfold St.deed; rw [if_neg (by omega), if_neg (by omega), if_pos (by omega), if_pos rfl]) kF (by rw [List.append_assoc]; exact kN) (apM _ ap9) rfl ⟨_, I, hpost⟩ hh (by omega) (fun _ => rfl)
    · have hk0 : 0 < ks.length := List.length_pos_iff.mpr hks
      have hpk : (Int.fmod (dr.headD 0) (ks.length : Int)).toNat < ks.length := idx_lt hd00 hk0
      refine popitem_spec ox oy hc0 (hh' hks) hfe hfx I hk0 (by omega) hd00 (by omega) hdtl _ _ _ _ _ _ _ _ _ _ _ _ _ _ rest _ _ _ B' F8 X' (by rw [hrst] at N8; exact N8) T' hC (by exact rfl) hap0 (by omega) (by omega) ?_
      intro r mine h9 tk9 F9 N9 ap9 hpost
      obtain ⟨tp, sa, kt, v9, pd9, us, uk, n9, cl1, chl1, rfl, hlk, hv9, hus, hperm, hsorted, hsa, hc1, hh1, rfl⟩ := hpost
      k_steps
      rename Fr h₀ L _ _ => F7
      rename News h₀ L _ _ => N7
      exact fin1 (St.pop ⟨kv, ks, dr⟩, true) _ (sv ++ [Value.ref sa]) cl1 chl1 _ _ (by unfold St.deed; rw [if_neg (by omega), if_neg (by omega), if_pos (by omega), if_neg hks]) F7 (news_sub N7 fun p hp => List.mem_cons_of_mem _ (List.mem_cons_of_mem _ hp)) (fun x hx => ap9 x (List.mem_cons_of_mem _ (List.mem_cons_of_mem _ hx))) rfl ⟨_, I.drop hpk, hc1⟩ hh1 (by rw [List.length_append]; simp) (fun h => by cases h)
  · -- clear
    refine unhalt ?_
    rename Fr g' L' _ _ => F8
    rename News g' L' _ _ => N8
    (try dsimp only [List.append_nil])
    refine clear_spec ox hc0 I (by omega) _ _ _ _ _ _ _ _ _ _ _ _ _ _ (chl ++ rest) _ _ _ B' F8 X' (by rw [hrst] at N8; exact N8) T' hC (by exact rfl) hapA (by omega) (by omega) ?_
    intro r mine h9 tk9 F9 N9 ap9 hpost
    k_steps
    rename Fr h₀ L _ _ => F7
    rename News h₀ L _ _ => N7
    exact fin1 (⟨[], [], dr⟩, true) _ sv mine chl _ _ (by unfold St.deed; rw [if_neg (by omega), if_neg (by omega), if_neg (by omega)]) F7 (by rw [List.append_assoc]; exact N7) (apM _ ap9) rfl ⟨_, Inv.nil, hpost⟩ hh (by omega) (fun h => by cases h)
end
end Mine
end
section
set_option maxHeartbeats 400000
namespace Mine
theorem deed_ok {room : Int} (h1 : 1 ≤ room) {S : St} (hk : (S.ks.length : Int) ≤ room) (hd : ∀ d ∈ S.dr, 0 ≤ d) (kind key : Int) (v : PySem.PyData) :
    (((S.deed room kind key v).1.ks.length : Int) ≤ room) ∧ (∀ d ∈ (S.deed room kind key v).1.dr, 0 ≤ d) ∧ (S.deed room kind key v).1.dr.length ≤ S.dr.length ∧ S.dr.length ≤ (S.deed room kind key v).1.dr.length + 1 := by
  have ht : ∀ d ∈ S.dr.tail, 0 ≤ d := fun d hq => hd d (List.mem_of_mem_tail hq)
  have htl : S.dr.tail.length = S.dr.length - 1 := List.length_tail
  unfold St.deed
  split
  · split
    · exact ⟨hk, hd, Nat.le_refl _, Nat.le_succ _⟩
    · split
      · refine ⟨?_, hd, Nat.le_refl _, Nat.le_succ _⟩
        show ((S.ks ++ [key]).length : Int) ≤ room
        rw [List.length_append]; simp; omega
      · refine ⟨?_, ht, ?_, ?_⟩
        · show ((swapRem S.ks S.pick ++ [key]).length : Int) ≤ room
          rw [List.length_append, swapRem_length]; simp; omega
        · show S.dr.tail.length ≤ _; omega
        · show _ ≤ S.dr.tail.length + 1; omega
  · split
    · split
      · refine ⟨?_, hd, Nat.le_refl _, Nat.le_succ _⟩
        show ((swapRem S.ks _).length : Int) ≤ room
        rw [swapRem_length]; omega
      · exact ⟨hk, hd, Nat.le_refl _, Nat.le_succ _⟩
    · split
      · split
        · exact ⟨hk, hd, Nat.le_refl _, Nat.le_succ _⟩
        · refine ⟨?_, ht, ?_, ?_⟩
          · show ((swapRem S.ks S.pick).length : Int) ≤ room
            rw [swapRem_length]; omega
          · show S.dr.tail.length ≤ _; omega
          · show _ ≤ S.dr.tail.length + 1; omega
      · exact ⟨by show ((0 : Nat) : Int) ≤ room; omega, hd, Nat.le_refl _, Nat.le_succ _⟩
def runD (room : Int) (S : St) (Ds : List (Int × Int × Int)) : St := Ds.foldl (fun S d => (S.deed room d.1 d.2.1 (.int d.2.2)).1) S
theorem runD_take (room : Int) (S : St) (Ds : List (Int × Int × Int)) (i : Nat) {a b c : Int} (h : Ds[i]? = some (a, b, c)) : runD room S (Ds.take (i + 1)) = ((runD room S (Ds.take i)).deed room a b (.int c)).1 := by
  unfold runD
  rw [List.take_add_one, h, List.foldl_append]
  rfl
theorem runD_ok {room : Int} (h1 : 1 ≤ room) {S : St} (hk : (S.ks.length : Int) ≤ room) (hd : ∀ d ∈ S.dr, 0 ≤ d) (Ds : List (Int × Int × Int)) : ∀ i, i ≤ Ds.length →
    (((runD room S (Ds.take i)).ks.length : Int) ≤ room) ∧ (∀ d ∈ (runD room S (Ds.take i)).dr, 0 ≤ d) ∧ (runD room S (Ds.take i)).dr.length ≤ S.dr.length ∧ S.dr.length ≤ (runD room S (Ds.take i)).dr.length + i
  | 0, _ => by rw [List.take_zero]; exact ⟨hk, hd, Nat.le_refl _, Nat.le_refl _⟩
  | i + 1, hi => by
    obtain ⟨a, b, c, d⟩ := runD_ok h1 hk hd Ds i (by omega)
    obtain ⟨a0, b0, c0, he⟩ : ∃ a b c, Ds[i]? = some (a, b, c) := ⟨_, _, _, List.getElem?_eq_getElem (by omega)⟩
    rw [runD_take room S Ds i he]
    obtain ⟨a', b', c', d'⟩ := deed_ok h1 a b a0 b0 (.int c0)
    exact ⟨a', b', by omega, by omega⟩
end Mine
end
section
open PySem PySem.W PyProof.Rows PySem.Calls PyProof.V
set_option Elab.async false
set_option maxRecDepth 100000
set_option maxHeartbeats 1000000
set_option linter.unusedVariables false
set_option linter.unusedSimpArgs false
namespace Mine
local macro_rules | `(tactic| walk_at "pad 0") => `(tactic| fail)
local macro_rules | `(tactic| walk_at "pad 1") => `(tactic| fail)
local macro_rules | `(tactic| walk_at "pad 2") => `(tactic| fail)
local macro_rules | `(tactic| walk_at "pad 3") => `(tactic| fail)
local macro_rules | `(tactic| walk_at "pad 4") => `(tactic| fail)
local macro_rules | `(tactic| walk_at "pad 5") => `(tactic| fail)
local macro_rules | `(tactic| walk_at "pad 6") => `(tactic| fail)
local macro_rules | `(tactic| walk_at "pad 7") => `(tactic| fail)
local macro_rules | `(tactic| walk_at "pad 8") => `(tactic| fail)
local macro_rules | `(tactic| walk_at "pad 9") => `(tactic| fail)
theorem anew_RRH : True := by
  w_top off
  trivial
local macro_rules | `(tactic| k_all) => `(tactic| assumption)
local macro_rules | `(tactic| dict_fit) => `(tactic| omega)
local macro_rules | `(tactic| k_room) => `(tactic| ktr_room)
def fpos : Stmt → Pos
  | .FunctionDef _ _ _ _ _ _ _ _ _ pos => pos
  | _ => default
def chTab (cc : Addr) : Array Value := #[rawInt (fpos chS).line, rawInt (fpos chS).col, .ref cc]
section
variable {prog : Program} {w : World} {p : Program} {loose : List Str} {mean : ExcName → Option Value} {mg mb : Str → Option Value}
theorem mkch_spec {left seen : Addr} {n1 n2 : Nat} {ls sv : List Value} {dr : List Int} (hL : IntsAre ls dr) (q0 : @LT.lt Nat _ seen left) (q4 : @LT.lt Nat _ 901 seen) :
    Spec prog w p loose mean mg mb 20 120 906 [.ref left, .ref seen] [(901, tabObj #[]), (left, listOf ls.toArray n1), (seen, listOf sv.toArray n2)] (fun r mine => ∃ (y : HA) (chl : List (Addr × Obj)), r = .ref y.f ∧ y.left = left ∧ y.seen = seen ∧ y.ord ∧ ChoiceL y dr sv chl ∧ mine = (901, tabObj (chTab y.cc)) :: chl) := by
  intro dp un gd cn cs a ccd cl outer A₀ base h₀ L m rest s Q E B F X N T hC hcs hap hd hu hret
  have key : (PySem.Challenge.rw_fc0033_01, Mine.K) = (PySem.Challenge.rw_fc0033_01, Mine.K) := by k_fill; rfl
  clear key
  simp only [List.cons_append, List.nil_append] at N
  have r1 := hap _ (.head _)
  have r2 := hap _ (.tail _ (.head _))
  have r3 := hap _ (.tail _ (.tail _ (.head _)))
  clear hap
  dsimp only at r1 r2 r3
  refine wpAny_call (code_defC (binds := [(Str.ofString "draws", .ref left), (Str.ofString "seen", .ref seen)]) B F X N T rfl rfl hcs (by k_is) (by k_is) (show dp < recursionLimit by omega) (by exact BindsTo.of_eq rfl) (by exact rfl) (by decide +kernel) ?_ (by exact rfl) (by exact rfl) (by exact rfl))
  intro g' L' h' tk' cells' FG' F' N' Y' B' X' T' l1
  have Y := CellsAre.two Y'
  obtain ⟨o1, o2, hE', d1, d2⟩ := Y
  subst hE'
  have l2 : @LT.lt Nat _ left L' := l1 _ (.tail _ (.head _))
  have C' : CodeHd g' 905 901 := hC.keeps B'.stays
  simp only [List.cons_append, List.nil_append] at N'
  (try dsimp only)
  (try k_fold)
  k_steps
  rename Fr h₀ L _ m => F9; rename News h₀ L _ _ => N9
  rename _ < _ => m5
  rename _ ∧ _ => m4
  obtain ⟨a1, a2, a3, a4, a5, a6⟩ := m4
  have fin : ∀ (f' c' : Addr) (oc : Obj) (vs : Array Value) (t : Tok) (doc pm ctv : Value) (hh : Heap) (tk : Nat), Fr h₀ L hh m → oc.data = .fields vs → vs[1]? = some (.str (Str.ofString "_law_choice.<locals>.chosen") t) → AllLt c' rest → @LT.lt Nat _ (L' + 1 + 1) c' → @LT.lt Nat _ 901 c' → @LT.lt Nat _ left c' → @LT.lt Nat _ seen c' → @LT.lt Nat _ c' f' →
      News h₀ L hh ((f', fnMade (Str.ofString "chosen") (Str.ofString "_law_choice.<locals>.chosen") (fargs chS) (fbody chS) (fscope chS) [(Str.ofString "seen", L' + 1 + 1), (Str.ofString "draws", L' + 1)] doc pm c' ctv) :: (c', oc) :: (L' + 1 + 1, o1) :: (L' + 1, o2) :: (901, tabObj (chTab c')) :: (left, listOf ls.toArray n1) :: (seen, listOf sv.toArray n2) :: rest) → Q (.ref f') { s with heap := hh, toks := tk } := by
    intro f' c' oc vs t doc pm ctv hh tk F7 hoc hct hq b1 b2 b3 b4 b5 N7
    have w1 := ktn_ltOf hq
    have w2 : ∀ q ∈ rest, @LT.lt Nat _ q.1 L' := fun q hq => l1 q (List.mem_cons_of_mem _ (List.mem_cons_of_mem _ (List.mem_cons_of_mem _ hq)))
    generalize hfo : fnMade (Str.ofString "chosen") (Str.ofString "_law_choice.<locals>.chosen") (fargs chS) (fbody chS) (fscope chS) [(Str.ofString "seen", L' + 1 + 1), (Str.ofString "draws", L' + 1)] doc pm c' ctv = fo at N7
    refine hret _ [(901, tabObj (chTab c')), (f', fo), (c', oc), (L' + 1, o2), (L' + 1 + 1, o1), (left, listOf ls.toArray n1), (seen, listOf sv.toArray n2)] _ _ F7 (news_sub N7 ?_) ?_ ⟨⟨f', c', L' + 1, L' + 1 + 1, left, seen⟩, _, rfl, rfl, rfl, ⟨q0, by dsimp only; omega, by dsimp only; omega, by dsimp only; omega, by dsimp only; omega, by dsimp only; omega, by dsimp only; omega, by dsimp only; exact (show @Ne Nat _ _ by omega), by dsimp only; exact (show @Ne Nat _ _ by omega), by dsimp only; exact (show @Ne Nat _ _ by omega)⟩, ⟨oc, o2, o1, vs, t, doc, pm, ctv, ls, n1, n2, hoc, hct, d2, d1, hL, by subst hfo; rfl⟩, rfl⟩
    · intro p hp
      simp only [List.mem_cons, List.mem_append, List.cons_append, List.nil_append] at hp ⊢
      grind
    · intro x hx q hq
      have v1 := w1 q hq
      have v2 := w2 q hq
      simp only [List.mem_cons, List.not_mem_nil, or_false] at hx
      rcases hx with rfl | rfl | rfl | rfl | rfl | rfl | rfl
      · exact r1 q hq
      · exact (show @Ne Nat _ _ by dsimp only; omega)
      · exact (show @Ne Nat _ _ by dsimp only; omega)
      · exact (show @Ne Nat _ _ by dsimp only; omega)
      · exact (show @Ne Nat _ _ by dsimp only; omega)
      · exact r2 q hq
      · exact r3 q hq
  rw [Array.empty_append] at N9
  exact fin _ _ _ _ _ _ _ _ _ _ F9 (by assumption) (by assumption) a6 a1 a3 a4 a5 m5 N9
end
end Mine
end
section
open PySem PySem.W PyProof.Rows PySem.Calls PyProof.V
set_option Elab.async false
set_option maxRecDepth 100000
set_option maxHeartbeats 1000000
set_option linter.unusedVariables false
set_option linter.unusedSimpArgs false
namespace Mine
theorem anew_RRH2 : True := by
  w_top off
  trivial
local macro_rules | `(tactic| k_all) => `(tactic| assumption)
local macro_rules | `(tactic| dict_fit) => `(tactic| omega)
local macro_rules | `(tactic| k_room) => `(tactic| ktr_room)
section
variable {prog : Program} {w : World} {p : Program} {loose : List Str} {mean : ExcName → Option Value} {mg mb : Str → Option Value}
theorem mkch2_spec {left seen cc : Addr} {oc : Obj} {cvs : Array Value} {ct : Tok} (hoc : oc.data = .fields cvs) (hct : cvs[1]? = some (.str (Str.ofString "_law_choice.<locals>.chosen") ct)) (q1 : @LT.lt Nat _ seen cc) (q2 : @LT.lt Nat _ cc left) {n1 n2 : Nat} {ls sv : List Value} {dr : List Int} (hL : IntsAre ls dr) (q0 : @LT.lt Nat _ seen left) (q4 : @LT.lt Nat _ 901 seen) :
    Spec prog w p loose mean mg mb 20 120 906 [.ref left, .ref seen] [(901, tabObj (chTab cc)), (cc, oc), (left, listOf ls.toArray n1), (seen, listOf sv.toArray n2)] (fun r mine => ∃ (y : HA) (chl : List (Addr × Obj)), r = .ref y.f ∧ y.cc = cc ∧ y.left = left ∧ y.seen = seen ∧ y.ord ∧ ChoiceL y dr sv chl ∧ mine = (901, tabObj (chTab cc)) :: chl) := by
  intro dp un gd cn cs a ccd cl outer A₀ base h₀ L m rest s Q E B F X N T hC hcs hap hd hu hret
  have key : (PySem.Challenge.rw_fc0033_01, Mine.K) = (PySem.Challenge.rw_fc0033_01, Mine.K) := by k_fill; rfl
  clear key
  simp only [List.cons_append, List.nil_append] at N
  have r1 := hap _ (.head _)
  have r2 := hap _ (.tail _ (.head _))
  have r3 := hap _ (.tail _ (.tail _ (.head _)))
  have r4 := hap _ (.tail _ (.tail _ (.tail _ (.head _))))
  clear hap
  dsimp only at r1 r2 r3 r4
  have hl4 : fpos chS = ⟨524, 4, (fpos chS).endLine, (fpos chS).endCol⟩ := rfl
  unfold chTab at N
  rw [hl4] at N
  dsimp only at N
  refine wpAny_call (code_defC (binds := [(Str.ofString "draws", .ref left), (Str.ofString "seen", .ref seen)]) B F X N T rfl rfl hcs (by k_is) (by k_is) (show dp < recursionLimit by omega) (by exact BindsTo.of_eq rfl) (by exact rfl) (by decide +kernel) ?_ (by exact rfl) (by exact rfl) (by exact rfl))
  intro g' L' h' tk' cells' FG' F' N' Y' B' X' T' l1
  have Y := CellsAre.two Y'
  obtain ⟨o1, o2, hE', d1, d2⟩ := Y
  subst hE'
  have l2 : @LT.lt Nat _ left L' := l1 _ (.tail _ (.tail _ (.head _)))
  have C' : CodeHd g' 905 901 := hC.keeps B'.stays
  simp only [List.cons_append, List.nil_append] at N'
  (try dsimp only)
  (try k_fold)
  k_steps
  rename Fr h₀ L _ m => F9; rename News h₀ L _ _ => N9
  rename _ ∧ _ => m4
  obtain ⟨a1, a2, a3, a4, a5, a6, a7⟩ := m4
  have fin : ∀ (f' : Addr) (doc pm ctv : Value) (hh : Heap) (tk : Nat), Fr h₀ L hh m → AllLt f' rest → @LT.lt Nat _ (L' + 1 + 1) f' → @LT.lt Nat _ cc f' →
      News h₀ L hh ((f', fnMade (Str.ofString "chosen") (Str.ofString "_law_choice.<locals>.chosen") (fargs chS) (fbody chS) (fscope chS) [(Str.ofString "seen", L' + 1 + 1), (Str.ofString "draws", L' + 1)] doc pm cc ctv) :: (L' + 1 + 1, o1) :: (L' + 1, o2) :: (901, tabObj (chTab cc)) :: (cc, oc) :: (left, listOf ls.toArray n1) :: (seen, listOf sv.toArray n2) :: rest) → Q (.ref f') { s with heap := hh, toks := tk } := by
    intro f' doc pm ctv hh tk F7 hq b1 b2 N7
    have w1 := ktn_ltOf hq
    have w2 : ∀ q ∈ rest, @LT.lt Nat _ q.1 L' := fun q hq => l1 q (List.mem_cons_of_mem _ (List.mem_cons_of_mem _ (List.mem_cons_of_mem _ (List.mem_cons_of_mem _ hq))))
    generalize hfo : fnMade (Str.ofString "chosen") (Str.ofString "_law_choice.<locals>.chosen") (fargs chS) (fbody chS) (fscope chS) [(Str.ofString "seen", L' + 1 + 1), (Str.ofString "draws", L' + 1)] doc pm cc ctv = fo at N7
    refine hret _ [(901, tabObj (chTab cc)), (f', fo), (cc, oc), (L' + 1, o2), (L' + 1 + 1, o1), (left, listOf ls.toArray n1), (seen, listOf sv.toArray n2)] _ _ F7 (news_sub N7 ?_) ?_ ⟨⟨f', cc, L' + 1, L' + 1 + 1, left, seen⟩, _, rfl, rfl, rfl, rfl, ⟨q0, by dsimp only; omega, by dsimp only; omega, by dsimp only; omega, by dsimp only; omega, by dsimp only; omega, by dsimp only; omega, by dsimp only; exact (show @Ne Nat _ _ by omega), by dsimp only; exact (show @Ne Nat _ _ by omega), by dsimp only; exact (show @Ne Nat _ _ by omega)⟩, ⟨oc, o2, o1, cvs, ct, doc, pm, ctv, ls, n1, n2, hoc, hct, d2, d1, hL, by subst hfo; rfl⟩, rfl⟩
    · intro p hp
      simp only [List.mem_cons, List.mem_append, List.cons_append, List.nil_append] at hp ⊢
      grind
    · intro x hx q hq
      have v1 := w1 q hq
      have v2 := w2 q hq
      simp only [List.mem_cons, List.not_mem_nil, or_false] at hx
      rcases hx with rfl | rfl | rfl | rfl | rfl | rfl | rfl
      · exact r1 q hq
      · exact (show @Ne Nat _ _ by dsimp only; omega)
      · exact r2 q hq
      · exact (show @Ne Nat _ _ by dsimp only; omega)
      · exact (show @Ne Nat _ _ by dsimp only; omega)
      · exact r3 q hq
      · exact r4 q hq
  exact fin _ _ _ _ _ _ F9 a7 a1 a4 N9
end
end Mine
end
section
open PySem PySem.W PyProof.Rows PySem.Calls PyProof.V
set_option Elab.async false
set_option maxRecDepth 100000
set_option maxHeartbeats 1000000
set_option linter.unusedVariables false
namespace Mine
section
variable {prog : Program} {w : World} {A : Around} {E : Value → Shared → Prop} {s : Shared} {env : Env} {target : Expr} {body : List Stmt} {R : Result → Shared → Prop} {I : Addr} {fp wr : List Addr} {n : Nat} {P Md : Nat → Value → Heap → Prop} {St : Nat → Heap → Prop}
theorem loop_own (W : KTurns prog w A target I fp wr n P Md St) (J : Nat → Shared → Prop) (h0 : J 0 s) (hst : ∀ i s, J i s → St i s.heap)
    (step : ∀ i v s h₁ tk₁, i < n → J i s → P i v h₁ → St (i + 1) h₁ → (∀ b o, b ∉ wr → s.heap.get? b = some o → h₁.get? b = some o) →
      wpAny (model prog w) A (assign target env v) (fun _ s₂ => wpAny (model prog w) A (execs body env)
        (fun f s₃ => match f with | .next | .cont => J (i + 1) s₃ | .brk => R (.ok .next) s₃ | .ret v => R (.ok (.ret v)) s₃) (notedBy (model prog w) A env fun e s' => R (.error e) s') s₂) (notedBy (model prog w) A env fun e s' => R (.error e) s') { s with heap := h₁, toks := tk₁ })
    (hR : ∀ s h' tk, J n s → (∀ b o, b ∉ wr → s.heap.get? b = some o → h'.get? b = some o) → R (.ok .next) { s with heap := h', toks := tk }) :
    codeAny (model prog w) A (.forLoop target (.ref I) body [] env) R s := by
  refine codeAny_forLoop_any (fun k s' => ∃ i, J i s' ∧ i ≤ n ∧ k = n + 1 - i) ?_ (n + 1) ⟨0, h0, Nat.zero_le _, rfl⟩
  rintro k s' ⟨i, hJ, hi, rfl⟩
  by_cases hlt : i < n
  · refine W.item i _ _ _ hlt (hst i _ hJ) fun v h₁ tk₁ hMd hk₁ => ?_
    refine W.go i v _ _ _ hMd fun h₂ hP hst₂ hk₂ => ?_
    refine wpAny_mono (step i v s' h₂ tk₁ hlt hJ hP hst₂ fun b o hb e => hk₂ b o hb (hk₁ b o hb e)) (fun _ s₂ h₂' => wpAny_mono h₂' (fun f s₃ h₃ => ?_) fun _ _ e => e) fun _ _ e => e
    cases f with
    | ret v => exact h₃
    | brk => exact h₃
    | cont => exact ⟨n + 1 - (i + 1), by omega, i + 1, h₃, hlt, rfl⟩
    | next => exact ⟨n + 1 - (i + 1), by omega, i + 1, h₃, hlt, rfl⟩
  · have hin : i = n := by omega
    subst hin
    exact W.done _ _ _ (hst _ _ hJ) fun h₁ tk₁ hk₁ => wpAny_execs_nil (hR _ h₁ tk₁ hJ hk₁)
end
end Mine
end
section
open PySem PySem.W PyProof.Rows PySem.Calls PyProof.V
set_option Elab.async false
set_option maxRecDepth 100000
set_option maxHeartbeats 1000000
set_option linter.unusedVariables false
set_option linter.unusedSimpArgs false
namespace Mine
local macro_rules | `(tactic| walk_at "pad 0") => `(tactic| fail)
local macro_rules | `(tactic| walk_at "pad 1") => `(tactic| fail)
local macro_rules | `(tactic| walk_at "pad 2") => `(tactic| fail)
local macro_rules | `(tactic| walk_at "pad 3") => `(tactic| fail)
local macro_rules | `(tactic| walk_at "pad 4") => `(tactic| fail)
local macro_rules | `(tactic| walk_at "pad 5") => `(tactic| fail)
local macro_rules | `(tactic| walk_at "pad 6") => `(tactic| fail)
local macro_rules | `(tactic| walk_at "pad 7") => `(tactic| fail)
local macro_rules | `(tactic| walk_at "pad 8") => `(tactic| fail)
local macro_rules | `(tactic| walk_at "pad 9") => `(tactic| fail)
theorem anew_RRMade : True := by
  w_top off
  trivial
abbrev tup3 (a b c : Value) : Obj := { cls := .type "tuple", data := .seq #[a, b, c] 0 }
inductive Tups : List (Addr × Obj) → List (Int × Int × Int) → Prop
  | nil : Tups [] []
  | cons (T : Addr) (a b c : Int) (t1 t2 t3 : Tok) {l : List (Addr × Obj)} {ds : List (Int × Int × Int)} (h : Tups l ds) : Tups ((T, tup3 (.int a t1) (.int b t2) (.int c t3)) :: l) ((a, b, c) :: ds)
def DeedsL (dl : Addr) (Ds : List (Int × Int × Int)) (l : List (Addr × Obj)) : Prop := ∃ n tl, Tups tl Ds ∧ l = (dl, listOf (tl.map fun p => Value.ref p.1).toArray n) :: tl
local macro_rules | `(tactic| k_all) => `(tactic| assumption)
local macro_rules | `(tactic| dict_fit) => `(tactic| omega)
local macro_rules | `(tactic| k_room) => `(tactic| ktr_room)
local macro_rules | `(tactic| walk_at "call ref") => `(tactic| ((with_reducible show wpAny _ _ (call (Value.ref _) _ _) _ _ _); refine halt ?_))
local macro_rules | `(tactic| walk_at "eval Name") => `(tactic| (k_here; k_dflt (refine' ld ?k1 ?k2 ?_; (case k1 => k_asm); (case k2 => ((try dsimp only); (repeat (rw [if_neg (by decide)])); assumption)); k_whole)))
local macro_rules | `(tactic| walk_at "exec For Tuple Name cons nil") => `(tactic| (refine halt ?_))
theorem Tups.length {l : List (Addr × Obj)} {ds : List (Int × Int × Int)} (h : Tups l ds) : l.length = ds.length := by
  induction h with
  | nil => rfl
  | cons T a b c t1 t2 t3 h ih => rw [List.length_cons, List.length_cons, ih]
def seqOf (o : Obj) : Array Value := match o.data with
  | .seq vs _ => vs
  | _ => #[]
def tAddr (tl : List (Addr × Obj)) (j : Nat) : Addr := (tl.map (·.1)).getD j 0
def tVals (tl : List (Addr × Obj)) (j : Nat) : Array Value := (tl.map (fun p => seqOf p.2)).getD j #[]
theorem Tups.at_ {l : List (Addr × Obj)} {ds : List (Int × Int × Int)} (h : Tups l ds) : ∀ j, j < ds.length → ∃ a b c t1 t2 t3, ds[j]? = some (a, b, c) ∧ (tAddr l j, tup3 (.int a t1) (.int b t2) (.int c t3)) ∈ l ∧ tVals l j = #[.int a t1, .int b t2, .int c t3] := by
  induction h with
  | nil => exact fun j hj => absurd hj (Nat.not_lt_zero j)
  | cons T a b c t1 t2 t3 h ih =>
    intro j hj
    cases j with
    | zero => exact ⟨a, b, c, t1, t2, t3, rfl, List.mem_cons_self, rfl⟩
    | succ j =>
      obtain ⟨a', b', c', t1', t2', t3', e1, e2, e3⟩ := ih j (by simpa using hj)
      exact ⟨a', b', c', t1', t2', t3', e1, List.mem_cons_of_mem _ e2, e3⟩
theorem tItems (tl : List (Addr × Obj)) (j : Nat) (hj : j < tl.length) : (tl.map fun p => Value.ref p.1).toArray[j]? = some (.ref (tAddr tl j)) := by
  unfold tAddr
  simp [hj]
structure Held (p : Prop) : Prop where
  out : p
structure MadeAp (tab dll : List (Addr × Obj)) (drl ful seen : Addr) : Prop where
  t1 : ∀ x ∈ tab, @Ne Nat x.1 drl ∧ @Ne Nat x.1 ful ∧ @Ne Nat x.1 seen
  t2 : ∀ x ∈ tab, ∀ q ∈ dll, q.1 ≠ x.1
  s1 : @Ne Nat drl ful
  s2 : @Ne Nat drl seen
  s3 : @Ne Nat ful seen
  d : ∀ q ∈ dll, @Ne Nat q.1 drl ∧ @Ne Nat q.1 ful ∧ @Ne Nat q.1 seen
theorem ChoiceL.head {y : HA} {dr : List Int} {sv : List Value} {l : List (Addr × Obj)} (h : ChoiceL y dr sv l) (o : y.ord) : ∃ fo l2, l = (y.f, fo) :: l2 ∧ ∀ q ∈ l2, @LT.lt Nat _ q.1 y.f := by
  obtain ⟨oc, o1', o2', cvs, t, doc, pm, ctv, ls, n1, n2, hoc, hct, hd1, hd2, hL, rfl⟩ := h
  obtain ⟨q0, q1, q2, q3, q4, q5, q6, q7, q8, q9⟩ := o
  refine ⟨_, _, rfl, ?_⟩
  simp only [List.forall_mem_cons]
  refine ⟨?_, ?_, ?_, ?_, ?_, List.forall_mem_nil _⟩ <;> omega
theorem ChoiceL.ge {y : HA} {dr : List Int} {sv : List Value} {l : List (Addr × Obj)} (h : ChoiceL y dr sv l) (o : y.ord) : ∀ q ∈ l, @LE.le Nat _ y.seen q.1 := by
  obtain ⟨oc, o1', o2', cvs, t, doc, pm, ctv, ls, n1, n2, hoc, hct, hd1, hd2, hL, rfl⟩ := h
  obtain ⟨q0, q1, q2, q3, q4, q5, q6, q7, q8, q9⟩ := o
  simp only [List.forall_mem_cons]
  refine ⟨?_, ?_, ?_, ?_, ?_, ?_, List.forall_mem_nil _⟩ <;> omega
theorem CacheL.ge {prog : Program} {w : World} {x : CA} {room : Int} {kv ix : KV} {ks : List Int} {l : List (Addr × Obj)} (h : CacheL prog w x room kv ix ks l) (o : x.ord) : ∀ q ∈ l, @LE.le Nat _ x.d q.1 := by
  obtain ⟨od, oi, kvs, ivs, vs, nk, t1, t2, t3, t4, t5, t6, tc, tr, hod, hf, hoi, hfi, hI, rfl⟩ := h
  obtain ⟨o0, o1, o2, o3, o4⟩ := o
  simp only [List.forall_mem_cons]
  refine ⟨?_, ?_, ?_, ?_, ?_, List.forall_mem_nil _⟩ <;> omega
def MadePost (PC : HA → Prop) (prog : Program) (w : World) (room : Int) (ds fs : List Int) (Ds : List (Int × Int × Int)) (seen drl ful : Addr) (dll : List (Addr × Obj)) (dvs fvs : List Value) (n1 n2 : Nat) (r : Value) (mine : List (Addr × Obj)) : Prop :=
  ∃ (x : CA) (y : HA) (cl chl : List (Addr × Obj)), r = .ref x.c ∧ PC y ∧ x.ord ∧ y.ord ∧ x.f = y.f ∧ @LT.lt Nat _ y.f x.d ∧ y.seen = seen ∧ CacheI prog w x room (runD room ⟨[], [], ds⟩ Ds) cl ∧ ChoiceL y fs [] chl ∧
    (∀ z ∈ cl ++ chl, ∀ q ∈ (901, tabObj (chTab y.cc)) :: (drl, listOf dvs.toArray n1) :: (ful, listOf fvs.toArray n2) :: dll, q.1 ≠ z.1) ∧
    mine = (901, tabObj (chTab y.cc)) :: (drl, listOf dvs.toArray n1) :: (ful, listOf fvs.toArray n2) :: (cl ++ (chl ++ dll))
section
variable {prog : Program} {w : World} {p : Program} {loose : List Str} {mean : ExcName → Option Value} {mg mb : Str → Option Value}
theorem made_spec {PC : HA → Prop} {tab dll : List (Addr × Obj)} {room : Int} {tr : Tok} {dl drl ful seen : Addr} {ds fs : List Int} {dvs fvs sv : List Value} {Ds : List (Int × Int × Int)} {n1 n2 n3 : Nat}
    (hmk : ∀ (left : Addr) (m1 m2 : Nat) (ls sv : List Value) (dr : List Int), IntsAre ls dr → @LT.lt Nat _ seen left → (∀ q ∈ tab, @LT.lt Nat _ q.1 left) → Spec prog w p loose mean mg mb 20 120 906 [.ref left, .ref seen] (tab ++ [(left, listOf ls.toArray m1), (seen, listOf sv.toArray m2)])
      (fun r mine => ∃ (y : HA) (chl : List (Addr × Obj)), r = .ref y.f ∧ PC y ∧ y.left = left ∧ y.seen = seen ∧ y.ord ∧ ChoiceL y dr sv chl ∧ mine = (901, tabObj (chTab y.cc)) :: chl))
    (h901 : @LT.lt Nat _ 901 seen) (hA : MadeAp tab dll drl ful seen) (hD : DeedsL dl Ds dll) (hds : IntsAre dvs ds) (hfs : IntsAre fvs fs) (hroom : 1 ≤ room) (hroom2 : room ≤ 4) (hlen : Ds.length ≤ 8) (hdl : ds.length = Ds.length) (hd0 : ∀ d ∈ ds, 0 ≤ d) (hf8 : fs.length ≤ 8) (hsv : sv.length ≤ 80) :
    SpecT prog w p loose mean mg mb 100 800 920 [.int room tr, .ref dl, .ref drl, .ref ful, .ref seen] (tab ++ ((drl, listOf dvs.toArray n1) :: (ful, listOf fvs.toArray n2) :: (seen, listOf sv.toArray n3) :: dll)) (MadePost PC prog w room ds fs Ds seen drl ful dll dvs fvs n1 n2) := by
  intro dp un gd cn cs a ccd cl outer A₀ base h₀ L m rest s Q E B F X N T XB TB D hC hcs hap hd hu hret
  have key : (PySem.Challenge.rw_fc0033_01, Mine.K) = (PySem.Challenge.rw_fc0033_01, Mine.K) := by k_fill; rfl
  clear key
  have hap0 := hap
  obtain ⟨rst, hrst⟩ : ∃ r, r = tab ++ (dll ++ rest) := ⟨_, rfl⟩
  replace N := news_sub (l' := (drl, listOf dvs.toArray n1) :: (ful, listOf fvs.toArray n2) :: (seen, listOf sv.toArray n3) :: rst) N (by
    subst hrst
    intro p hp
    simp only [List.mem_cons, List.mem_append, List.cons_append, List.nil_append] at hp ⊢
    grind)
  refine enterT [(Str.ofString "room", .int room tr), (Str.ofString "deeds", .ref dl), (Str.ofString "draws", .ref drl), (Str.ofString "further", .ref ful), (Str.ofString "seen", .ref seen)] B F X N T XB TB D hcs (by omega) (by k_is) (by k_is) (by exact BindsTo.of_eq rfl) (by exact locs rfl) ?_ (by exact rfl) (by exact rfl) (by exact rfl) (by decide)
  intro g' L' h' FG' F' N' B' X' T' D'
  (try dsimp only)
  (try k_fold)
  k_steps
  refine unhalt ?_
  rename_i lf c9 h8a m1 h8 F8 N8
  obtain ⟨a1, a2, a3, a4⟩ := m1
  have a5 := ktn_ltOf a4
  have hrT : ∀ q ∈ rest, ∀ x ∈ tab, q.1 ≠ x.1 := fun q hq x hx => hap0 x (List.mem_append_left _ hx) q hq
  have hrD : ∀ q ∈ rest, q.1 ≠ drl := hap0 _ (List.mem_append_right _ (.head _))
  have hrF : ∀ q ∈ rest, q.1 ≠ ful := hap0 _ (List.mem_append_right _ (.tail _ (.head _)))
  have hrS : ∀ q ∈ rest, q.1 ≠ seen := hap0 _ (List.mem_append_right _ (.tail _ (.tail _ (.head _))))
  have hrL : ∀ q ∈ rest, ∀ x ∈ dll, q.1 ≠ x.1 := fun q hq x hx => hap0 x (List.mem_append_right _ (.tail _ (.tail _ (.tail _ hx)))) q hq
  refine hmk lf c9 n3 dvs sv ds hds a3 (fun q hq => a5 q (by rw [hrst]; exact List.mem_append_left _ hq)) _ _ _ _ _ _ _ _ _ _ _ _ _ _ ((drl, listOf dvs.toArray n1) :: (ful, listOf fvs.toArray n2) :: (dll ++ rest)) _ _ _ B' F8 X' (news_sub N8 ?_) T' hC (by exact rfl) ?_ (by omega) (by omega) ?_
  · subst hrst
    intro p hp
    simp only [List.mem_cons, List.mem_append, List.cons_append, List.nil_append, List.not_mem_nil, or_false] at hp ⊢
    grind
  · intro x hx q hq
    have hxx : (x ∈ tab ∨ x.1 = lf) ∨ x.1 = seen := by
      rcases List.mem_append.mp hx with hx | hx
      · exact .inl (.inl hx)
      · simp only [List.mem_cons, List.not_mem_nil, or_false] at hx
        rcases hx with rfl | rfl
        · exact .inl (.inr rfl)
        · exact .inr rfl
    have hqq : ((q.1 = drl ∨ q.1 = ful) ∨ q ∈ dll) ∨ q ∈ rest := by
      rcases List.mem_cons.mp hq with rfl | hq
      · exact .inl (.inl (.inl rfl))
      rcases List.mem_cons.mp hq with rfl | hq
      · exact .inl (.inl (.inr rfl))
      rcases List.mem_append.mp hq with hq | hq
      · exact .inl (.inr hq)
      · exact .inr hq
    have hqlf : q.1 ≠ lf := by
      rcases hqq with ((e | e) | e) | e
      · rw [e]; exact Nat.ne_of_lt a1
      · rw [e]; exact Nat.ne_of_lt a2
      · exact Nat.ne_of_lt (a5 q (by rw [hrst]; exact List.mem_append_right _ (List.mem_append_left _ e)))
      · exact Nat.ne_of_lt (a5 q (by rw [hrst]; exact List.mem_append_right _ (List.mem_append_right _ e)))
    rcases hxx with (hx | hx) | hx
    · rcases hqq with ((e | e) | e) | e
      · rw [e]; exact Ne.symm (hA.t1 x hx).1
      · rw [e]; exact Ne.symm (hA.t1 x hx).2.1
      · exact hA.t2 x hx q e
      · exact hrT q e x hx
    · rw [hx]; exact hqlf
    · rw [hx]
      rcases hqq with ((e | e) | e) | e
      · rw [e]; exact hA.s2
      · rw [e]; exact hA.s3
      · exact (hA.d q e).2.2
      · exact hrS q e
  intro r mine h9 tk9 F9 N9 ap9 hpost
  obtain ⟨y, chl, rfl, hPC, hyl, hys, oy, hch, rfl⟩ := hpost
  k_steps
  refine unhalt ?_
  rename Fr g' L' _ _ => F10
  rename News g' L' _ _ => N10
  obtain ⟨fo, l2, hl2, hlf⟩ := hch.head oy
  obtain ⟨W, hW⟩ : ∃ r, r = (901, tabObj (chTab y.cc)) :: (drl, listOf dvs.toArray n1) :: (ful, listOf fvs.toArray n2) :: (dll ++ rest) := ⟨_, rfl⟩
  have apW : ∀ x ∈ chl, ∀ q ∈ W, q.1 ≠ x.1 := by
    intro x hx q hq
    rw [hW] at hq
    rcases List.mem_cons.mp hq with rfl | hq
    · have := hch.ge oy x hx
      rw [hys] at this
      exact Nat.ne_of_lt (Nat.lt_of_lt_of_le h901 this)
    · exact ap9 x (List.mem_cons_of_mem _ hx) q hq
  refine new_spec (o := fo) hroom (by omega) (by have := oy.o4; have := oy.o0; have := oy.o1; have := oy.o2; have := oy.o3; omega) _ _ _ _ _ _ _ _ _ _ _ _ _ _ (l2 ++ W) _ _ _ B' F10 X' (news_sub N10 ?_) T' hC (by exact rfl) ?_ (by omega) (by omega) ?_
  · subst hW hl2
    intro p hp
    simp only [List.mem_cons, List.mem_append, List.cons_append, List.nil_append, List.not_mem_nil, or_false] at hp ⊢
    grind
  · intro x hx q hq
    obtain rfl := List.mem_singleton.mp hx
    rcases List.mem_append.mp hq with hq | hq
    · exact Nat.ne_of_lt (hlf q hq)
    · exact apW (y.f, fo) (by rw [hl2]; exact List.mem_cons_self) q hq
  intro r mine h11 tk11 F11 N11 ap11 hpost
  obtain ⟨x, cl0, rfl, hxf, ox, hfx, hcl, rfl⟩ := hpost
  have apC : ∀ q1 ∈ cl0, ∀ q ∈ chl ++ W, q.1 ≠ q1.1 := by
    intro q1 h1 q hq
    rw [hl2] at hq
    rcases List.mem_cons.mp hq with rfl | hq
    · exact Nat.ne_of_lt (Nat.lt_of_lt_of_le hfx (hcl.ge ox q1 h1))
    · exact ap11 q1 (List.mem_append_left _ h1) q hq
  replace N11 := news_sub (l' := cl0 ++ (chl ++ W)) N11 (by
    subst hl2
    intro p hp
    simp only [List.mem_cons, List.mem_append, List.cons_append, List.nil_append, List.not_mem_nil, or_false] at hp ⊢
    grind)
  k_steps
  refine unhalt ?_
  rename Fr g' L' _ _ => F12
  rename News g' L' _ _ => N12
  obtain ⟨nD, tl, hTl, hdll⟩ := hD
  have hNdl : (dl, listOf (tl.map fun p => Value.ref p.1).toArray nD) ∈ cl0 ++ (chl ++ W) := by
    rw [hW, hdll]
    exact List.mem_append_right _ (List.mem_append_right _ (List.mem_cons_of_mem _ (List.mem_cons_of_mem _ (List.mem_cons_of_mem _ List.mem_cons_self))))
  have hNt : ∀ q ∈ tl, q ∈ cl0 ++ (chl ++ W) := fun q hq => by
    rw [hW, hdll]
    exact List.mem_append_right _ (List.mem_append_right _ (List.mem_cons_of_mem _ (List.mem_cons_of_mem _ (List.mem_cons_of_mem _ (List.mem_cons_of_mem _ (List.mem_append_left _ hq))))))
  have hWdl : (dl, listOf (tl.map fun p => Value.ref p.1).toArray nD) ∈ W := by
    rw [hW, hdll]
    exact List.mem_cons_of_mem _ (List.mem_cons_of_mem _ (List.mem_cons_of_mem _ List.mem_cons_self))
  have hWt : ∀ q ∈ tl, q ∈ W := fun q hq => by
    rw [hW, hdll]
    exact List.mem_cons_of_mem _ (List.mem_cons_of_mem _ (List.mem_cons_of_mem _ (List.mem_cons_of_mem _ (List.mem_append_left _ hq))))
  refine wpAny_For ?_
  k_dflt (refine' ld ?k1a ?k2a ?_; (case k1a => exact F12); (case k2a => exact rfl))
  refine wpAny_pyIter_list ⟨_, (N12 _ hNdl).1, rfl, _, rfl⟩ ?_
  rename Heap => hx
  have hnI : ∀ q ∈ cl0 ++ (chl ++ W), @Ne Nat q.1 hx.objs.size := fun q hq => Nat.ne_of_lt (Heap.lt_size (N12 q hq).1)
  have N13 := N12.push F12 { cls := .type "list_iterator", data := .fields #[.ref dl, .int 0 0] }
  have F13 := F12.push { cls := .type "list_iterator", data := .fields #[.ref dl, .int 0 0] }
  dsimp only at N13 F13 ⊢
  clear N12 F12
  generalize Heap.push hx _ = hz at N13 F13 ⊢
  generalize hIe : hx.objs.size = I at hnI N13 ⊢
  have hlenT : tl.length = Ds.length := hTl.length
  have hTI : ∀ j, j < (tl.map fun p => Value.ref p.1).toArray.size → tAddr tl j ≠ I := fun j hj => by
    obtain ⟨a, b, c, t1, t2, t3, -, e2, -⟩ := hTl.at_ j (by rw [List.size_toArray, List.length_map] at hj; omega)
    exact hnI _ (hNt _ e2)
  have hrun := runD_ok (S := ⟨[], [], ds⟩) hroom (by show ((0 : Nat) : Int) ≤ room; omega) hd0 Ds
  dsimp only at hrun
  refine loop_own (KTurns.ofWalksU (WalksU.listOfTuples rfl I dl (hnI _ hNdl) (tl.map fun p => Value.ref p.1).toArray (tAddr tl) (tVals tl) (fun j hj => tItems tl j (by rw [List.size_toArray, List.length_map] at hj; exact hj)) hTI))
    (fun i s' => Held (∃ (gT hh : Heap) (tk : Nat) (mm : Str → Option Value) (sv' : List Value) (cq chq : List (Addr × Obj)) (oI : Obj), s' = { s with heap := hh, toks := tk } ∧ KtsTurn ((envX cn cs L a ccd cl :: outer).filterMap (·.frame)) g' gT ∧ Below (ktrTop dp un gd cn cs L a ccd cl outer) base (envX cn cs L a ccd cl :: outer) gT ∧ (K w.params).In gT ∧ Top p loose mean mg mb gT ∧ KtsDicts ((envX cn cs L a ccd cl :: outer).filterMap (·.frame)) gT ∧ Fr gT L' hh mm ∧ News gT L' hh ((I, oI) :: (cq ++ (chq ++ W))) ∧ (oI.cls = .type "list_iterator" ∧ oI.data = .fields #[.ref dl, .int i 0]) ∧ CacheI prog w x room (runD room ⟨[], [], ds⟩ (Ds.take i)) cq ∧ ChoiceL y (runD room ⟨[], [], ds⟩ (Ds.take i)).dr sv' chq ∧ sv'.length ≤ sv.length + i ∧ (∀ z ∈ cq ++ chq, ∀ q ∈ (I, oI) :: W, q.1 ≠ z.1) ∧ mm (Str.ofString "cache") = some (.ref x.c) ∧ mm (Str.ofString "further") = some (.ref ful) ∧ mm (Str.ofString "seen") = some (.ref seen) ∧ mm (Str.ofString "left") = some (.ref lf))) ?h0 ?hst ?step ?hR
  case h0 =>
    refine Held.mk ⟨g', hz, _, _, sv, cl0, chl, _, rfl, KtsTurn.refl, B', X', T', D', F13, N13, ⟨rfl, rfl⟩, ⟨[], Inv.nil, hcl⟩, hch, Nat.le_refl _, ?_, rfl, rfl, rfl, rfl⟩
    intro z hz q hq
    rcases List.mem_append.mp hz with hz | hz
    · rcases List.mem_cons.mp hq with rfl | hq
      · exact Ne.symm (hnI z (List.mem_append_left _ hz))
      · exact apC z hz q (List.mem_append_right _ hq)
    · rcases List.mem_cons.mp hq with rfl | hq
      · exact Ne.symm (hnI z (List.mem_append_right _ (List.mem_append_left _ hz)))
      · exact apW z hz q hq
  case hst =>
    rintro i s' ⟨gT, hh, tk, mm, sv', cq, chq, oI, rfl, -, -, -, -, -, FF, NN, ⟨e1, e2⟩, -⟩
    refine ⟨⟨oI, (NN _ List.mem_cons_self).1, e1, e2⟩, ⟨_, (NN (dl, listOf (tl.map fun p => Value.ref p.1).toArray nD) ?_).1, rfl, _, rfl⟩, fun k hk => ?_⟩
    · exact List.mem_cons_of_mem _ (List.mem_append_right _ (List.mem_append_right _ hWdl))
    · obtain ⟨a, b, c, t1, t2, t3, -, e3, e4⟩ := hTl.at_ k (by rw [List.size_toArray, List.length_map] at hk; omega)
      rw [e4]
      exact ⟨_, (NN _ (List.mem_cons_of_mem _ (List.mem_append_right _ (List.mem_append_right _ (hWt _ e3))))).1, rfl, _, rfl⟩
  case step =>
    rintro i v s' h₁ tk₁ hi ⟨gT, hh, tk, mm, sv', cq, chq, oI, rfl, kT, kB, kX, kP, kD, FF, NN, ⟨e1, e2⟩, hci, hchi, hsvi, hapi, m1, m2, m3, m4⟩ ⟨T, vals, rfl, rfl, hTT⟩ ⟨⟨oI', i1, i2, i3⟩, hst2⟩ hk₁
    have hiD : i < Ds.length := by rw [List.size_toArray, List.length_map] at hi; omega
    obtain ⟨ka, kb, kc, t1, t2, t3, eD, e3, e4⟩ := hTl.at_ i hiD
    rw [e4] at hTT
    have hAI : ∀ q ∈ cq ++ (chq ++ W), @Ne Nat q.1 I := by
      intro q hq
      rcases List.mem_append.mp hq with hq | hq
      · exact Ne.symm (hapi q (List.mem_append_left _ hq) (I, oI) List.mem_cons_self)
      rcases List.mem_append.mp hq with hq | hq
      · exact Ne.symm (hapi q (List.mem_append_right _ hq) (I, oI) List.mem_cons_self)
      · exact hnI q (List.mem_append_right _ (List.mem_append_right _ hq))
    have hI0 := (NN (I, oI) List.mem_cons_self).2
    dsimp only at hI0 hk₁
    have hnb : ∀ (b : Addr) (o : Obj), hh.get? b = some o → b ≠ I → h₁.get? b = some o := fun b o e hb => hk₁ b o (fun hm => hb (List.mem_singleton.mp hm)) e
    have F1 : Fr gT L' h₁ mm := ⟨FF.ns.at' fun o e => hnb _ o e (Ne.symm hI0.1), fun b o e => hnb b o (FF.keep b o e) (fun q => by rw [q, hI0.2] at e; cases e), FF.above⟩
    have N1 : News gT L' h₁ ((I, oI') :: (cq ++ (chq ++ W))) := by
      intro q hq
      rcases List.mem_cons.mp hq with rfl | hq
      · exact ⟨i1, hI0⟩
      · have z := NN q (List.mem_cons_of_mem _ hq)
        exact ⟨hnb _ _ z.1 (hAI q hq), z.2⟩
    obtain ⟨hr1, hr2, hr3, hr4⟩ := hrun i (Nat.le_of_lt hiD)
    refine unpackN_ F1 N1 hTT rfl rfl rfl ?_
    intro h2 F2 N2
    k_steps
    refine unhalt ?_
    rename Fr gT L' _ _ => F3
    rename News gT L' _ _ => N3
    have hapX : ∀ z ∈ cq ++ chq, ∀ q ∈ (I, oI') :: W, q.1 ≠ z.1 := by
      intro z hz q hq
      rcases List.mem_cons.mp hq with rfl | hq
      · exact hapi z hz (I, oI) List.mem_cons_self
      · exact hapi z hz q (List.mem_cons_of_mem _ hq)
    refine deed_spec ox oy hci hchi hxf hfx hroom hroom2 hr1 (fun _ e => ?_) hr2 (by omega) (by omega) _ _ _ _ _ _ _ _ _ _ _ _ _ _ ((I, oI') :: W) _ _ _ kB F3 kX (news_sub N3 ?_) kP XB TB kD hC (by exact rfl) ?_ (by omega) (by omega) ?_
    · rw [e] at hr4
      simp only [List.length_nil] at hr4
      omega
    · intro q hq
      simp only [List.mem_cons, List.mem_append] at hq ⊢
      grind
    · exact hapX
    intro r mine g9 h9 tk9 kT9 F9 N9 kB9 kX9 kP9 kD9 ap9 hpost
    obtain ⟨sv2, cq2, chq2, rfl, hci2, hch2, hsv2, -, rfl⟩ := hpost
    k_steps
    rename Fr g9 _ _ _ => F4
    rename News g9 _ _ _ => N4
    have N5 := news_sub (l' := (I, oI') :: (cq2 ++ (chq2 ++ W))) N4 (by
      intro q hq
      simp only [List.mem_cons, List.mem_append] at hq ⊢
      grind)
    refine Held.mk ⟨g9, _, _, _, sv2, cq2, chq2, oI', rfl, kT.trans kT9, kB9, kX9, kP9, kD9, F4, N5, ⟨i2, i3⟩, ?_, ?_, by omega, ap9, ?_, ?_, ?_, ?_⟩
    · rw [runD_take _ _ _ _ eD]; exact hci2
    · rw [runD_take _ _ _ _ eD]; exact hch2
    · (repeat (rw [if_neg (by decide)])); assumption
    · (repeat (rw [if_neg (by decide)])); assumption
    · (repeat (rw [if_neg (by decide)])); assumption
    · (repeat (rw [if_neg (by decide)])); assumption
  case hR =>
    rintro s' h₁ tk₁ ⟨gT, hh, tk, mm, sv', cq, chq, oI, rfl, kT, kB, kX, kP, kD, FF, NN, ⟨e1, e2⟩, hci, hchi, hsvi, hapi, m1, m2, m3, m4⟩ hk₁
    have hAI : ∀ q ∈ cq ++ (chq ++ W), @Ne Nat q.1 I := by
      intro q hq
      rcases List.mem_append.mp hq with hq | hq
      · exact Ne.symm (hapi q (List.mem_append_left _ hq) (I, oI) List.mem_cons_self)
      rcases List.mem_append.mp hq with hq | hq
      · exact Ne.symm (hapi q (List.mem_append_right _ hq) (I, oI) List.mem_cons_self)
      · exact hnI q (List.mem_append_right _ (List.mem_append_right _ hq))
    have hI0 := (NN (I, oI) List.mem_cons_self).2
    dsimp only at hI0 hk₁
    have hnb : ∀ (b : Addr) (o : Obj), hh.get? b = some o → b ≠ I → h₁.get? b = some o := fun b o e hb => hk₁ b o (fun hm => hb (List.mem_singleton.mp hm)) e
    have F1 : Fr gT L' h₁ mm := ⟨FF.ns.at' fun o e => hnb _ o e (Ne.symm hI0.1), fun b o e => hnb b o (FF.keep b o e) (fun q => by rw [q, hI0.2] at e; cases e), FF.above⟩
    have N1 : News gT L' h₁ (cq ++ (chq ++ W)) := by
      intro q hq
      have z := NN q (List.mem_cons_of_mem _ hq)
      exact ⟨hnb _ _ z.1 (hAI q hq), z.2⟩
    have hlenI : (tl.map fun p => Value.ref p.1).toArray.size = Ds.length := by rw [List.size_toArray, List.length_map, hlenT]
    rw [hlenI, List.take_of_length_le (Nat.le_refl _)] at hci hchi
    rw [hlenI] at hsvi
    clear F13 N13 NN FF hk₁ hnb
    have hSF := hrun Ds.length (Nat.le_refl _)
    rw [List.take_of_length_le (Nat.le_refl _)] at hSF
    obtain ⟨hSF1, hSF2, hSF3, -⟩ := hSF
    generalize hSFe : runD room ⟨[], [], ds⟩ Ds = SF at hci hchi hSF1 hSF2 hSF3
    have hchi0 := hchi
    obtain ⟨yf, ycc, yc1, yc2, yl, ys⟩ := y
    obtain ⟨oc, o1', o2', cvs, t, doc, pm, ctv, ls, z1, z2, hoc, hct, hd1, hd2, hLS, rfl⟩ := hchi
    dsimp only at hyl hys hd1 hd2 N1
    obtain ⟨W2, hW2⟩ : ∃ r, r = cq ++ ((yf, fnMade (Str.ofString "chosen") (Str.ofString "_law_choice.<locals>.chosen") (fargs chS) (fbody chS) (fscope chS) [(Str.ofString "seen", yc2), (Str.ofString "draws", yc1)] doc pm ycc ctv) :: (ycc, oc) :: (yc1, o1') :: (yc2, o2') :: ((901, tabObj (chTab ycc)) :: (drl, listOf dvs.toArray n1) :: (dll ++ rest))) := ⟨_, rfl⟩
    have N2 := news_sub (l' := (yl, listOf ls.toArray z1) :: (ys, listOf sv'.toArray z2) :: (ful, listOf fvs.toArray n2) :: W2) N1 (by
      subst hW hW2
      intro q hq
      simp only [List.mem_cons, List.mem_append] at hq ⊢
      grind)
    obtain ⟨q0, q1, q2, q3, q4, q5, q6, q7, q8, q9⟩ := oy
    dsimp only at q0 q1 q2 q3 q4 q5 q6 q7 q8 q9 hxf hfx
    obtain ⟨ixF, IF, hciF⟩ := hci
    have hge := hciF.ge ox
    have hzl : (yl, listOf ls.toArray z1) ∈ cq ++ [(yf, fnMade (Str.ofString "chosen") (Str.ofString "_law_choice.<locals>.chosen") (fargs chS) (fbody chS) (fscope chS) [(Str.ofString "seen", yc2), (Str.ofString "draws", yc1)] doc pm ycc ctv), (ycc, oc), (yc1, o1'), (yc2, o2'), (yl, listOf ls.toArray z1), (ys, listOf sv'.toArray z2)] := List.mem_append_right _ (.tail _ (.tail _ (.tail _ (.tail _ (.head _)))))
    have hzs : (ys, listOf sv'.toArray z2) ∈ cq ++ [(yf, fnMade (Str.ofString "chosen") (Str.ofString "_law_choice.<locals>.chosen") (fargs chS) (fbody chS) (fscope chS) [(Str.ofString "seen", yc2), (Str.ofString "draws", yc1)] doc pm ycc ctv), (ycc, oc), (yc1, o1'), (yc2, o2'), (yl, listOf ls.toArray z1), (ys, listOf sv'.toArray z2)] := List.mem_append_right _ (.tail _ (.tail _ (.tail _ (.tail _ (.tail _ (.head _))))))
    have hWl : ∀ q ∈ W, @Ne Nat q.1 yl ∧ @Ne Nat q.1 ys := fun q hq => ⟨hapi _ hzl q (List.mem_cons_of_mem _ hq), hapi _ hzs q (List.mem_cons_of_mem _ hq)⟩
    have hW2y : ∀ q ∈ W2, @Ne Nat q.1 yl ∧ @Ne Nat q.1 ys := by
      intro q hq
      rw [hW2] at hq
      rcases List.mem_append.mp hq with hq | hq
      · have := hge q hq
        constructor <;> omega
      rcases List.mem_cons.mp hq with rfl | hq
      · dsimp only; constructor <;> omega
      rcases List.mem_cons.mp hq with rfl | hq
      · dsimp only; exact ⟨q7, by omega⟩
      rcases List.mem_cons.mp hq with rfl | hq
      · dsimp only; constructor <;> omega
      rcases List.mem_cons.mp hq with rfl | hq
      · dsimp only; constructor <;> omega
      refine hWl q ?_
      rw [hW]
      rcases List.mem_cons.mp hq with rfl | hq
      · exact List.mem_cons_self
      rcases List.mem_cons.mp hq with rfl | hq
      · exact List.mem_cons_of_mem _ List.mem_cons_self
      · exact List.mem_cons_of_mem _ (List.mem_cons_of_mem _ (List.mem_cons_of_mem _ hq))
    have y1 : ∀ q ∈ W2, q.1 ≠ yl := fun q hq => (hW2y q hq).1
    have y2 : ∀ q ∈ W2, q.1 ≠ ys := fun q hq => (hW2y q hq).2
    have y3 : @Ne Nat ful yl := by rw [hyl]; exact Nat.ne_of_lt a2
    have y4 : @Ne Nat ful ys := by rw [hys]; exact hA.s3
    have y5 : @LT.lt Nat _ ys yl := q0
    rw [← hyl] at m4
    rw [← hys] at m3
    dsimp only
    k_steps
    have hlsl := hLS.length
    have hfvl := hfs.length
    k_dflt (refine' set_all (F1.push _) (N2.pushKeep _) ?Us (.tail _ (.tail _ (.head _))) (Ne.symm y3) (Heap.IsSliceOf.new ..) (show ls.length ≤ 1000 by omega) (show fvs.length ≤ 1000 by omega) ?_; (case Us => k_updF))
    intro h5 n5 F5 N5
    clear N2 F1 N1
    k_steps
    rename Fr gT L' _ _ => F6
    rename News gT L' _ _ => N6
    dsimp only
    k_dflt (refine' clear_any F6 N6 ?Uc (show sv'.length ≤ 1000 by omega) ?_; (case Uc => k_updF))
    intro h7 n7 tk7 F7 N7
    clear N6 F6
    k_steps
    rename KtsTurn _ h₀ _ => kT8; rename Fr _ L _ m => kF8; rename News _ L _ _ => kN8; rename Below A₀ _ outer _ => kB8; rename Frag.In _ _ => kX8; rename Top _ _ _ _ _ _ => kP8; rename KtsDicts _ _ => kD8
    have hWm : ∀ q ∈ (901, tabObj (chTab ycc)) :: (drl, listOf dvs.toArray n1) :: (ful, listOf fvs.toArray n2) :: (dll ++ rest), q ∈ W := fun q hq => by rw [hW]; exact hq
    have hz4 : ∀ z ∈ [(yf, fnMade (Str.ofString "chosen") (Str.ofString "_law_choice.<locals>.chosen") (fargs chS) (fbody chS) (fscope chS) [(Str.ofString "seen", yc2), (Str.ofString "draws", yc1)] doc pm ycc ctv), (ycc, oc), (yc1, o1'), (yc2, o2'), (yl, listOf fvs.toArray n5), (ys, listOf #[] n7)], ∀ q ∈ W, q.1 ≠ z.1 := by
      intro z hz q hq
      rcases List.mem_cons.mp hz with rfl | hz
      · exact hapi _ (List.mem_append_right _ (.head _)) q (List.mem_cons_of_mem _ hq)
      rcases List.mem_cons.mp hz with rfl | hz
      · exact hapi _ (List.mem_append_right _ (.tail _ (.head _))) q (List.mem_cons_of_mem _ hq)
      rcases List.mem_cons.mp hz with rfl | hz
      · exact hapi _ (List.mem_append_right _ (.tail _ (.tail _ (.head _)))) q (List.mem_cons_of_mem _ hq)
      rcases List.mem_cons.mp hz with rfl | hz
      · exact hapi _ (List.mem_append_right _ (.tail _ (.tail _ (.tail _ (.head _))))) q (List.mem_cons_of_mem _ hq)
      rcases List.mem_cons.mp hz with rfl | hz
      · exact (hWl q hq).1
      rcases List.mem_cons.mp hz with rfl | hz
      · exact (hWl q hq).2
      · exact nomatch hz
    have hzc : ∀ z ∈ cq, ∀ q ∈ W, q.1 ≠ z.1 := fun z hz q hq => hapi z (List.mem_append_left _ hz) q (List.mem_cons_of_mem _ hq)
    refine hret _ ((901, tabObj (chTab ycc)) :: (drl, listOf dvs.toArray n1) :: (ful, listOf fvs.toArray n2) :: (cq ++ ([(yf, fnMade (Str.ofString "chosen") (Str.ofString "_law_choice.<locals>.chosen") (fargs chS) (fbody chS) (fscope chS) [(Str.ofString "seen", yc2), (Str.ofString "draws", yc1)] doc pm ycc ctv), (ycc, oc), (yc1, o1'), (yc2, o2'), (yl, listOf fvs.toArray n5), (ys, listOf #[] n7)] ++ dll))) _ _ _ kT8 kF8 (news_sub kN8 ?_) kB8 kX8 kP8 kD8 ?_ ⟨x, ⟨yf, ycc, yc1, yc2, yl, ys⟩, cq, _, rfl, hPC, ox, ⟨q0, q1, q2, q3, q4, q5, q6, q7, q8, q9⟩, hxf, hfx, hys, ?_, ⟨oc, o1', o2', cvs, t, doc, pm, ctv, fvs, n5, n7, hoc, hct, hd1, hd2, hfs, rfl⟩, ?_, rfl⟩
    · subst hW2
      intro q hq
      simp only [List.mem_cons, List.mem_append, List.not_mem_nil, or_false] at hq ⊢
      grind
    · intro z hz q hq
      rcases List.mem_cons.mp hz with rfl | hz
      · exact ap9 _ List.mem_cons_self q (List.mem_cons_of_mem _ (List.mem_cons_of_mem _ (List.mem_append_right _ hq)))
      rcases List.mem_cons.mp hz with rfl | hz
      · exact hrD q hq
      rcases List.mem_cons.mp hz with rfl | hz
      · exact hrF q hq
      have hqW := hWm q (List.mem_cons_of_mem _ (List.mem_cons_of_mem _ (List.mem_cons_of_mem _ (List.mem_append_right _ hq))))
      rcases List.mem_append.mp hz with hz | hz
      · exact hzc z hz q hqW
      rcases List.mem_append.mp hz with hz | hz
      · exact hz4 z hz q hqW
      · exact hrL q hq z hz
    · rw [hSFe]; exact ⟨ixF, IF, hciF⟩
    · intro z hz q hq
      have hqW := hWm q (by
        rcases List.mem_cons.mp hq with rfl | hq
        · exact List.mem_cons_self
        rcases List.mem_cons.mp hq with rfl | hq
        · exact List.mem_cons_of_mem _ List.mem_cons_self
        rcases List.mem_cons.mp hq with rfl | hq
        · exact List.mem_cons_of_mem _ (List.mem_cons_of_mem _ List.mem_cons_self)
        · exact List.mem_cons_of_mem _ (List.mem_cons_of_mem _ (List.mem_cons_of_mem _ (List.mem_append_left _ hq))))
      rcases List.mem_append.mp hz with hz | hz
      · exact hzc z hz q hqW
      · exact hz4 z hz q hqW
end
end Mine
end
section
open PySem PySem.W PyProof.Rows PySem.Calls PyProof.V
set_option Elab.async false
set_option maxRecDepth 100000
set_option maxHeartbeats 1000000
set_option linter.unusedVariables false
set_option linter.unusedSimpArgs false
namespace Mine
theorem anew_RRI : True := by
  w_top off
  trivial
local macro_rules | `(tactic| k_all) => `(tactic| assumption)
local macro_rules | `(tactic| dict_fit) => `(tactic| omega)
local macro_rules | `(tactic| k_room) => `(tactic| ktr_room)
section
variable {prog : Program} {w : World} {p : Program} {loose : List Str} {mean : ExcName → Option Value} {mg mb : Str → Option Value}
theorem len_spec {x : CA} {room : Int} {kv ix : KV} {ks : List Int} {pre : List (Addr × Obj)} (o : x.ord) (hc : CacheL prog w x room kv ix ks pre) (hsz : kv.length ≤ 64) :
    Spec prog w p loose mean mg mb 3 30 770 [.ref x.c] pre (fun r mine => (∃ t, r = .int (kv.length : Int) t) ∧ mine = pre) := by
  obtain ⟨c, d, dd, f, di, dk⟩ := x
  have hc0 := hc
  obtain ⟨od, oi, kvs, ivs, vs, nk, t1, t2, t3, t4, t5, t6, tc, tr, hod, hf, hoi, hfi, hI, rfl⟩ := hc
  obtain ⟨o0, o1, o2, o3, o4⟩ := o
  dsimp only at o0 o1 o2 o3 o4 hc0 ⊢
  intro dp un gd cn cs a ccd cl outer A₀ base h₀ L m rest s Q E B F X N T hC hcs hap hd hu hret
  have key : (PySem.Challenge.rw_fc0033_01, Mine.K) = (PySem.Challenge.rw_fc0033_01, Mine.K) := by k_fill; rfl
  clear key
  simp only [List.cons_append, List.nil_append] at N
  have hdd : (dd == sysModules) = false := modules_ne (by omega)
  have hsz2 : (encD kv).length ≤ 64 := by rw [encD_length]; exact hsz
  refine enter [(Str.ofString "self", .ref c)] B F X N T hcs (by omega) (by k_is) (by k_is) (by exact BindsTo.of_eq rfl) (by exact locs rfl) ?_ (by exact rfl) (by exact rfl) (by exact rfl) (by decide)
  intro g' L' h' FG' F' N' B' X' T'
  (try dsimp only)
  k_fold
  k_steps
  rename Fr h₀ L _ m => F9; rename News h₀ L _ _ => N9
  rw [encD_length]
  exact hret _ [_, _, _, _, _] _ _ F9 N9 hap ⟨⟨_, rfl⟩, rfl⟩
theorem iter_spec {x : CA} {room : Int} {kv ix : KV} {ks : List Int} {pre : List (Addr × Obj)} (o : x.ord) (hc : CacheL prog w x room kv ix ks pre) (hsz : kv.length ≤ 64) :
    Spec prog w p loose mean mg mb 3 30 763 [.ref x.c] pre (fun r mine => ∃ (I : Addr) (oI od : Obj) (ep : Nat) (kvs : List (Int × Value)) (cl : List (Addr × Obj)), r = .ref I ∧ KdkIter oI x.dd 0 kvs.length ep ∧ (x.dd, od) ∈ cl ∧ KdkAt (intKind prog w) od kvs ep ∧ FlatPairs PyData.int kvs (encD kv) ∧ CacheL prog w x room kv ix ks cl ∧ (∀ q ∈ cl, @LT.lt Nat _ q.1 I) ∧ mine = (I, oI) :: cl) := by
  obtain ⟨c, d, dd, f, di, dk⟩ := x
  have hc0 := hc
  obtain ⟨od, oi, kvs, ivs, vs, nk, t1, t2, t3, t4, t5, t6, tc, tr, hod, hf, hoi, hfi, hI, rfl⟩ := hc
  obtain ⟨o0, o1, o2, o3, o4⟩ := o
  dsimp only at o0 o1 o2 o3 o4 hc0 ⊢
  intro dp un gd cn cs a ccd cl outer A₀ base h₀ L m rest s Q E B F X N T hC hcs hap hd hu hret
  have key : (PySem.Challenge.rw_fc0033_01, Mine.K) = (PySem.Challenge.rw_fc0033_01, Mine.K) := by k_fill; rfl
  clear key
  simp only [List.cons_append, List.nil_append] at N
  have hdd : (dd == sysModules) = false := modules_ne (by omega)
  have hsz2 : (encD kv).length ≤ 64 := by rw [encD_length]; exact hsz
  refine enter [(Str.ofString "self", .ref c)] B F X N T hcs (by omega) (by k_is) (by k_is) (by exact BindsTo.of_eq rfl) (by exact locs rfl) ?_ (by exact rfl) (by exact rfl) (by exact rfl) (by decide)
  intro g' L' h' FG' F' N' B' X' T'
  (try dsimp only)
  k_fold
  k_steps
  rename Fr h₀ L _ m => F9; rename News h₀ L _ _ => N9
  rename _ ∧ _ => l9
  obtain ⟨a1, a2, a3, a4, a5, a6⟩ := l9
  have a6' := ktn_ltOf a6
  refine hret _ [_, _, _, _, _, _] _ _ F9 N9 (List.forall_mem_cons.mpr ⟨fun q hq => Nat.ne_of_lt (a6' q hq), hap⟩) ⟨_, _, od, _, kvs, _, rfl, by assumption, .tail _ (.tail _ (.head _)), by assumption, hf, hc0, ?_, rfl⟩
  simp only [List.forall_mem_cons]
  refine ⟨?_, ?_, ?_, ?_, ?_, List.forall_mem_nil _⟩ <;> assumption
end
end Mine
end
section
open PySem PySem.W PyProof.Rows PySem.Calls PyProof.V
set_option Elab.async false
set_option maxRecDepth 100000
set_option maxHeartbeats 1000000
set_option linter.unusedVariables false
namespace Mine
theorem turn_get {g g' : Heap} (T : KtsTurn [] g g') : (∀ b o, g.get? b = some o → g'.get? b = some o) ∧ (∀ b, g'.get? b = none → g.get? b = none) := by
  have k1 : ∀ b o, g.get? b = some o → g'.get? b = some o := fun b o e => T.other b o e (fun h => nomatch h)
  exact ⟨k1, fun b e => kts_none k1 e⟩
theorem turn_fr {g g' h : Heap} {L : Addr} {m : Str → Option Value} (T : KtsTurn [] g g') (F : Fr g' L h m) : Fr g L h m :=
  ⟨F.ns, fun b o e => F.keep b o ((turn_get T).1 b o e), by rw [← T.size]; exact F.above⟩
theorem turn_news {g g' h : Heap} {L : Addr} {news : List (Addr × Obj)} (T : KtsTurn [] g g') (N : News g' L h news) : News g L h news :=
  fun p hp => ⟨(N p hp).1, (N p hp).2.1, (turn_get T).2 _ (N p hp).2.2⟩
section
variable {prog : Program} {w : World} {p : Program} {loose : List Str} {mean : ExcName → Option Value} {mg mb : Str → Option Value}
theorem useT0 {D U : Nat} {f : Addr} {pos : List Value} {pre : List (Addr × Obj)} {post : Value → List (Addr × Obj) → Prop} (H : SpecT prog w p loose mean mg mb D U f pos pre post) {dp un : Nat} {gd : Option (List Code)} {cn : Str} {cs : Scope} {a : Addr} {ccd : Value} {cl : List (Str × Addr)} {A₀ : Around} {base h₀ : Heap} {L : Addr} {m : Str → Option Value} {rest : List (Addr × Obj)} {s : Shared} {Q E : Value → Shared → Prop}
    (B : Below A₀ base [] h₀) (F : Fr h₀ L s.heap m) (X : (K w.params).In h₀) (N : News h₀ L s.heap (pre ++ rest)) (T : Top p loose mean mg mb h₀) (XB : (K w.params).In base) (TB : Top p loose mean mg mb base) (hC : CodeHd base 905 901) (hcs : cs.kind = .function) (hap : ∀ x ∈ pre, ∀ q ∈ rest, q.1 ≠ x.1) (hd : dp + D < recursionLimit) (hu : un + U < cLine)
    (hret : ∀ r mine h' tk', Fr h₀ L h' m → News h₀ L h' (mine ++ rest) → (∀ x ∈ mine, ∀ q ∈ rest, q.1 ≠ x.1) → post r mine → Q r { s with heap := h', toks := tk' }) :
    wpAny (model prog w) (ktrTop dp un gd cn cs L a ccd cl []) (call (.ref f) pos) Q E s :=
  H dp un gd cn cs a ccd cl [] A₀ base h₀ L m rest s Q E B F X N T XB TB ktsDicts_nil hC hcs hap hd hu fun r mine h₀' h' tk' kT F' N' _ _ _ _ ap po => hret r mine h' tk' (turn_fr kT F') (turn_news kT N') ap po
theorem use1 {D U : Nat} {f : Addr} {pos : List Value} {pre : List (Addr × Obj)} {post : Value → List (Addr × Obj) → Prop} (H : Spec prog w p loose mean mg mb D U f pos pre post) {dp un : Nat} {gd : Option (List Code)} {cn : Str} {cs : Scope} {a : Addr} {ccd : Value} {cl : List (Str × Addr)} {outer : List Env} {A₀ : Around} {base h₀ : Heap} {L : Addr} {m : Str → Option Value} {rest : List (Addr × Obj)} {s : Shared} {Q E : Value → Shared → Prop}
    (B : Below A₀ base outer h₀) (F : Fr h₀ L s.heap m) (X : (K w.params).In h₀) (N : News h₀ L s.heap (pre ++ rest)) (T : Top p loose mean mg mb h₀) (hC : CodeHd base 905 901) (hcs : cs.kind = .function) (hap : ∀ x ∈ pre, ∀ q ∈ rest, q.1 ≠ x.1) (hd : dp + D < recursionLimit) (hu : un + U < cLine)
    (hret : ∀ r mine h' tk', Fr h₀ L h' m → News h₀ L h' (mine ++ rest) → (∀ x ∈ mine, ∀ q ∈ rest, q.1 ≠ x.1) → post r mine → Q r { s with heap := h', toks := tk' }) :
    wpAny (model prog w) (ktrTop dp un gd cn cs L a ccd cl outer) (call (.ref f) pos) Q E s :=
  H dp un gd cn cs a ccd cl outer A₀ base h₀ L m rest s Q E B F X N T hC hcs hap hd hu hret
theorem Spec.mono {D U : Nat} {f : Addr} {pos : List Value} {pre : List (Addr × Obj)} {post post' : Value → List (Addr × Obj) → Prop} (h : ∀ r mine, post r mine → post' r mine) (H : Spec prog w p loose mean mg mb D U f pos pre post) : Spec prog w p loose mean mg mb D U f pos pre post' :=
  fun dp un gd cn cs a ccd cl outer A₀ base h₀ L m rest s Q E B F X N T hC hcs hap hd hu hret => H dp un gd cn cs a ccd cl outer A₀ base h₀ L m rest s Q E B F X N T hC hcs hap hd hu fun r mine h' tk' F' N' ap po => hret r mine h' tk' F' N' ap (h r mine po)
def lb (i : Nat) : Stmt := nthS (fbody (st 39)) i
def lscope : Scope := fscope (st 39)
theorem lbody : fbody (st 39) = [lb 0, lb 1, lb 2, lb 3, lb 4, lb 5, lb 6, lb 7, lb 8, lb 9, lb 10, lb 11, lb 12, lb 13, lb 14, lb 15] := rfl
end
end Mine
end
section
open PySem PySem.W PyProof.Rows PySem.Calls PyProof.V
set_option Elab.async false
set_option maxRecDepth 100000
set_option maxHeartbeats 1000000
set_option linter.unusedVariables false
namespace Mine
local macro_rules | `(tactic| walk_at "pad 0") => `(tactic| fail)
local macro_rules | `(tactic| walk_at "pad 1") => `(tactic| fail)
local macro_rules | `(tactic| walk_at "pad 2") => `(tactic| fail)
local macro_rules | `(tactic| walk_at "pad 3") => `(tactic| fail)
local macro_rules | `(tactic| walk_at "pad 4") => `(tactic| fail)
local macro_rules | `(tactic| walk_at "pad 5") => `(tactic| fail)
local macro_rules | `(tactic| walk_at "pad 6") => `(tactic| fail)
local macro_rules | `(tactic| walk_at "pad 7") => `(tactic| fail)
local macro_rules | `(tactic| walk_at "pad 8") => `(tactic| fail)
local macro_rules | `(tactic| walk_at "pad 9") => `(tactic| fail)
theorem anew_RRL1 : True := by
  w_top off
  trivial
local macro_rules | `(tactic| k_all) => `(tactic| assumption)
local macro_rules | `(tactic| dict_fit) => `(tactic| omega)
local macro_rules | `(tactic| k_room) => `(tactic| ktr_room)
local macro_rules | `(tactic| walk_at "call ref") => `(tactic| ((with_reducible show wpAny _ _ (call (Value.ref _) _ _) _ _ _); refine halt ?_))
local macro_rules | `(tactic| walk_at "eval Name") => `(tactic| (k_here; k_dflt (refine' nameX_L ?kA1 ?kA2 ?_ ?kA3 ?kA4 ?kA5; (case kA3 => rfl); (case kA4 => rfl); (case kA5 => decide); (case kA1 => k_asm); (case kA2 => ((try dsimp only); (repeat (rw [if_neg (by decide)])); assumption)); k_whole)))
def lcells (L : Addr) : List (Str × Addr) := [(Str.ofString "left", L + 1 + 1 + 1 + 1 + 1), (Str.ofString "order", L + 1 + 1 + 1 + 1), (Str.ofString "plain", L + 1 + 1 + 1), (Str.ofString "cache", L + 1 + 1), (Str.ofString "deeds", L + 1)]
theorem lcells_eq (L : Addr) : cellsFrom (L + 1) lscope.names [] = lcells L := rfl
def dOf (ns : List Int) (j : Nat) : Int × Int × Int := (nxt ns (2 + 3 * (j : Int)) 8, nxt ns (3 + 3 * (j : Int)) 9, (j : Int))
def deedsOf (ns : List Int) (i : Nat) : List (Int × Int × Int) := (List.range i).map (dOf ns)
def drawsOf (ns : List Int) (i : Nat) : List Int := (List.range i).map fun (j : Nat) => nxt ns (4 + 3 * (j : Int)) 4
theorem nxt_range (ns : List Int) (i k : Int) (hk : 0 < k) : 0 ≤ nxt ns i k ∧ nxt ns i k < k := by
  unfold nxt
  split
  · exact ⟨Int.le_refl _, hk⟩
  · exact ⟨Int.fmod_nonneg_of_pos _ hk, Int.fmod_lt_of_pos _ hk⟩
theorem deedsOf_succ (ns : List Int) (i : Nat) : deedsOf ns (i + 1) = deedsOf ns i ++ [(nxt ns (2 + 3 * (i : Int)) 8, nxt ns (2 + 3 * (i : Int) + 1) 9, 0 + (i : Int) * 1)] := by
  unfold deedsOf
  rw [List.range_succ, List.map_append]
  congr 1
  show [dOf ns i] = _
  unfold dOf
  rw [show (3 : Int) + 3 * (i : Int) = 2 + 3 * (i : Int) + 1 by omega, show (0 : Int) + (i : Int) * 1 = (i : Int) by omega]
theorem drawsOf_succ (ns : List Int) (i : Nat) : drawsOf ns (i + 1) = drawsOf ns i ++ [nxt ns (2 + 3 * (i : Int) + 1 + 1) 4] := by
  unfold drawsOf
  rw [List.range_succ, List.map_append]
  congr 1
  show [nxt ns (4 + 3 * (i : Int)) 4] = _
  rw [show (4 : Int) + 3 * (i : Int) = 2 + 3 * (i : Int) + 1 + 1 by omega]
theorem Tups.snoc {l : List (Addr × Obj)} {ds : List (Int × Int × Int)} (h : Tups l ds) (T : Addr) (a b c : Int) (t1 t2 t3 : Tok) : Tups (l ++ [(T, tup3 (.int a t1) (.int b t2) (.int c t3))]) (ds ++ [(a, b, c)]) := by
  induction h with
  | nil => exact .cons _ _ _ _ _ _ _ .nil
  | cons T' a' b' c' t1' t2' t3' h ih => exact .cons _ _ _ _ _ _ _ ih
section
variable {prog : Program} {w : World} {p : Program} {loose : List Str} {mean : ExcName → Option Value} {mg mb : Str → Option Value}
theorem law1 {dp un : Nat} {gd : Option (List Code)} {a : Addr} {ccd : Value} {A₀ : Around} {base h₀ : Heap} {L : Addr} {m : Str → Option Value} {s : Shared} {Q : Flow → Shared → Prop} {E : Value → Shared → Prop} {stl sl : Addr} {n n2 : Nat} {ti : Tok} {vs : List Value} {ns : List Int} {oD : Obj} {rest : List (Addr × Obj)}
    (B : Below A₀ base [] h₀) (F : Fr h₀ L s.heap m) (X : (K w.params).In h₀) (N : News h₀ L s.heap ((stl, listOf #[.ref sl, .int 0 ti] n) :: (sl, listOf vs.toArray n2) :: (L + 1, oD) :: rest)) (T : Top p loose mean mg mb h₀) (XB : (K w.params).In base) (TB : Top p loose mean mg mb base) (hC : CodeHd base 905 901) (hD : oD.data = .cell none)
    (hI : IntsAre vs ns) (hl : ns.length ≤ 60) (hne : @LT.lt Nat _ sl stl) (hL5 : @LT.lt Nat _ (L + 1 + 1 + 1 + 1 + 1) sl) (hr : ∀ q ∈ rest, @LT.lt Nat _ q.1 sl) (hr2 : ∀ q ∈ rest, @Ne Nat q.1 (L + 1)) (hd : dp + 200 < recursionLimit) (hu : un + 1600 < cLine) (hm : m (Str.ofString "state") = some (.ref stl)) {more : List Stmt}
    (hk : ∀ (hh : Heap) (tk : Nat) (mm : Str → Option Value) (nN nd nr : Nat) (drs dls : Addr) (oDe : Obj) (tl : List (Addr × Obj)) (dvs : List Value) (tr : Tok), Fr h₀ L hh mm → News h₀ L hh ((drs, listOf dvs.toArray nr) :: (dls, listOf (tl.map fun p => Value.ref p.1).toArray nd) :: (L + 1, oDe) :: (tl ++ rest)) → oDe.data = .cell (some (.ref dls)) → Tups tl (deedsOf ns nN) → IntsAre dvs (drawsOf ns nN) → nN ≤ 8 → @LT.lt Nat _ stl dls → @LT.lt Nat _ dls drs → (∀ q ∈ tl, @LT.lt Nat _ drs q.1) → mm (Str.ofString "draws") = some (.ref drs) → mm (Str.ofString "room") = some (.int (1 + nxt ns 0 4) tr) →
      wpAny (model prog w) (ktrTop dp un gd (Str.ofString "law") lscope L a ccd (lcells L) []) (execs more (envX (Str.ofString "law") lscope L a ccd (lcells L))) Q E { s with heap := hh, toks := tk }) :
    wpAny (model prog w) (ktrTop dp un gd (Str.ofString "law") lscope L a ccd (lcells L) []) (execs (lb 1 :: lb 2 :: lb 3 :: lb 4 :: more) (envX (Str.ofString "law") lscope L a ccd (lcells L))) Q E s := by
  have key : (PySem.Challenge.rw_fc0033_01, Mine.K) = (PySem.Challenge.rw_fc0033_01, Mine.K) := by k_fill; rfl
  clear key
  change wpAny _ _ (execs (Stmt.Assign _ _ _ :: Stmt.Assign _ _ _ :: Stmt.Assign _ _ _ :: Stmt.For _ _ _ _ _ :: _) (envX _ ⟨_, _, _, _, _⟩ _ _ _ [_, _, _, _, _])) _ _ _
  k_steps
  refine unhalt ?_
  have hcs : lscope.kind = .function := rfl
  refine use1 (next_spec (k := 4) hI (Int.le_refl 0) (by decide) (by omega) (by decide) (by decide) hne) B F X N T hC hcs ?_ (by omega) (by omega) ?_
  · intro x hx q hq
    have hq2 : @LT.lt Nat _ q.1 sl := by
      rcases List.mem_cons.mp hq with rfl | hq
      · dsimp only; omega
      · exact hr q hq
    simp only [List.mem_cons, List.not_mem_nil, or_false] at hx
    rcases hx with rfl | rfl
    · exact Nat.ne_of_lt (Nat.lt_trans hq2 hne)
    · exact Nat.ne_of_lt hq2
  intro r mine h1 tk1 F1 N1 ap1 hpost
  obtain ⟨⟨tr1, rfl⟩, ti1, n1, rfl⟩ := hpost
  simp only [List.cons_append, List.nil_append] at N1
  k_steps
  refine wpAny_For ?_
  k_steps
  refine unhalt ?_
  rename_i _ dls _ lx1 _ oDe hoDe _ drs _ lx2 _ F2 N2
  obtain ⟨b1, b2, b3, b4⟩ := lx1
  obtain ⟨b5, b6, b7, b8, b9⟩ := lx2
  have b4' := ktn_ltOf b4
  have b9' := ktn_ltOf b9
  refine use1 (next_spec (ti := ti1) (n := n1) (n2 := n2) (k := 9) hI (show (0 : Int) ≤ 0 + 1 by decide) (by decide) (by omega) (by decide) (by decide) hne) (rest := (drs, listOf #[] 0) :: (dls, listOf #[] 0) :: (L + 1, oDe) :: rest) B F2 X (news_sub N2 ?_) T hC hcs ?_ (by omega) (by omega) ?_
  · intro q hq
    simp only [List.mem_cons, List.mem_append, List.cons_append, List.nil_append] at hq ⊢
    grind
  · intro x hx q hq
    have hq2 : @Ne Nat q.1 stl ∧ @Ne Nat q.1 sl := by
      rcases List.mem_cons.mp hq with rfl | hq
      · dsimp only; constructor <;> omega
      rcases List.mem_cons.mp hq with rfl | hq
      · dsimp only; constructor <;> omega
      rcases List.mem_cons.mp hq with rfl | hq
      · dsimp only; constructor <;> omega
      · have := hr q hq
        constructor <;> omega
    simp only [List.mem_cons, List.not_mem_nil, or_false] at hx
    rcases hx with rfl | rfl
    · exact hq2.1
    · exact hq2.2
  intro r mine h3 tk3 F3 N3 ap3 hpost
  obtain ⟨⟨tr3, rfl⟩, ti3, n3, rfl⟩ := hpost
  simp only [List.cons_append, List.nil_append] at N3
  k_steps
  rename IsRange _ _ _ _ _ _ _ _ => hR9
  rename Fr h₀ L _ _ => F4
  rename News h₀ L _ _ => N4
  have hn9 := nxt_range ns (0 + 1) 9 (by decide)
  refine wpAny_pyIter_range hR9 (small_one (by decide) (by decide) (by omega) (by omega)) ?_
  rename Heap => hx
  have N5 := N4.push F4 { cls := .type "range_iterator", data := .fields #[rawInt 0, rawInt (Builtin.Range.rangeSize 0 (nxt ns (0 + 1) 9) 1), rawInt 1] }
  have F5 := F4.push { cls := .type "range_iterator", data := .fields #[rawInt 0, rawInt (Builtin.Range.rangeSize 0 (nxt ns (0 + 1) 9) 1), rawInt 1] }
  have hnI : ∀ q ∈ (stl, listOf #[.ref sl, .int (0 + 1 + 1) ti3] n3) :: (sl, listOf vs.toArray n2) :: (drs, listOf #[] 0) :: (dls, listOf #[] 0) :: (L + 1, oDe) :: rest, @LT.lt Nat _ q.1 hx.objs.size := fun q hq => Heap.lt_size (N4 q hq).1
  dsimp only at N5 F5 ⊢
  clear N4 F4
  generalize Heap.push hx _ = hz at N5 F5 ⊢
  generalize hIe : hx.objs.size = I at hnI N5 ⊢
  obtain ⟨nN, hnN⟩ : ∃ k : Nat, nxt ns (0 + 1) 9 = (k : Int) := ⟨_, (Int.toNat_of_nonneg hn9.1).symm⟩
  rw [hnN] at hn9
  have hrs : Builtin.Range.rangeSize 0 (nxt ns (0 + 1) 9) 1 = (nN : Int) := by
    rw [hnN]; unfold Builtin.Range.rangeSize
    rw [if_pos (by decide)]
    split
    · rw [Int.ediv_one]; omega
    · omega
  rw [hrs] at N5
  refine loop_own (KTurns.ofWalks (Walks.range (A := ktrTop dp un gd (Str.ofString "law") lscope L a ccd (lcells L) []) rfl I 0 1 nN) (fun _ _ _ _ _ _ hQ => wpAny_pure hQ))
    (fun i s' => Held (∃ (hh : Heap) (tk : Nat) (mm : Str → Option Value) (n3 nd nr : Nat) (ti3 : Tok) (tl : List (Addr × Obj)) (dvs : List Value), s' = { s with heap := hh, toks := tk } ∧ Fr h₀ L hh mm ∧
      News h₀ L hh ((I, { cls := .type "range_iterator", data := .fields #[rawInt (0 + (i : Nat) * 1), rawInt ((nN : Int) - (i : Nat)), rawInt 1] }) :: (stl, listOf #[.ref sl, .int (2 + 3 * (i : Int)) ti3] n3) :: (sl, listOf vs.toArray n2) :: (drs, listOf dvs.toArray nr) :: (dls, listOf (tl.map fun p => Value.ref p.1).toArray nd) :: (L + 1, oDe) :: (tl ++ rest)) ∧
      Tups tl (deedsOf ns i) ∧ IntsAre dvs (drawsOf ns i) ∧ (∀ q ∈ tl, @LT.lt Nat _ I q.1) ∧ mm (Str.ofString "state") = some (.ref stl) ∧ mm (Str.ofString "draws") = some (.ref drs) ∧ ∃ tr, mm (Str.ofString "room") = some (.int (1 + nxt ns 0 4) tr))) ?h0 ?hst ?step ?hR
  case h0 =>
    refine Held.mk ⟨hz, _, _, n3, 0, 0, ti3, [], [], rfl, F5, ?_, .nil, .nil, (fun q hq => nomatch hq), ?_, ?_, ?_⟩
    · exact N5
    · (repeat (rw [if_neg (by decide)])); assumption
    · exact rfl
    · exact ⟨_, rfl⟩
  case hst =>
    rintro i s' ⟨hh, tk, mm, n3, nd, nr, ti3, tl, dvs, rfl, FF, NN, -⟩
    exact (NN _ List.mem_cons_self).1
  case step =>
    rintro i v s' h₁ tk₁ hi ⟨hh, tk, mm, n3, nd, nr, ti3, tl, dvs, rfl, FF, NN, hTl, hdv, hapt, m1, m2, tr9, m3⟩ ⟨tv, rfl⟩ hst₁ hk₁
    have hsI : @LT.lt Nat _ stl I := hnI _ (.head _)
    have hlI : @LT.lt Nat _ sl I := hnI _ (.tail _ (.head _))
    have hdI : @LT.lt Nat _ drs I := hnI _ (.tail _ (.tail _ (.head _)))
    have heI : @LT.lt Nat _ dls I := hnI _ (.tail _ (.tail _ (.tail _ (.head _))))
    have hrI : ∀ q ∈ rest, @LT.lt Nat _ q.1 I := fun q hq => hnI q (.tail _ (.tail _ (.tail _ (.tail _ (.tail _ hq)))))
    have hI0 := (NN _ List.mem_cons_self).2
    dsimp only at hI0 hk₁
    have hnb : ∀ (b : Addr) (o : Obj), hh.get? b = some o → b ≠ I → h₁.get? b = some o := fun b o e hb => hk₁ b o (fun hm => hb (List.mem_singleton.mp hm)) e
    obtain ⟨W0, hW0⟩ : ∃ r, r = tl ++ rest := ⟨_, rfl⟩
    have hWq : ∀ q ∈ W0, @Ne Nat q.1 stl ∧ @Ne Nat q.1 sl ∧ @Ne Nat q.1 drs ∧ @Ne Nat q.1 dls ∧ @Ne Nat q.1 (L + 1) ∧ @Ne Nat q.1 I := by
      intro q hq
      rw [hW0] at hq
      rcases List.mem_append.mp hq with hq | hq
      · have := hapt q hq
        refine ⟨?_, ?_, ?_, ?_, ?_, ?_⟩ <;> omega
      · have z1 := hr q hq
        have z2 := hr2 q hq
        have z3 := hrI q hq
        refine ⟨?_, ?_, ?_, ?_, z2, ?_⟩ <;> omega
    have w1 : ∀ q ∈ W0, q.1 ≠ stl := fun q hq => (hWq q hq).1
    have w2 : ∀ q ∈ W0, q.1 ≠ sl := fun q hq => (hWq q hq).2.1
    have w3 : ∀ q ∈ W0, q.1 ≠ drs := fun q hq => (hWq q hq).2.2.1
    have w4 : ∀ q ∈ W0, q.1 ≠ dls := fun q hq => (hWq q hq).2.2.2.1
    have w5 : ∀ q ∈ W0, q.1 ≠ L + 1 := fun q hq => (hWq q hq).2.2.2.2.1
    have w6 : ∀ q ∈ W0, q.1 ≠ I := fun q hq => (hWq q hq).2.2.2.2.2
    rw [← hW0] at NN
    have F6 : Fr h₀ L h₁ mm := ⟨FF.ns.at' fun o e => hnb _ o e (Ne.symm hI0.1), fun b o e => hnb b o (FF.keep b o e) (fun q => by rw [q, hI0.2] at e; cases e), FF.above⟩
    have N6 : News h₀ L h₁ ((stl, listOf #[.ref sl, .int (2 + 3 * (i : Int)) ti3] n3) :: (sl, listOf vs.toArray n2) :: (I, { cls := .type "range_iterator", data := .fields #[rawInt (0 + ((i + 1 : Nat) : Int) * 1), rawInt ((nN : Int) - ((i + 1 : Nat) : Int)), rawInt 1] }) :: (drs, listOf dvs.toArray nr) :: (dls, listOf (tl.map fun p => Value.ref p.1).toArray nd) :: (L + 1, oDe) :: W0) := by
      intro q hq
      have hne2 : q.1 ≠ I → q ∈ (stl, listOf #[.ref sl, .int (2 + 3 * (i : Int)) ti3] n3) :: (sl, listOf vs.toArray n2) :: (drs, listOf dvs.toArray nr) :: (dls, listOf (tl.map fun p => Value.ref p.1).toArray nd) :: (L + 1, oDe) :: W0 → h₁.get? q.1 = some q.2 ∧ q.1 ≠ L ∧ h₀.get? q.1 = none := fun h1 h2 => by
        have z := NN q (List.mem_cons_of_mem _ h2)
        exact ⟨hnb _ _ z.1 h1, z.2⟩
      rcases List.mem_cons.mp hq with rfl | hq
      · exact hne2 (Nat.ne_of_lt hsI) (.head _)
      rcases List.mem_cons.mp hq with rfl | hq
      · exact hne2 (Nat.ne_of_lt hlI) (.tail _ (.head _))
      rcases List.mem_cons.mp hq with rfl | hq
      · exact ⟨hst₁, hI0⟩
      rcases List.mem_cons.mp hq with rfl | hq
      · exact hne2 (Nat.ne_of_lt hdI) (.tail _ (.tail _ (.head _)))
      rcases List.mem_cons.mp hq with rfl | hq
      · exact hne2 (Nat.ne_of_lt heI) (.tail _ (.tail _ (.tail _ (.head _))))
      rcases List.mem_cons.mp hq with rfl | hq
      · exact hne2 (by exact (show @Ne Nat _ _ by omega)) (.tail _ (.tail _ (.tail _ (.tail _ (.head _)))))
      · exact hne2 (w6 q hq) (.tail _ (.tail _ (.tail _ (.tail _ (.tail _ hq)))))
    have hi8 : i < 9 := by omega
    have htl : tl.length = i := by rw [hTl.length]; unfold deedsOf; rw [List.length_map, List.length_range]
    have hLt : (tl.map fun p => Value.ref p.1).length ≤ 100 := by rw [List.length_map]; omega
    have hdvl : dvs.length ≤ 100 := by rw [hdv.length]; unfold drawsOf; rw [List.length_map, List.length_range]; omega
    clear NN FF hk₁ hnb N5 F5
    k_steps
    refine unhalt ?_
    rename Fr h₀ L _ _ => F7
    rename News h₀ L _ _ => N7
    refine use1 (next_spec (ti := ti3) (n := n3) (n2 := n2) (i := 2 + 3 * (i : Int)) (k := 8) hI (by omega) (by omega) (by omega) (by decide) (by decide) hne) (rest := (I, { cls := .type "range_iterator", data := .fields #[rawInt (0 + ((i + 1 : Nat) : Int) * 1), rawInt ((nN : Int) - ((i + 1 : Nat) : Int)), rawInt 1] }) :: (drs, listOf dvs.toArray nr) :: (dls, listOf (tl.map fun p => Value.ref p.1).toArray nd) :: (L + 1, oDe) :: W0) B F7 X N7 T hC hcs (by ((repeat' (first | exact List.forall_mem_nil _ | refine List.forall_mem_cons.mpr ⟨?_, ?_⟩)); all_goals (try dsimp only); all_goals (first | assumption | exact (show @Ne Nat _ _ by omega)))) (by omega) (by omega) ?_
    intro r mine h6 tk6 F8 N8 ap8 hpost
    obtain ⟨⟨tr6, rfl⟩, ti6, n6, rfl⟩ := hpost
    simp only [List.cons_append, List.nil_append] at N8
    k_steps
    refine unhalt ?_
    rename Fr h₀ L _ _ => F9
    rename News h₀ L _ _ => N9
    refine use1 (next_spec (ti := ti6) (n := n6) (n2 := n2) (i := 2 + 3 * (i : Int) + 1) (k := 9) hI (by omega) (by omega) (by omega) (by decide) (by decide) hne) (rest := (I, { cls := .type "range_iterator", data := .fields #[rawInt (0 + ((i + 1 : Nat) : Int) * 1), rawInt ((nN : Int) - ((i + 1 : Nat) : Int)), rawInt 1] }) :: (drs, listOf dvs.toArray nr) :: (dls, listOf (tl.map fun p => Value.ref p.1).toArray nd) :: (L + 1, oDe) :: W0) B F9 X N9 T hC hcs (by ((repeat' (first | exact List.forall_mem_nil _ | refine List.forall_mem_cons.mpr ⟨?_, ?_⟩)); all_goals (try dsimp only); all_goals (first | assumption | exact (show @Ne Nat _ _ by omega)))) (by omega) (by omega) ?_
    intro r mine h7 tk7 F10 N10 ap10 hpost
    obtain ⟨⟨tr7, rfl⟩, ti7, n7, rfl⟩ := hpost
    simp only [List.cons_append, List.nil_append] at N10
    k_steps
    refine unhalt ?_
    rename_i DT _ lx _ F11 N11
    obtain ⟨d1, d2, d3, d4, d5, d6, d7⟩ := lx
    have d7' := ktn_ltOf d7
    have hDW : ∀ q ∈ W0, q.1 ≠ DT := fun q hq => Nat.ne_of_lt (d7' q hq)
    have tlE : listOf ((tl.map fun p => Value.ref p.1) ++ [Value.ref DT]).toArray (nd + 1) = listOf ((tl ++ [(DT, tup3 (.int (nxt ns (2 + 3 * (i : Int)) 8) tr6) (.int (nxt ns (2 + 3 * (i : Int) + 1) 9) tr7) (.int (0 + (i : Int) * 1) tv))]).map fun p => Value.ref p.1).toArray (nd + 1) := by rw [List.map_append]; rfl
    refine use1 (next_spec (ti := ti7) (n := n7) (n2 := n2) (i := 2 + 3 * (i : Int) + 1 + 1) (k := 4) hI (by omega) (by omega) (by omega) (by decide) (by decide) hne) (rest := (DT, tup3 (.int (nxt ns (2 + 3 * (i : Int)) 8) tr6) (.int (nxt ns (2 + 3 * (i : Int) + 1) 9) tr7) (.int (0 + (i : Int) * 1) tv)) :: (I, { cls := .type "range_iterator", data := .fields #[rawInt (0 + ((i + 1 : Nat) : Int) * 1), rawInt ((nN : Int) - ((i + 1 : Nat) : Int)), rawInt 1] }) :: (drs, listOf dvs.toArray nr) :: (dls, listOf ((tl.map fun p => Value.ref p.1) ++ [Value.ref DT]).toArray (nd + 1)) :: (L + 1, oDe) :: W0) B F11 X (news_sub N11 ?_) T hC hcs (by ((repeat' (first | exact List.forall_mem_nil _ | refine List.forall_mem_cons.mpr ⟨?_, ?_⟩)); all_goals (try dsimp only); all_goals (first | assumption | exact (show @Ne Nat _ _ by omega)))) (by omega) (by omega) ?_
    · rw [List.push_toArray]
      intro q hq
      simp only [List.mem_cons, List.cons_append, List.nil_append] at hq ⊢
      grind
    intro r mine h8 tk8 F12 N12 ap12 hpost
    obtain ⟨⟨tr8, rfl⟩, ti8, n8, rfl⟩ := hpost
    simp only [List.cons_append, List.nil_append] at N12
    k_steps
    rename Fr h₀ L _ _ => F13
    rename News h₀ L _ _ => N13
    refine Held.mk ⟨_, _, _, n8, nd + 1, nr + 1, ti8, tl ++ [(DT, tup3 (.int (nxt ns (2 + 3 * (i : Int)) 8) tr6) (.int (nxt ns (2 + 3 * (i : Int) + 1) 9) tr7) (.int (0 + (i : Int) * 1) tv))], dvs ++ [.int (nxt ns (2 + 3 * (i : Int) + 1 + 1) 4) tr8], rfl, F13, ?_, ?_, ?_, ?_, ?_, ?_, ?_⟩
    · have e5 : (2 : Int) + 3 * ((i + 1 : Nat) : Int) = 2 + 3 * (i : Int) + 1 + 1 + 1 := by push_cast; omega
      rw [e5]
      rw [List.push_toArray] at N13
      rw [List.map_append]
      refine news_sub N13 ?_
      subst hW0
      intro q hq
      simp only [List.mem_cons, List.mem_append, List.cons_append, List.nil_append, List.not_mem_nil, or_false, List.map_cons, List.map_nil] at hq ⊢
      grind
    · rw [deedsOf_succ]; exact hTl.snoc _ _ _ _ _ _ _
    · rw [drawsOf_succ]; exact hdv.append (.cons _ _ .nil)
    · intro q hq
      rcases List.mem_append.mp hq with hq | hq
      · exact hapt q hq
      · obtain rfl := List.mem_singleton.mp hq
        exact d3
    · (repeat (rw [if_neg (by decide)])); assumption
    · (repeat (rw [if_neg (by decide)])); assumption
    · exact ⟨tr9, by (repeat (rw [if_neg (by decide)])); assumption⟩
  case hR =>
    rintro s' h₁ tk₁ ⟨hh, tk, mm, n3, nd, nr, ti3, tl, dvs, rfl, FF, NN, hTl, hdv, hapt, m1, m2, tr9, m3⟩ hk₁
    have hsI : @LT.lt Nat _ stl I := hnI _ (.head _)
    have hdI : @LT.lt Nat _ drs I := hnI _ (.tail _ (.tail _ (.head _)))
    have heI : @LT.lt Nat _ dls I := hnI _ (.tail _ (.tail _ (.tail _ (.head _))))
    have hrI : ∀ q ∈ rest, @LT.lt Nat _ q.1 I := fun q hq => hnI q (.tail _ (.tail _ (.tail _ (.tail _ (.tail _ hq)))))
    have hI0 := (NN _ List.mem_cons_self).2
    dsimp only at hI0 hk₁ ⊢
    have hnb : ∀ (b : Addr) (o : Obj), hh.get? b = some o → b ≠ I → h₁.get? b = some o := fun b o e hb => hk₁ b o (fun hm => hb (List.mem_singleton.mp hm)) e
    have F6 : Fr h₀ L h₁ mm := ⟨FF.ns.at' fun o e => hnb _ o e (Ne.symm hI0.1), fun b o e => hnb b o (FF.keep b o e) (fun q => by rw [q, hI0.2] at e; cases e), FF.above⟩
    have N6 : News h₀ L h₁ ((drs, listOf dvs.toArray nr) :: (dls, listOf (tl.map fun p => Value.ref p.1).toArray nd) :: (L + 1, oDe) :: (tl ++ rest)) := by
      intro q hq
      have z := NN q (List.mem_cons_of_mem _ (List.mem_cons_of_mem _ (List.mem_cons_of_mem _ hq)))
      refine ⟨hnb _ _ z.1 ?_, z.2⟩
      rcases List.mem_cons.mp hq with rfl | hq
      · exact Nat.ne_of_lt hdI
      rcases List.mem_cons.mp hq with rfl | hq
      · exact Nat.ne_of_lt heI
      rcases List.mem_cons.mp hq with rfl | hq
      · exact (show @Ne Nat _ _ by dsimp only; omega)
      rcases List.mem_append.mp hq with hq | hq
      · exact Ne.symm (Nat.ne_of_lt (hapt q hq))
      · exact Nat.ne_of_lt (hrI q hq)
    exact hk _ _ mm nN nd nr drs dls oDe tl dvs tr9 F6 N6 hoDe hTl hdv (by omega) b1 b5 (fun q hq => Nat.lt_trans hdI (hapt q hq)) m2 m3
end
end Mine
end
section
open PySem PySem.W PyProof.Rows PySem.Calls PyProof.V
set_option Elab.async false
set_option maxRecDepth 100000
set_option maxHeartbeats 1000000
set_option linter.unusedVariables false
set_option linter.unusedSimpArgs false
namespace Mine
theorem anew_RRL2 : True := by
  w_top off
  trivial
local macro_rules | `(tactic| k_all) => `(tactic| assumption)
local macro_rules | `(tactic| dict_fit) => `(tactic| omega)
local macro_rules | `(tactic| k_room) => `(tactic| ktr_room)
local macro_rules | `(tactic| walk_at "call ref") => `(tactic| ((with_reducible show wpAny _ _ (call (Value.ref _) _ _) _ _ _); refine halt ?_))
local macro_rules | `(tactic| walk_at "eval Name") => `(tactic| (k_here; k_dflt (refine' nameX_L ?kA1 ?kA2 ?_ ?kA3 ?kA4 ?kA5; (case kA3 => rfl); (case kA4 => rfl); (case kA5 => decide); (case kA1 => k_asm); (case kA2 => ((try dsimp only); (repeat (rw [if_neg (by decide)])); assumption)); k_whole)))
section
variable {prog : Program} {w : World} {p : Program} {loose : List Str} {mean : ExcName → Option Value} {mg mb : Str → Option Value}
theorem law2 {dp un : Nat} {gd : Option (List Code)} {a : Addr} {ccd : Value} {A₀ : Around} {base h₀ : Heap} {L : Addr} {mm : Str → Option Value} {s : Shared} {Q : Flow → Shared → Prop} {E : Value → Shared → Prop} {drs dls : Addr} {nd nr nN : Nat} {tr : Tok} {dvs : List Value} {ns : List Int} {oDe oC : Obj} {tl rest : List (Addr × Obj)} {more : List Stmt}
    (B : Below A₀ base [] h₀) (F : Fr h₀ L s.heap mm) (X : (K w.params).In h₀) (N : News h₀ L s.heap ((drs, listOf dvs.toArray nr) :: (dls, listOf (tl.map fun p => Value.ref p.1).toArray nd) :: (L + 1, oDe) :: (901, tabObj #[]) :: (L + 1 + 1, oC) :: (tl ++ rest))) (T : Top p loose mean mg mb h₀) (XB : (K w.params).In base) (TB : Top p loose mean mg mb base) (hC : CodeHd base 905 901) (hDe : oDe.data = .cell (some (.ref dls))) (hoC : oC.data = .cell none)
    (hT : Tups tl (deedsOf ns nN)) (hdv : IntsAre dvs (drawsOf ns nN)) (hn8 : nN ≤ 8) (h901 : @LT.lt Nat _ 901 L) (e1 : @LT.lt Nat _ (L + 1 + 1) dls) (e2 : @LT.lt Nat _ dls drs) (e3 : ∀ q ∈ tl, @LT.lt Nat _ drs q.1) (e4 : ∀ q ∈ rest, @LT.lt Nat _ q.1 dls ∧ @Ne Nat q.1 901 ∧ @Ne Nat q.1 (L + 1) ∧ @Ne Nat q.1 (L + 1 + 1)) (m1 : mm (Str.ofString "draws") = some (.ref drs)) (m2 : mm (Str.ofString "room") = some (.int (1 + nxt ns 0 4) tr)) (hd : dp + 200 < recursionLimit) (hu : un + 1600 < cLine)
    (hk : ∀ (hh : Heap) (tk : Nat) (mm' : Str → Option Value) (x : CA) (y : HA) (cl chl : List (Addr × Obj)) (oC' : Obj), Fr h₀ L hh mm' → News h₀ L hh ((L + 1 + 1, oC') :: (L + 1, oDe) :: (901, tabObj (chTab y.cc)) :: (drs, listOf dvs.toArray nr) :: (cl ++ (chl ++ ((dls, listOf (tl.map fun p => Value.ref p.1).toArray nd) :: (tl ++ rest))))) → oC'.data = .cell (some (.ref x.c)) → x.ord → y.ord → x.f = y.f → @LT.lt Nat _ y.f x.d → CacheI prog w x (1 + nxt ns 0 4) (runD (1 + nxt ns 0 4) ⟨[], [], drawsOf ns nN⟩ (deedsOf ns nN)) cl → ChoiceL y [] [] chl →
      (∀ z ∈ cl ++ chl, ∀ q ∈ (L + 1 + 1, oC') :: (L + 1, oDe) :: (901, tabObj (chTab y.cc)) :: (drs, listOf dvs.toArray nr) :: (dls, listOf (tl.map fun p => Value.ref p.1).toArray nd) :: (tl ++ rest), q.1 ≠ z.1) → @LT.lt Nat _ drs y.seen → (∀ q ∈ tl, @LT.lt Nat _ q.1 y.seen) → mm' (Str.ofString "seen") = some (.ref y.seen) → mm' (Str.ofString "draws") = some (.ref drs) → mm' (Str.ofString "room") = some (.int (1 + nxt ns 0 4) tr) →
      wpAny (model prog w) (ktrTop dp un gd (Str.ofString "law") lscope L a ccd (lcells L) []) (execs more (envX (Str.ofString "law") lscope L a ccd (lcells L))) Q E { s with heap := hh, toks := tk }) :
    wpAny (model prog w) (ktrTop dp un gd (Str.ofString "law") lscope L a ccd (lcells L) []) (execs (lb 5 :: lb 6 :: more) (envX (Str.ofString "law") lscope L a ccd (lcells L))) Q E s := by
  have key : (PySem.Challenge.rw_fc0033_01, Mine.K) = (PySem.Challenge.rw_fc0033_01, Mine.K) := by k_fill; rfl
  clear key
  obtain ⟨W0, hW0⟩ : ∃ r, r = tl ++ rest := ⟨_, rfl⟩
  rw [← hW0] at N
  change wpAny _ _ (execs (Stmt.Assign _ _ _ :: Stmt.Assign _ _ _ :: _) (envX _ ⟨_, _, _, _, _⟩ _ _ _ [_, _, _, _, _])) _ _ _
  k_steps
  refine unhalt ?_
  rename_i sen _ lx _ ful _ F1 N1 lx2
  obtain ⟨a1, a2, a3, a4, a5, a6⟩ := lx
  obtain ⟨b1, b2, b3, b4, b5, b6, b7⟩ := lx2
  have a6' := ktn_ltOf a6
  have b7' := ktn_ltOf b7
  have hcs : lscope.kind = .function := rfl
  have hr := nxt_range ns 0 4 (by decide)
  have hdl : (deedsOf ns nN).length = nN := by unfold deedsOf; rw [List.length_map, List.length_range]
  have hdd : (drawsOf ns nN).length = nN := by unfold drawsOf; rw [List.length_map, List.length_range]
  have hd0 : ∀ d ∈ drawsOf ns nN, 0 ≤ d := by
    intro d hd
    obtain ⟨j, -, rfl⟩ := List.mem_map.mp hd
    exact (nxt_range ns _ 4 (by decide)).1
  refine useT0 (made_spec (PC := fun _ => True) (tab := [(901, tabObj #[])]) (dll := (dls, listOf (tl.map fun p => Value.ref p.1).toArray nd) :: tl) (sv := []) (n1 := nr) (n2 := 0) (n3 := 0) (fvs := []) (fs := [])
    (fun left m1 m2 ls sv dr hL q0 q1 => (mkch_spec hL q0 (by omega)).mono fun r mine ⟨y, chl, h1, h2⟩ => ⟨y, chl, h1, trivial, h2⟩) (by omega) ?_ ⟨nd, tl, hT, rfl⟩ hdv .nil (by omega) (by omega) (by omega) (by omega) hd0 (by decide) (by decide)) (rest := (L + 1, oDe) :: (L + 1 + 1, oC) :: rest) B F1 X (news_sub N1 ?_) T XB TB hC hcs ?_ (by omega) (by omega) ?_
  · refine ⟨?_, ?_, by omega, by omega, by omega, ?_⟩
    · intro x hx
      obtain rfl := List.mem_singleton.mp hx
      dsimp only
      refine ⟨?_, ?_, ?_⟩ <;> omega
    · intro x hx q hq
      obtain rfl := List.mem_singleton.mp hx
      rcases List.mem_cons.mp hq with rfl | hq
      · exact (show @Ne Nat _ _ by dsimp only; omega)
      · have := e3 q hq
        exact (show @Ne Nat _ _ by dsimp only; omega)
    · intro q hq
      rcases List.mem_cons.mp hq with rfl | hq
      · dsimp only
        refine ⟨?_, ?_, ?_⟩ <;> omega
      · have h1 := e3 q hq
        have h2 : @LT.lt Nat _ q.1 sen := a6' q (by rw [hW0]; exact List.mem_append_left _ hq)
        have h3 : @LT.lt Nat _ q.1 ful := b7' q (by rw [hW0]; exact List.mem_append_left _ hq)
        refine ⟨?_, ?_, ?_⟩ <;> omega
  · subst hW0
    intro q hq
    simp only [List.mem_cons, List.mem_append, List.cons_append, List.nil_append, List.not_mem_nil, or_false] at hq ⊢
    grind
  · intro x hx q hq
    have hxx : x.1 = 901 ∨ @LE.le Nat _ dls x.1 := by
      rcases List.mem_append.mp hx with hx | hx
      · obtain rfl := List.mem_singleton.mp hx
        exact .inl rfl
      refine .inr ?_
      rcases List.mem_cons.mp hx with rfl | hx
      · dsimp only; omega
      rcases List.mem_cons.mp hx with rfl | hx
      · dsimp only; omega
      rcases List.mem_cons.mp hx with rfl | hx
      · dsimp only; omega
      rcases List.mem_cons.mp hx with rfl | hx
      · exact Nat.le_refl _
      · have := e3 x hx
        omega
    have hqq : @LT.lt Nat _ q.1 dls ∧ @Ne Nat q.1 901 := by
      rcases List.mem_cons.mp hq with rfl | hq
      · dsimp only; constructor <;> omega
      rcases List.mem_cons.mp hq with rfl | hq
      · dsimp only; constructor <;> omega
      · exact ⟨(e4 q hq).1, (e4 q hq).2.1⟩
    rcases hxx with e | e
    · rw [e]; exact hqq.2
    · exact Nat.ne_of_lt (Nat.lt_of_lt_of_le hqq.1 e)
  intro r mine h1 tk1 F2 N2 ap2 hpost
  obtain ⟨x, y, cl, chl, rfl, -, ox, oy, hxf, hfx, hys, hci, hch, hap, rfl⟩ := hpost
  obtain ⟨W1, hW1⟩ : ∃ r, r = (L + 1, oDe) :: (901, tabObj (chTab y.cc)) :: (drs, listOf dvs.toArray nr) :: (cl ++ (chl ++ ((dls, listOf (tl.map fun p => Value.ref p.1).toArray nd) :: (tl ++ rest)))) := ⟨_, rfl⟩
  have N3 := news_sub (l' := (L + 1 + 1, oC) :: W1) N2 (by
    subst hW1
    intro q hq
    simp only [List.mem_cons, List.mem_append, List.cons_append, List.nil_append, List.not_mem_nil, or_false] at hq ⊢
    grind)
  have apW1 : ∀ q ∈ W1, q.1 ≠ L + 1 + 1 := by
    intro q hq
    have hin : q.1 = L + 1 ∨ q ∈ (901, tabObj (chTab y.cc)) :: (drs, listOf dvs.toArray nr) :: (ful, listOf ([] : List Value).toArray 0) :: (cl ++ (chl ++ ((dls, listOf (tl.map fun p => Value.ref p.1).toArray nd) :: tl))) ∨ q ∈ rest := by
      subst hW1
      simp only [List.mem_cons, List.mem_append] at hq ⊢
      grind
    rcases hin with e | h | h
    · rw [e]; exact (show @Ne Nat _ _ by omega)
    · exact Ne.symm (ap2 q h (L + 1 + 1, oC) (.tail _ (.head _)))
    · exact (e4 q h).2.2.2
  clear N1 F1 N2
  k_steps
  rename Fr h₀ L _ _ => F4
  rename News h₀ L _ _ => N4
  rename_i oC' hoC'
  subst hW1
  refine hk _ _ _ x y cl chl oC' F4 N4 hoC' ox oy hxf hfx hci hch ?_ (by rw [hys]; exact a1) (fun q hq => by rw [hys]; exact a6' q (by rw [hW0]; exact List.mem_append_left _ hq)) ?_ ?_ ?_
  · intro z hz q hq
    have hzm : z ∈ (901, tabObj (chTab y.cc)) :: (drs, listOf dvs.toArray nr) :: (ful, listOf ([] : List Value).toArray 0) :: (cl ++ (chl ++ ((dls, listOf (tl.map fun p => Value.ref p.1).toArray nd) :: tl))) := by
      refine List.mem_cons_of_mem _ (List.mem_cons_of_mem _ (List.mem_cons_of_mem _ ?_))
      rcases List.mem_append.mp hz with hz | hz
      · exact List.mem_append_left _ hz
      · exact List.mem_append_right _ (List.mem_append_left _ hz)
    rcases List.mem_cons.mp hq with rfl | hq
    · exact ap2 z hzm (L + 1 + 1, oC) (.tail _ (.head _))
    rcases List.mem_cons.mp hq with rfl | hq
    · exact ap2 z hzm (L + 1, oDe) (.head _)
    rcases List.mem_cons.mp hq with rfl | hq
    · exact hap z hz _ (.head _)
    rcases List.mem_cons.mp hq with rfl | hq
    · exact hap z hz _ (.tail _ (.head _))
    rcases List.mem_cons.mp hq with rfl | hq
    · exact hap z hz _ (.tail _ (.tail _ (.tail _ (.head _))))
    rcases List.mem_append.mp hq with hq | hq
    · exact hap z hz q (.tail _ (.tail _ (.tail _ (.tail _ hq))))
    · exact ap2 z hzm q (.tail _ (.tail _ hq))
  · rw [hys]; exact rfl
  · (repeat (rw [if_neg (by decide)])); assumption
  · (repeat (rw [if_neg (by decide)])); assumption
end
end Mine
end
section
open PySem PySem.W PyProof.Rows PySem.Calls PyProof.V
set_option Elab.async false
set_option maxRecDepth 100000
set_option maxHeartbeats 1000000
set_option linter.unusedVariables false
set_option linter.unusedSimpArgs false
namespace Mine
local macro_rules | `(tactic| k_all) => `(tactic| assumption)
theorem encD_keys {kvs : List (Int × Value)} {kv : KV} (hf : FlatPairs PyData.int kvs (encD kv)) : kvs.map (·.1) = kv.map (·.1) := by
  induction kv generalizing kvs with
  | nil => cases hf; rfl
  | cons p kv ih =>
    obtain ⟨k, d⟩ := p
    have hf' : FlatPairs PyData.int kvs ((PyData.int k, d) :: encD kv) := hf
    generalize hD : (PyData.int k, d) :: encD kv = D at hf'
    cases hf' with
    | nil => cases hD
    | cons h1 h2 =>
      injection hD with e1 e2
      injection e1 with e3 e4
      injection e3 with e5
      subst e2
      simp only [List.map_cons, ih h2, e5]
theorem ints_keys {kvs : List (Int × Value)} : ∀ {vs : List Value}, vs.length = kvs.length → (∀ (j : Nat) v, vs[j]? = some v → ∃ (k : Int) (x : Value), kvs[j]? = some (k, x) ∧ Value.isInt k v = true) → IntsAre vs (kvs.map (·.1)) := by
  induction kvs with
  | nil => intro vs hl _; cases vs with | nil => exact .nil | cons => simp at hl
  | cons p kvs ih =>
    intro vs hl h
    cases vs with
    | nil => simp at hl
    | cons v vs =>
      obtain ⟨k, x, e, hk⟩ := h 0 v rfl
      obtain ⟨t, rfl⟩ := Value.isInt_shape hk
      obtain rfl : p = (k, x) := by simpa using e
      exact .cons k t (ih (by simpa using hl) fun j v e => h (j + 1) v (by simpa using e))
section
variable {prog : Program} {w : World} {p : Program} {loose : List Str} {mean : ExcName → Option Value} {mg mb : Str → Option Value}
theorem extend_cache {dp un : Nat} {gd : Option (List Code)} {cn : Str} {cs : Scope} {a : Addr} {ccd : Value} {cl : List (Str × Addr)} {outer : List Env} {A₀ : Around} {base h₀ : Heap} {L S : Addr} {m : Str → Option Value} {rest : List (Addr × Obj)} {s : Shared} {R : Result → Shared → Prop} {x : CA} {room : Int} {kv ix : KV} {ks : List Int} {pre : List (Addr × Obj)} {n2 : Nat} {res : Value} (o : x.ord) (hc : CacheL prog w x room kv ix ks pre) (hsz : kv.length ≤ 64)
    (B : Below A₀ base outer h₀) (F2 : Fr h₀ L s.heap m) (X : (K w.params).In h₀) (N2 : News h₀ L s.heap ((S, listOf #[] n2) :: (pre ++ rest))) (T : Top p loose mean mg mb h₀) (hC : CodeHd base 905 901) (hcs : cs.kind = .function) (hlt : ∀ q ∈ pre ++ rest, @LT.lt Nat _ q.1 S) (hap : ∀ x ∈ pre, ∀ q ∈ rest, q.1 ≠ x.1) (hd : dp + 20 < recursionLimit) (hu : un + 90 < cLine)
    (hret : ∀ (ds : List Value) (c : Nat) (pre' : List (Addr × Obj)) h' tk', Fr h₀ L h' m → News h₀ L h' ((S, listOf ds.toArray c) :: (pre' ++ rest)) → IntsAre ds (kv.map (·.1)) → CacheL prog w x room kv ix ks pre' → (∀ q ∈ pre' ++ rest, @LT.lt Nat _ q.1 S) → R (.ok (.ret res)) { s with heap := h', toks := tk' }) :
    wpAny (model prog w) (ktrTop dp un gd cn cs L a ccd cl outer).in1 (Builtin.List.listExtendWith (.ref S) (.ref x.c) res)
      (fun fin s' => match fin with | .done f => R (.ok f) s' | .again c' => c'.quiet = true ∧ codeAny (model prog w) (ktrTop dp un gd cn cs L a ccd cl outer) c' R s') (fun e s' => R (.error e) s') s := by
  have key : (PySem.Challenge.rw_fc0033_01, Mine.K) = (PySem.Challenge.rw_fc0033_01, Mine.K) := by k_fill; rfl
  clear key
  have hcx := hc
  obtain ⟨od, oi, kvs, ivs, vs, nk, t1, t2, t3, t4, t5, t6, tc, tr, hod, hf, hoi, hfi, hI, rfl⟩ := hcx
  unfold Builtin.List.listExtendWith
  simp only [List.cons_append, List.nil_append] at N2
  have II : InstAt s.heap x.c (instObj 890 x.d) 890 (some (dictOf (cEs w.params t1 t2 t3 t4 t5 t6 x.dd (ks.length : Int) tc room tr x.f x.di x.dk) 6)) := by k_inst
  refine wpAny_bind (II.type.here ?_)
  have hSc : Builtin.List.listSameRef (.ref S) (.ref x.c) = false := beq_eq_false_iff_ne.mpr (Ne.symm (Nat.ne_of_lt (hlt _ (.head _))))
  rw [hSc, if_neg (by decide)]
  refine wpAny_bind (owit_iter (K := K w.params) (f := 763) F2 X II (by k_is) (by k_is) ?_)
  refine use1 (iter_spec o hc hsz) (rest := (S, listOf #[] n2) :: rest) B F2 X (news_sub N2 ?_) T hC hcs ?_ (by exact (show dp + 3 < recursionLimit by omega)) (by exact (show un + 1 + 30 < cLine by omega)) ?_
  · intro q hq
    simp only [List.mem_cons, List.mem_append, List.cons_append, List.nil_append] at hq ⊢
    grind
  · intro z hz q hq
    rcases List.mem_cons.mp hq with rfl | hq
    · exact Ne.symm (Nat.ne_of_lt (hlt z (List.mem_append_left _ hz)))
    · exact hap z hz q hq
  intro r mine h3 tk3 F3 N3 ap3 hpost
  obtain ⟨I, oI, od2, ep, kvs2, cl2, rfl, hKI, hdm, hKA, hf2, hc2, hI2, rfl⟩ := hpost
  have hIt := hKI.at (N3 _ (.head _)).1
  unfold OwitIt
  refine wpAny_specialOf hIt.typeIs PySem.F.slot_dict_keyiterator_next.lookup ?_
  dsimp only
  refine wpAny_bind (wpAny_holding ?_)
  unfold Builtin.List.listLengthHint
  have hc3 := hc2
  obtain ⟨od3, oi3, kvs3, ivs3, vs3, nk3, v1, v2, v3, v4, v5, v6, vc, vr, hod3, hf3, hoi3, hfi3, hI3, rfl⟩ := hc3
  have N4 := news_sub (l' := [(x.c, instObj 890 x.d), (x.d, dictOf (cEs w.params v1 v2 v3 v4 v5 v6 x.dd (ks.length : Int) vc room vr x.f x.di x.dk) 6)]) N3 (by
    intro q hq
    simp only [List.mem_cons, List.mem_append, List.cons_append, List.nil_append, List.not_mem_nil, or_false] at hq ⊢
    grind)
  have I3 : InstAt h3 x.c (instObj 890 x.d) 890 (some (dictOf (cEs w.params v1 v2 v3 v4 v5 v6 x.dd (ks.length : Int) vc room vr x.f x.di x.dk) 6)) := by
    clear N3 N2 II
    k_inst
  have hlen : findIn (K w.params) (.ref 890) (Str.ofString "__len__") = some (some (.ref 770)) := by k_is
  have hfn : isFn (K w.params) (.ref 770) = true := by k_is
  have X3 := X.keeps F3.keep
  refine wpAny_bind (wpAny_bind (I3.type.here ((looks_findIn X3 hlen).here ?_)))
  dsimp only
  rw [if_neg (by exact Bool.false_ne_true), if_pos (by exact rfl)]
  refine wpAny_bind (wpAny_rule (wpAny_bind (wpAny_attempt ?_)))
  refine len_K F3 X I3 hlen hfn ?_
  refine use1 (len_spec o hc2 hsz) (rest := (I, oI) :: (S, listOf #[] n2) :: rest) B F3 X (news_sub N3 ?_) T hC hcs ?_ (by exact (show dp + 3 < recursionLimit by omega)) (by exact (show un + 1 + 1 + 30 < cLine by omega)) ?_
  · intro q hq
    simp only [List.mem_cons, List.mem_append, List.cons_append, List.nil_append, List.not_mem_nil, or_false] at hq ⊢
    grind
  · intro z hz q hq
    rcases List.mem_cons.mp hq with rfl | hq
    · exact Ne.symm (Nat.ne_of_lt (hI2 z hz))
    · exact ap3 z (List.mem_cons_of_mem _ hz) q hq
  intro r mine h4 tk4 F5 N5 ap5 hpost
  obtain ⟨⟨tl, rfl⟩, hmine⟩ := hpost
  refine ⟨⟨by omega, by omega⟩, ?_⟩
  dsimp only
  refine wpAny_bind (m := asInt? _) (wpAny_pure ?_)
  dsimp only
  have hll : Builtin.List.listTooLong (kv.length : Int).toNat = false := decide_eq_false (by rw [PySem.sizeLine_eq]; omega)
  rw [if_neg (by rw [hll]; exact Bool.false_ne_true)]
  refine wpAny_pure ?_
  have fin : ∀ (hh : Heap) (tk n9 : Nat), Fr h₀ L hh m → News h₀ L hh ((S, listOf #[] n9) :: (I, oI) :: (mine ++ rest)) → (Code.builtin "list.extend.loop" ⟨[.ref S, .ref I, res], []⟩).quiet = true ∧ codeAny (model prog w) (ktrTop dp un gd cn cs L a ccd cl outer) (.builtin "list.extend.loop" ⟨[.ref S, .ref I, res], []⟩) R { s with heap := hh, toks := tk } := by
    intro hh tk n9 FF NN
    have hddm : (x.dd, od2) ∈ mine := by rw [hmine]; exact hdm
    have hneI : x.dd ≠ I := Nat.ne_of_lt (hI2 _ hdm)
    have hneS : x.dd ≠ S := Ne.symm (ap5 _ hddm (S, listOf #[] n2) (.tail _ (.head _)))
    have hIS : I ≠ S := Ne.symm (ap3 _ (.head _) (S, listOf #[] n2) (.head _))
    have W := (Walks.dictKeys (prog := prog) (w := w) (knd := intKind prog w) (A := (ktrTop dp un gd cn cs L a ccd cl outer).in1) rfl I x.dd hneI kvs2 ep).toS
    have hkl : kvs2.length ≤ 64 := by have := hf2.length; rw [encD_length] at this; omega
    refine ⟨plainId_quiet PySem.F.plain_extend_loop _, codeAny_extend_loopS W (by rw [PySem.sizeLine_eq]; omega) S ?_ res kvs2.length 0 _ #[] n9 (Nat.sub_zero _) (Nat.zero_le _) ⟨?_, ?_⟩ (NN _ (.head _)).1 (ItemsOf.nil _) ?_⟩
    · intro hm9
      rcases List.mem_cons.mp hm9 with e | hm9
      · exact hIS e.symm
      · exact hneS (List.mem_singleton.mp hm9).symm
    · exact hKI.at (NN _ (.tail _ (.head _))).1
    · exact hKA.dictAt (NN _ (.tail _ (.tail _ (List.mem_append_left _ hddm)))).1
    · intro s' acc' c' hmv hS' hit
      obtain ⟨k1, k2, k3, k4, k5⟩ := hmv
      obtain ⟨h9, g9, d9, tk9, os9⟩ := s'
      dsimp only at k1 k2 k3 k4 k5 hS' ⊢
      subst k2 k3 k4
      have zS := (NN _ (.head _)).2
      have zI := (NN _ (.tail _ (.head _))).2
      dsimp only at zS zI
      have kk : ∀ (b : Addr) (o : Obj), hh.get? b = some o → b ≠ S → b ≠ I → h9.get? b = some o := fun b o e h1 h2 => k1 b o (fun hm => by
        rcases List.mem_cons.mp hm with q | hm
        · exact h1 q
        · exact h2 (List.mem_singleton.mp hm)) e
      have F9 : Fr h₀ L h9 m := ⟨FF.ns.at' fun o e => kk _ o e (Ne.symm zS.1) (Ne.symm zI.1), fun b o e => kk b o (FF.keep b o e) (fun q => by rw [q, zS.2] at e; cases e) (fun q => by rw [q, zI.2] at e; cases e), FF.above⟩
      refine hret acc'.toList c' mine h9 tk9 F9 ?_ ?_ (by rw [hmine]; exact hc2) ?_
      · intro q hq
        rcases List.mem_cons.mp hq with rfl | hq
        · exact ⟨hS', zS⟩
        · have z := NN q (.tail _ (.tail _ hq))
          refine ⟨kk _ _ z.1 ?_ ?_, z.2⟩
          · rcases List.mem_append.mp hq with hq | hq
            · exact Ne.symm (ap5 q hq (S, listOf #[] n2) (.tail _ (.head _)))
            · exact Nat.ne_of_lt (hlt q (List.mem_append_right _ hq))
          · rcases List.mem_append.mp hq with hq | hq
            · exact Ne.symm (ap5 q hq (I, oI) (.head _))
            · exact ap3 (I, oI) (.head _) q (.tail _ hq)
      · rw [← encD_keys hf2]
        obtain ⟨z1, z2⟩ := hit
        exact ints_keys (by rw [Array.length_toList]; exact z1) fun j v e => z2 j v (by rw [← Array.getElem?_toList]; exact e)
      · have g1 := hlt _ (.head _)
        have g2 := hlt _ (.tail _ (.head _))
        have g3 := hlt _ (.tail _ (.tail _ (.head _)))
        have g4 := hlt _ (.tail _ (.tail _ (.tail _ (.head _))))
        have g5 := hlt _ (.tail _ (.tail _ (.tail _ (.tail _ (.head _)))))
        intro q hq
        rcases List.mem_append.mp hq with hq | hq
        · rw [hmine] at hq
          simp only [List.mem_cons, List.not_mem_nil, or_false] at hq
          rcases hq with rfl | rfl | rfl | rfl | rfl
          · exact g1
          · exact g2
          · exact g3
          · exact g4
          · exact g5
        · exact hlt q (List.mem_append_right _ hq)
  have hSm : ∀ q ∈ (I, oI) :: (mine ++ rest), q.1 ≠ S := by
    intro q hq
    rcases List.mem_cons.mp hq with rfl | hq
    · exact Ne.symm (ap3 _ (.head _) (S, listOf #[] n2) (.head _))
    rcases List.mem_append.mp hq with hq | hq
    · exact Ne.symm (ap5 q hq (S, listOf #[] n2) (.tail _ (.head _)))
    · exact Nat.ne_of_lt (hlt q (List.mem_append_right _ hq))
  have N6 := news_sub (l' := (S, listOf #[] n2) :: (I, oI) :: (mine ++ rest)) N5 (by
    intro q hq
    simp only [List.mem_cons, List.mem_append, List.cons_append, List.nil_append, List.not_mem_nil, or_false] at hq ⊢
    grind)
  have hSS := (N6 _ (.head _))
  dsimp only at hSS
  split
  · refine wpAny_bind (wpAny_rule ?_)
    unfold Builtin.List.listTouch Builtin.List.listUpdate
    refine wpAny_bind (wpAny_bind (wpAny_updateSeq (f := (·.push .none)) hSS.1 rfl ?_))
    obtain ⟨n7, N7⟩ := list_cleared (pre := []) (its' := #[.none]) (·.push .none) N6 (fun q hq => nomatch hq) hSm rfl
    have F7 := F5.change (Heap.SameBut.update h4 S (Obj.mapSeq (·.push .none))) hSS.2.1 hSS.2.2
    dsimp only [List.nil_append] at N7 F7 ⊢
    generalize Heap.update h4 S _ = h8 at N7 F7 ⊢
    refine wpAny_updateSeq (f := (·.pop)) (N7 _ (.head _)).1 rfl ?_
    obtain ⟨n8, N8⟩ := list_cleared (pre := []) (its' := #[]) (·.pop) N7 (fun q hq => nomatch hq) hSm rfl
    have F8 := F7.change (Heap.SameBut.update h8 S (Obj.mapSeq (·.pop))) (N7 _ (.head _)).2.1 (N7 _ (.head _)).2.2
    exact wpAny_pure (fin _ _ n8 F8 N8)
  · exact wpAny_pure (fin _ _ n2 F5 N6)
theorem list_cache {dp un : Nat} {gd : Option (List Code)} {cn : Str} {cs : Scope} {a : Addr} {ccd : Value} {cl : List (Str × Addr)} {outer : List Env} {A₀ : Around} {base h₀ : Heap} {L : Addr} {m : Str → Option Value} {rest : List (Addr × Obj)} {s : Shared} {Q E : Value → Shared → Prop} {x : CA} {room : Int} {kv ix : KV} {ks : List Int} {pre : List (Addr × Obj)} (o : x.ord) (hc : CacheL prog w x room kv ix ks pre) (hsz : kv.length ≤ 64)
    (B : Below A₀ base outer h₀) (F : Fr h₀ L s.heap m) (X : (K w.params).In h₀) (N : News h₀ L s.heap (pre ++ rest)) (T : Top p loose mean mg mb h₀) (hC : CodeHd base 905 901) (hcs : cs.kind = .function) (hap : ∀ x ∈ pre, ∀ q ∈ rest, q.1 ≠ x.1) (hd : dp + 20 < recursionLimit) (hu : un + 100 < cLine)
    (hret : ∀ (D : Addr) (ds : List Value) (c : Nat) (pre' : List (Addr × Obj)) h' tk', Fr h₀ L h' m → News h₀ L h' ((D, listOf ds.toArray c) :: (pre' ++ rest)) → IntsAre ds (kv.map (·.1)) → CacheL prog w x room kv ix ks pre' → (∀ q ∈ pre' ++ rest, @LT.lt Nat _ q.1 D) → Q (.ref D) { s with heap := h', toks := tk' }) :
    wpAny (model prog w) (ktrTop dp un gd cn cs L a ccd cl outer) (call (.type "list") [.ref x.c]) Q E s := by
  refine callType_codes (Q₁ := fun obj s₁ => obj = .ref s.heap.objs.size ∧ s₁ = { s with heap := s.heap.push { cls := .type "list", data := .seq #[] } }) PySem.F.called_list (PySem.F.typeCall_list_1 _) PySem.F.entry_list_init
    (code_list_new _ ⟨rfl, rfl⟩) fun obj s₁ h₁ => ?_
  obtain ⟨rfl, rfl⟩ := h₁
  have hS : (s.heap.push { cls := .type "list", data := .seq #[] }).get? s.heap.objs.size = some { cls := .type "list", data := .seq #[] } := Heap.get?_push_size _ rfl
  refine ⟨⟨_, hS, rfl⟩, PySem.F.args_list_init_2 _ _, ?_⟩
  have N1 := N.push F { cls := .type "list", data := .seq #[] }
  have F1 := F.push { cls := .type "list", data := .seq #[] }
  have hlt : ∀ q ∈ _ ++ rest, @LT.lt Nat _ q.1 s.heap.objs.size := fun q hq => Heap.lt_size (N q hq).1
  generalize hSe : s.heap.objs.size = S at N1 hS hlt ⊢
  generalize Heap.push s.heap _ = hz at N1 F1 hS ⊢
  show wpAny _ _ (do let old ← Builtin.List.listItems (.ref S); Builtin.List.listUpdate (.ref S) (fun _ => #[]); letGo old.toList.reverse; Builtin.List.listExtendWith (.ref S) (.ref x.c) .none) _ _ _
  refine wpAny_bind ?_
  unfold Builtin.List.listItems
  refine wpAny_bind (wpAny_seqItems hS rfl (wpAny_pure ?_))
  refine wpAny_bind (m := updateSeq S (fun _ => #[])) (wpAny_updateSeq hS rfl ?_)
  refine wpAny_bind (wpAny_letGo ?_)
  obtain ⟨n2, N2⟩ := list_cleared (pre := []) (fun _ => #[]) N1 (fun q hq => nomatch hq) (fun q hq => Nat.ne_of_lt (hlt q hq)) rfl
  have hz1 := (N1 _ (.head _)).2
  have F2 := F1.change (Heap.SameBut.update hz S (Obj.mapSeq fun _ => #[])) hz1.1 hz1.2
  simp only [List.nil_append] at N2
  dsimp only at F2 N2 ⊢
  generalize Heap.update hz S _ = hy at N2 F2 ⊢
  exact extend_cache (un := un + 1) o hc hsz B F2 X N2 T hC hcs hlt hap hd (by omega) fun ds c pre' h' tk' F' N' hI' hc' hlt' => ⟨rfl, hret S ds c pre' h' tk' F' N' hI' hc' hlt'⟩
theorem sort_ints {A : Around} {E : Value → Shared → Prop} {s : Shared} {h₀ : Heap} {L D : Addr} {m : Str → Option Value} {news : List (Addr × Obj)} {vs : List Value} {ns : List Int} {n : Nat} {Q : Value → Shared → Prop} (F : Fr h₀ L s.heap m) (N : News h₀ L s.heap ((D, listOf vs.toArray n) :: news)) (hap : ∀ q ∈ news, q.1 ≠ D) (hI : IntsAre vs ns) (h64 : vs.length < 64)
    (h : ∀ vs' ns' c h', Fr h₀ L h' m → News h₀ L h' ((D, listOf vs'.toArray c) :: news) → IntsAre vs' ns' → ns'.Perm ns → ns'.Pairwise (· ≤ ·) → Q .none { s with heap := h' }) :
    wpAny (model prog w) A (call (.builtin "list.sort") [.ref D]) Q E s := by
  have z := N _ (.head _)
  have ho : s.heap.get? D = some (seqObj "list" vs.toArray n) := z.1
  refine wpAny_call_entry PyProof.Rows.slot_list_sort ⟨_, z.1, rfl⟩ PyProof.Rows.entry_list_sort (list_sort_tree (n := n) (vs := vs) ho hI h64 fun out ns' hI' hp hP => ⟨.none, rfl, ?_⟩) (PyProof.Rows.args_list_sort _)
  obtain ⟨n1, N1⟩ := list_cleared (pre := []) (its' := #[]) (fun _ => #[]) N (fun q hq => nomatch hq) hap rfl
  have F1 := F.change (Heap.SameBut.update s.heap D (Obj.mapSeq fun _ => #[])) z.2.1 z.2.2
  have N2 := News.grown N1 fun _ _ e => Heap.get?_push_of_some (seqObj "tuple" vs.toArray 0) e
  have N3 := News.grown N2 fun _ _ e => Heap.get?_push_of_some (seqObj "list" #[] 0) e
  obtain ⟨n4, N4⟩ := list_cleared (pre := []) (its' := out) (fun _ => out) N3 (fun q hq => nomatch hq) hap rfl
  have F4 := ((F1.push (seqObj "tuple" vs.toArray 0)).push (seqObj "list" #[] 0)).change (Heap.SameBut.update _ D (Obj.mapSeq fun _ => out)) z.2.1 z.2.2
  refine h out.toList ns' n4 _ F4 ?_ hI' hp hP
  rw [Array.toArray_toList]
  exact N4
theorem sorted_dict {A : Around} {E : Value → Shared → Prop} {s : Shared} {h₀ : Heap} {L d : Addr} {m : Str → Option Value} {news : List (Addr × Obj)} {od : Obj} {kvs : List (Int × Value)} {kv : KV} {Q : Value → Shared → Prop} (hh : A.handled = none) (F : Fr h₀ L s.heap m) (N : News h₀ L s.heap news) (hm : (d, od) ∈ news) (hod : od.IsDictOf (intKind prog w) kvs) (hf : FlatPairs PyData.int kvs (encD kv)) (lo : (d == sysModules) = false) (hn : kv.length ≤ 60)
    (h : ∀ D vs ns c h' tk, Fr h₀ L h' m → News h₀ L h' ((D, listOf vs.toArray c) :: news) → (∀ q ∈ news, @LT.lt Nat _ q.1 D) → IntsAre vs ns → ns.Perm (kv.map (·.1)) → ns.Pairwise (· ≤ ·) → Q (.ref D) { s with heap := h', toks := tk }) :
    wpAny (model prog w) A (call (.builtin "sorted") [.ref d]) Q E s := by
  obtain ⟨ep, hat⟩ := KdkAt.of hod
  have hl : kvs.length = kv.length := by have := hf.length; rw [encD_length] at this; exact this.symm
  refine kdu_sorted (kdl_dict (knd := intKind prog w) (kvs := kvs) (ep := ep) lo) hh F N (hat.dictAt (N _ hm).1) (by rw [PySem.sizeLine_eq]; omega) fun B h' tk vs F' N' l1 hl2 hv => ?_
  have hI : IntsAre vs (kv.map (·.1)) := by rw [← encD_keys hf]; exact ints_keys hl2 hv
  exact sort_ints F' N' (fun q hq => Nat.ne_of_lt (l1 q hq)) hI (by omega) fun vs' ns' c h2 F2 N2 i p q => h B vs' ns' c h2 tk F2 N2 l1 i p q
theorem sorted_cache {dp un : Nat} {gd : Option (List Code)} {cn : Str} {cs : Scope} {a : Addr} {ccd : Value} {cl : List (Str × Addr)} {outer : List Env} {A₀ : Around} {base h₀ : Heap} {L : Addr} {m : Str → Option Value} {rest : List (Addr × Obj)} {s : Shared} {Q E : Value → Shared → Prop} {x : CA} {room : Int} {kv ix : KV} {ks : List Int} {pre : List (Addr × Obj)} (o : x.ord) (hc : CacheL prog w x room kv ix ks pre) (hsz : kv.length ≤ 60)
    (B : Below A₀ base outer h₀) (F : Fr h₀ L s.heap m) (X : (K w.params).In h₀) (N : News h₀ L s.heap (pre ++ rest)) (T : Top p loose mean mg mb h₀) (hC : CodeHd base 905 901) (hcs : cs.kind = .function) (hap : ∀ x ∈ pre, ∀ q ∈ rest, q.1 ≠ x.1) (hd : dp + 20 < recursionLimit) (hu : un + 100 < cLine)
    (hret : ∀ (D : Addr) (vs : List Value) (ns : List Int) (c : Nat) (pre' : List (Addr × Obj)) h' tk', Fr h₀ L h' m → News h₀ L h' ((D, listOf vs.toArray c) :: (pre' ++ rest)) → (∀ q ∈ pre' ++ rest, @LT.lt Nat _ q.1 D) → IntsAre vs ns → ns.Perm (kv.map (·.1)) → ns.Pairwise (· ≤ ·) → CacheL prog w x room kv ix ks pre' → Q (.ref D) { s with heap := h', toks := tk' }) :
    wpAny (model prog w) (ktrTop dp un gd cn cs L a ccd cl outer) (call (.builtin "sorted") [.ref x.c]) Q E s := by
  refine call_function_entry kind_sorted plain_sorted entry_sorted (args_sorted1 _) ?_
  unfold Builtin.«sorted»
  refine wpAny_bind (m := checkCount "sorted" 1 1 _) (wpAny_pure ?_)
  refine wpAny_bind ?_
  unfold collect
  refine wpAny_bind (wpAny_runValue (codeAny_builtin entry_proto_collect' ?_))
  rw [Around.under_plainId PySem.F.plain_proto_collect _]
  show wpAny _ (ktrTop dp un gd cn cs L a ccd cl outer).in1.in1 (newList [] >>= fun l => again (.builtin "list.__iadd__" ⟨[l, .ref x.c], []⟩)) _ _ s
  refine wpAny_bind (wpAny_newObj_type ?_)
  refine wpAny_pure ⟨plainId_quiet PySem.F.plain_list_iadd _, codeAny_builtin entry_list_iadd' ?_⟩
  rw [Around.under_plainId PySem.F.plain_list_iadd _]
  have N1 := N.push F { cls := .type "list", data := .seq ([] : List Value).toArray }
  have F1 := F.push { cls := .type "list", data := .seq ([] : List Value).toArray }
  have hlt : ∀ q ∈ pre ++ rest, @LT.lt Nat _ q.1 s.heap.objs.size := fun q hq => Heap.lt_size (N q hq).1
  show wpAny _ (ktrTop dp un gd cn cs L a ccd cl outer).in1.in1 (Builtin.List.listExtendWith (.ref s.heap.objs.size) (.ref x.c) (.ref s.heap.objs.size)) _ _ _
  have key := extend_cache (un := un + 1) (p := p) (loose := loose) (mean := mean) (mg := mg) (mb := mb) (gd := gd) (cn := cn) (a := a) (ccd := ccd) (cl := cl) (outer := outer) (S := s.heap.objs.size) (s := { s with heap := s.heap.push { cls := .type "list", data := .seq ([] : List Value).toArray } }) (res := .ref s.heap.objs.size) (n2 := 0)
    (R := fun (q : Result) (s' : Shared) => ∃ (h' : Heap) (tk : Nat) (ds : List Value) (c : Nat) (pre' : List (Addr × Obj)), q = .ok (.ret (.ref s.heap.objs.size)) ∧ s' = { s with heap := h', toks := tk } ∧ Fr h₀ L h' m ∧ News h₀ L h' ((s.heap.objs.size, listOf ds.toArray c) :: (pre' ++ rest)) ∧ IntsAre ds (kv.map (·.1)) ∧ CacheL prog w x room kv ix ks pre' ∧ (∀ q ∈ pre' ++ rest, @LT.lt Nat _ q.1 s.heap.objs.size))
    o hc (by omega) B F1 X N1 T hC hcs hlt hap hd (by omega) fun ds c pre' h' tk' F' N' hI' hc' hlt' => ⟨h', tk', ds, c, pre', rfl, rfl, F', N', hI', hc', hlt'⟩
  have fin : ∀ (h' : Heap) (tk : Nat) (ds : List Value) (c : Nat) (pre' : List (Addr × Obj)), Fr h₀ L h' m → News h₀ L h' ((s.heap.objs.size, listOf ds.toArray c) :: (pre' ++ rest)) → IntsAre ds (kv.map (·.1)) → CacheL prog w x room kv ix ks pre' → wpAny (model prog w) (ktrTop dp un gd cn cs L a ccd cl outer).in1 (do
        let l ← newList ds
        let _ ← holding [l] (call (Value.builtin "list.sort") [l] [])
        ret l) (fun fin s' => ∃ v, fin = Fin.done (Flow.ret v) ∧ Q v s') E { s with heap := h', toks := tk } := by
    intro h' tk ds c pre' F' N' hI' hc'
    have hl : ds.length ≤ 60 := by have := hI'.length; rw [List.length_map] at this; omega
    have N0 : News h₀ L h' (pre' ++ rest) := fun q hq => N' q (.tail _ hq)
    refine wpAny_bind (wpAny_newList ?_ (by rw [PySem.sizeLine_eq]; omega))
    have N2 := N0.push F' { cls := .type "list", data := .seq ds.toArray }
    have F2 := F'.push { cls := .type "list", data := .seq ds.toArray }
    have l1 : ∀ q ∈ pre' ++ rest, @LT.lt Nat _ q.1 h'.objs.size := fun q hq => Heap.lt_size (N0 q hq).1
    refine wpAny_bind (wpAny_holding ?_)
    refine sort_ints (n := 0) F2 N2 (fun q hq => Nat.ne_of_lt (l1 q hq)) hI' (by omega) fun vs' ns' c' h2 F3 N3 hi hp ho => ?_
    exact wpAny_pure ⟨_, rfl, hret _ vs' ns' c' pre' h2 tk F3 N3 l1 hi hp ho hc'⟩
  refine wpAny_mono key (fun fin s' x => ?_) fun e s' x => ?_
  · cases fin with
    | done f =>
      obtain ⟨h', tk, ds, c, pre', e, rfl, F', N', hI', hc', hlt'⟩ := x
      cases e
      show wpAny _ _ (load s.heap.objs.size >>= _) _ _ _
      refine wpAny_bind (wpAny_load (N' _ (.head _)).1 ?_)
      exact wpAny_pure (fin h' tk ds c pre' F' N' hI' hc')
    | again c₁ =>
      refine ⟨x.1, codeAny_mono x.2 fun q s₂ y => ?_⟩
      obtain ⟨h', tk, ds, c, pre', rfl, rfl, F', N', hI', hc', hlt'⟩ := y
      show wpAny _ _ (load s.heap.objs.size >>= _) _ _ _
      refine wpAny_bind (wpAny_load (N' _ (.head _)).1 ?_)
      exact wpAny_pure (fin h' tk ds c pre' F' N' hI' hc')
  · obtain ⟨_, _, _, _, _, e', _⟩ := x
    cases e'
end
end Mine
end
section
open PySem PySem.W PyProof.Rows PySem.Calls PyProof.V
set_option Elab.async false
set_option maxRecDepth 100000
set_option maxHeartbeats 1000000
set_option linter.unusedVariables false
namespace Mine
section
variable {prog : Program} {w : World} {A : Around} {E : Value → Shared → Prop} {s : Shared} {h₀ : Heap} {L : Addr} {m : Str → Option Value} {env : Env}
def DTurn (h₀ : Heap) (L : Addr) (m : Str → Option Value) (s₁ : Shared) (I : Addr) (oI : Obj) (C : Addr) (oC : Obj) (D : Addr) (oD : Obj) (ax : Addr) (its : Array Value) (J : Nat → KV → List (Addr × Obj) → Prop) (i : Nat) (kv : KV) (kval vv : Value) (s₃ : Shared) : Prop :=
  ∃ (h' : Heap) (tk' : Nat) (news' : List (Addr × Obj)) (k : Int) (t : Tok) (d : PyData), s₃ = { s₁ with heap := h', toks := tk' } ∧ kval = .int k t ∧ Flat vv d ∧ Fr h₀ L h' m ∧ News h₀ L h' ((I, oI) :: (C, oC) :: (D, oD) :: news') ∧ LCg.Off3 I C D news' ∧ LCg.SrcAt h₀ ax its news' ∧ J (i + 1) (put kv k d) news'
theorem DictComp_own {kx vx iter : Expr} {x : Str} {px : Pos} {scope : Scope} {cl : List (Str × Addr)} {pos : Pos} {Q : Value → Shared → Prop}
    (hclos : closureFor scope env = pure cl) (hcell : ∀ y ∈ scope.names, y.2 ≠ .cell) (hkind : scope.kind = .function)
    (hnames : ∀ y ∈ scope.names, y.2 = .local → scope.names.lookup y.1 = some .local) (hx : scope.names.lookup x = some .local) (hh : A.handled = none)
    (h : wpAny (model prog w) A (eval iter env) (fun xv s₁ => ∃ (J : Nat → KV → List (Addr × Obj) → Prop) (ax : Addr) (its : Array Value) (news : List (Addr × Obj)), xv = .ref ax ∧ Fr h₀ L s₁.heap m ∧ News h₀ L s₁.heap news ∧ LCg.SrcAt h₀ ax its news ∧ its.size ≤ 1000 ∧ J 0 [] news ∧ (∀ i kv nw, J i kv nw → kv.length ≤ 1000) ∧
      (∀ i v kv I oI C oC D oD m₂ h tk nw (E' : Value → Shared → Prop), its[i]? = some v → J i kv nw → LCg.NsObj oC m₂ → m₂ x = some v → Fr h₀ L h m → News h₀ L h ((I, oI) :: (C, oC) :: (D, oD) :: nw) → LCg.Off3 I C D nw → ((@Ne Nat I C) ∧ (@Ne Nat I D) ∧ (@Ne Nat C D)) → LCg.SrcAt h₀ ax its nw → (@LE.le Nat _ s₁.heap.objs.size I ∧ @LT.lt Nat _ I D ∧ @LT.lt Nat _ D C) →
        wpAny (model prog w) A (eval kx (compEnvC scope cl C env)) (fun kval s₂ => wpAny (model prog w) A (eval vx (compEnvC scope cl C env)) (fun vv s₃ => DTurn h₀ L m s₁ I oI C oC D oD ax its J i kv kval vv s₃) E' s₂) E' { s₁ with heap := h, toks := tk }) ∧
      (∀ D oD kvs kv nw h tk, @LT.lt Nat _ s₁.heap.objs.size D → J its.size kv nw → Fr h₀ L h m → News h₀ L h ((D, oD) :: nw) → LCg.Off1 D nw → oD.IsDictOf (intKind prog w) kvs → FlatPairs PyData.int kvs (encD kv) → Q (.ref D) { s₁ with heap := h, toks := tk })) E s)
    (hs : ∀ x, foldedSetIterable iter env x = pure x := by intro _; rfl) :
    wpAny (model prog w) A (eval (.DictComp kx vx [⟨.Name x px, iter, [], 0⟩] scope pos) env) Q E s := by
  rw [arm_eval_DictComp]
  refine wpAny_comprehension_free (use := none) rfl hs hclos hkind hnames (wpAny_mono h (fun xv s₁ h₁ => ?_) fun _ _ e => e)
  obtain ⟨J, ax, its, news, rfl, F, N, S, hsz, hJ0, hJs, hstep, hfin⟩ := h₁
  have hl := S.list F.keep N
  have hlt : ax < s₁.heap.objs.size := by obtain ⟨_, e, _⟩ := hl; exact Heap.lt_size e
  refine wpAny_pyIter_list hl ?_
  have up : ∀ b o, s₁.heap.get? b = some o → (s₁.heap.push { cls := .type "list_iterator", data := .fields #[.ref ax, .int 0 0] }).get? b = some o := fun b o e => Heap.get?_push_of_some _ e
  have W := Walks.list (prog := prog) (w := w) hh s₁.heap.objs.size ax (Nat.ne_of_lt hlt) its
  have hst : (fun (i : Nat) (h : Heap) => h.IsListIter s₁.heap.objs.size ax i ∧ h.IsList ax its) 0 (s₁.heap.push { cls := .type "list_iterator", data := .fields #[.ref ax, .int 0 0] }) := ⟨⟨_, Heap.get?_push_size _ rfl, rfl, rfl⟩, hl.push _⟩
  have F0 := F.keeps up
  have N0 := N.grown up
  have hIL : L ≠ s₁.heap.objs.size := Nat.ne_of_lt F.ns.lt
  have hI₀ := next_is_new F
  have off : ∀ p ∈ news, p.1 ≠ s₁.heap.objs.size := fun p hp => Nat.ne_of_lt (Heap.lt_size (N p hp).1)
  have hIlt : s₁.heap.objs.size < (s₁.heap.push { cls := .type "list_iterator", data := .fields #[.ref ax, .int 0 0] }).objs.size := by rw [Heap.size_push]; exact Nat.lt_succ_self _
  have haxlt : ax < (s₁.heap.push { cls := .type "list_iterator", data := .fields #[.ref ax, .int 0 0] }).objs.size := Nat.lt_trans hlt hIlt
  have hIax : ax ≠ s₁.heap.objs.size := Nat.ne_of_lt hlt
  clear up
  try dsimp only
  generalize hG : s₁.heap.push { cls := .type "list_iterator", data := .fields #[.ref ax, .int 0 0] } = G at F0 N0 hst hIlt haxlt ⊢
  generalize hIe : s₁.heap.objs.size = I at W hst hIL hI₀ off hIlt hIax ⊢
  clear hl hlt F N
  refine wpAny_newObj_type (wpAny_newFunctionEnv hcell (by intro y hy; simp at hy) (fun h₁ hns₁ hsb₁ => ?_) hkind)
  dsimp only at hns₁ hsb₁ ⊢
  have hnew : (G.push { cls := .type "dict", dict := none, data := .dict #[] }).DictOf (intKind prog w) G.objs.size [] := Heap.DictOf.new G
  generalize hH2 : G.push { cls := .type "dict", dict := none, data := .dict #[] } = H2 at hns₁ hsb₁ hnew ⊢
  have hC : H2.objs.size = G.objs.size + 1 := by rw [← hH2, Heap.size_push]
  have hDC : G.objs.size ≠ H2.objs.size := by rw [hC]; exact Nat.ne_of_lt (Nat.lt_succ_self _)
  have below : ∀ b, b < G.objs.size → b ≠ H2.objs.size ∧ b ≠ G.objs.size := fun b hb => ⟨by rw [hC]; exact Nat.ne_of_lt (Nat.lt_succ_of_lt hb), Nat.ne_of_lt hb⟩
  have old : ∀ b o, G.get? b = some o → h₁.get? b = some o := fun b o e => hsb₁.extBut b o (below b (Heap.lt_size e)).1 (Heap.get?_push_of_some _ (hH2 ▸ Heap.get?_push_of_some _ e))
  have hacc : h₁.DictOf (intKind prog w) G.objs.size [] := hnew.at fun o e => hsb₁.extBut _ _ hDC (Heap.get?_push_of_some _ e)
  have hst₁ := W.frame _ _ _ hst fun b _ o e => old b o e
  have fresh₀ : ∀ a, G.objs.size ≤ a → h₀.get? a = none := fun a ha => by
    cases e : h₀.get? a with
    | none => rfl
    | some o' => exact absurd (Heap.lt_size (F0.keep a o' e)) (Nat.not_lt.mpr ha)
  have hD₀ := fresh₀ _ (Nat.le_refl _)
  have hC₀ : h₀.get? H2.objs.size = none := fresh₀ _ (by rw [hC]; exact Nat.le_succ _)
  have hDL : G.objs.size ≠ L := Ne.symm (below L F0.ns.lt).2
  have hCL : H2.objs.size ≠ L := Ne.symm (below L F0.ns.lt).1
  have hCI : I ≠ H2.objs.size := (below I hIlt).1
  have hDI : I ≠ G.objs.size := (below I hIlt).2
  have hCax : ax ≠ H2.objs.size := (below ax haxlt).1
  have hDax : ax ≠ G.objs.size := (below ax haxlt).2
  have off₀ : LCg.Off3 I H2.objs.size G.objs.size news := LCg.Off3.of fun p hp => ⟨off p hp, (below _ (Heap.lt_size (N0 p hp).1)).1, (below _ (Heap.lt_size (N0 p hp).1)).2⟩
  have F1 : Fr h₀ L h₁ m := F0.keeps old
  have N1 : News h₀ L h₁ news := N0.grown old
  have hlt3 : @LE.le Nat _ s₁.heap.objs.size I ∧ @LT.lt Nat _ I G.objs.size ∧ @LT.lt Nat _ G.objs.size H2.objs.size := ⟨by rw [hIe]; exact Nat.le_refl _, hIlt, by rw [hC]; exact Nat.lt_succ_self _⟩
  have hltD : @LT.lt Nat _ s₁.heap.objs.size G.objs.size := by rw [hIe]; exact hIlt
  clear old below fresh₀ hst hnew hIlt haxlt hIe
  generalize hDe : G.objs.size = D at *
  generalize hCe : H2.objs.size = C at *
  have loop : ∀ s₃ : Shared, s₃ = { s₁ with heap := h₁, toks := s₁.toks + ([] : List (Str × Value)).length } →
      codeAny (model prog w) A (.compLoop (.DictComp kx vx [⟨.Name x px, iter, [], 0⟩] scope pos) 0 (.ref I) (.ref D) (compEnvC scope cl C env))
        (compPost (model prog w) A E none Q (.ref D) C) s₃ := by
    rintro s₃ rfl
    obtain ⟨oD, hoD, hIs⟩ := Heap.dictOf_iff.mp hacc
    refine codeAny_compLoop_testsD
      (fun k s' => ∃ h' tk i kvs kv m' oD news', s' = { s₁ with heap := h', toks := tk } ∧ i ≤ its.size ∧ k = its.size + 1 - i ∧ (h'.IsListIter I ax i ∧ h'.IsList ax its) ∧ Fr h₀ L h' m ∧ h'.Ns C m' ∧ oD.IsDictOf (intKind prog w) kvs ∧ FlatPairs PyData.int kvs (encD kv) ∧ News h₀ L h' ((D, oD) :: news') ∧
        LCg.Off3 I C D news' ∧ LCg.SrcAt h₀ ax its news' ∧ J i kv news') ?_ (its.size + 1)
      ⟨h₁, _, 0, [], [], _, oD, news, rfl, Nat.zero_le _, rfl, hst₁, F1, hns₁, hIs, .nil, fun p hp => ?_, off₀, S, hJ0⟩
    · rintro k s' ⟨h', tk, i, kvs, kv, m', oD, news', rfl, hi, rfl, hst', F', hn', hIs', hfl', N', off', hS', hJ'⟩
      have off3 := off'.mem
      by_cases hlt : i < its.size
      · refine W.item i _ _ _ hlt hst' fun v h₂ tk₂ hPv hst₂ hk₂ => ?_
        refine wpAny_assign_Name (wpAny_storeName_local (lookup_relabel_local hx) (hn'.at' fun o e => hk₂ _ o (by simpa using Ne.symm hCI) e) (fun h₃ hn₃ hs₃ => ?_) (by simp [compEnvC, relabel, hkind]))
        refine wpAny_tests_nil ?_
        simp only [if_true]
        have hst₃ := W.frame _ _ _ hst₂ fun b hb o e => hs₃.extBut b o (fun q => by
          have q' : b = C := q
          rcases List.mem_cons.mp hb with rfl | hb
          · exact hCI q'
          · rw [List.mem_singleton.mp hb] at q'; exact hCax q') e
        obtain ⟨oI, heI, -⟩ := hst₃.1
        obtain ⟨oC, heC, hoC⟩ := LCg.ns_obj hn₃
        have F₃ : Fr h₀ L h₃ m := (LCg.fr_but F' hk₂ hIL hI₀).change hs₃ hCL hC₀
        have N₂ : News h₀ L h₂ ((D, oD) :: news') := LCg.news_but N' hk₂ fun p hp => by
          rcases List.mem_cons.mp hp with rfl | hp
          · exact Ne.symm hDI
          · exact (off3 p hp).1
        have N₃ : News h₀ L h₃ ((I, oI) :: (C, oC) :: (D, oD) :: news') := fun p hp => by
          rcases List.mem_cons.mp hp with rfl | hp
          · exact ⟨heI, Ne.symm hIL, hI₀⟩
          · rcases List.mem_cons.mp hp with rfl | hp
            · exact ⟨heC, hCL, hC₀⟩
            · have z := N₂ p hp
              refine ⟨hs₃.extBut _ _ ?_ z.1, z.2⟩
              rcases List.mem_cons.mp hp with rfl | hp
              · exact hDC
              · exact (off3 p hp).2.1
        refine wpAny_mono (hstep i v kv I oI C oC D oD _ h₃ _ _ _ hPv hJ' hoC (by simp) F₃ N₃ off' ⟨hCI, hDI, Ne.symm hDC⟩ hS' hlt3) (fun kval s₄ h₄ => wpAny_mono h₄ (fun vv s₅ h₅ => ?_) fun _ _ e => e) fun _ _ e => e
        obtain ⟨h₅, tk₅, news₅, k, t, d, rfl, rfl, hfv, F₅, N₅, off₅, hS₅, hJ₅⟩ := h₅
        have zI := (N₅ (I, oI) List.mem_cons_self).1
        have zC := (N₅ (C, oC) (List.mem_cons_of_mem _ List.mem_cons_self)).1
        have zD := (N₅ (D, oD) (List.mem_cons_of_mem _ (List.mem_cons_of_mem _ List.mem_cons_self))).1
        have N₅' : News h₀ L h₅ news₅ := fun p hp => N₅ p (List.mem_cons_of_mem _ (List.mem_cons_of_mem _ (List.mem_cons_of_mem _ hp)))
        have hst₅ : h₅.IsListIter I ax (i + 1) ∧ h₅.IsList ax its := LCg.list_st _ _ _ _ _ hst₃ heI zI F₅.keep N₅' hS₅
        have hkvl : kvs.length ≤ sizeLine := by
          have e1 := hJs _ _ _ hJ'
          have e2 := hfl'.length
          rw [encD_length] at e2
          rw [PySem.sizeLine_eq]; omega
        refine wpAny_dictSet_pairs (hsz := hkvl) (knd := intKind prog w) (k := k) (by show Value.isInt k (.int k t) = true; exact decide_eq_true rfl) (Heap.dictOf_iff.mpr ⟨oD, zD, hIs'⟩) fun h₆ hl₆ hs₆ => ?_
        obtain ⟨oD', hoD', hIs6⟩ := Heap.dictOf_iff.mp hl₆
        have off5 := off₅.mem
        refine ⟨its.size + 1 - (i + 1), by omega, h₆, _, i + 1, stored kvs k vv, put kv k d, _, oD', news₅, rfl, hlt, rfl, W.frame _ _ _ hst₅ fun b hb o e => hs₆.extBut b o (fun q => ?_) e, F₅.change hs₆ hDL hD₀, (hoC.ns zC).sameBut hs₆ (Ne.symm hDC), hIs6, ?_, fun p hp => ?_, off₅, hS₅, hJ₅⟩
        · have q' : b = D := q
          rcases List.mem_cons.mp hb with rfl | hb
          · exact hDI q'
          · rw [List.mem_singleton.mp hb] at q'; exact hDax q'
        · rw [← putD_encD]
          exact FlatPairs.stored (fun a b => by rfl) hfl' k hfv
        · rcases List.mem_cons.mp hp with rfl | hp
          · exact ⟨hoD', hDL, hD₀⟩
          · exact ⟨hs₆.extBut _ _ (off5 p hp).2.2 (N₅' p hp).1, (N₅' p hp).2⟩
      · obtain rfl : i = its.size := Nat.le_antisymm hi (Nat.not_lt.mp hlt)
        refine W.done _ _ _ hst' fun h₂ tk₂ hk₂ => ?_
        have F2 := LCg.fr_but F' hk₂ hIL hI₀
        have N2 := LCg.news_but N' hk₂ fun p hp => by
          rcases List.mem_cons.mp hp with rfl | hp
          · exact Ne.symm hDI
          · exact (off3 p hp).1
        refine ⟨m', hn'.at' fun o e => hk₂ _ o (by simpa using Ne.symm hCI) e, fun h'' hs'' => hfin D oD kvs kv news' h'' _ hltD hJ' (F2.change hs'' hCL hC₀) (fun p hp => ?_) off'.one hIs' hfl'⟩
        refine ⟨hs''.extBut _ _ ?_ (N2 p hp).1, (N2 p hp).2⟩
        rcases List.mem_cons.mp hp with rfl | hp
        · exact hDC
        · exact (off3 p hp).2.1
    · rcases List.mem_cons.mp hp with rfl | hp
      · exact ⟨hoD, hDL, hD₀⟩
      · exact N1 p hp
  exact codeAny_compStart_dict (loop _ rfl) (W.self 0 _ _ _ hst₁ (loop _ rfl))
end
end Mine
end
section
open PySem PySem.W PyProof.Rows PySem.Calls PyProof.V
set_option Elab.async false
set_option maxHeartbeats 1000000
set_option linter.unusedVariables false
namespace Mine
theorem key_idx {kv : KV} (n : (kv.map (·.1)).Nodup) {i j : Nat} {k : Int} {d d' : PyData} (hi : kv[i]? = some (k, d)) (hj : kv[j]? = some (k, d')) : i = j := by
  have li := (List.getElem?_eq_some_iff.mp hi).1
  have lj := (List.getElem?_eq_some_iff.mp hj).1
  have e : kv[i].1 = kv[j].1 := by rw [(List.getElem?_eq_some_iff.mp hi).2, (List.getElem?_eq_some_iff.mp hj).2]
  have n' := List.pairwise_map.mp n
  rcases Nat.lt_trichotomy i j with h | h | h
  · exact absurd e (List.pairwise_iff_getElem.mp n' i j li lj h)
  · exact h
  · exact absurd e.symm (List.pairwise_iff_getElem.mp n' j i lj li h)
theorem look_mem {kv : KV} (n : (kv.map (·.1)).Nodup) {k : Int} {d : PyData} (h : (k, d) ∈ kv) : look kv k = some d := by
  induction kv with
  | nil => cases h
  | cons p r ih =>
    unfold look at ih ⊢
    rw [List.map_cons, List.nodup_cons] at n
    rcases List.mem_cons.mp h with rfl | h
    · simp
    · have : ¬ p.1 = k := fun e => n.1 (by rw [e]; exact List.mem_map.mpr ⟨_, h, rfl⟩)
      simp only [List.find?_cons, this, decide_false]
      exact ih n.2 h
theorem mem_look {kv : KV} {k : Int} {d : PyData} (h : look kv k = some d) : (k, d) ∈ kv := by
  unfold look at h
  obtain ⟨p, hp, rfl⟩ := Option.map_eq_some_iff.mp h
  have h2 := List.find?_some hp
  have h3 := List.mem_of_find?_eq_some hp
  have h2 : p.1 = k := of_decide_eq_true h2
  rw [← h2]; exact h3
theorem look_at {kv : KV} (n : (kv.map (·.1)).Nodup) {i : Nat} {k : Int} {d : PyData} (h : kv[i]? = some (k, d)) : look kv k = some d := look_mem n (List.mem_of_getElem? h)
theorem put_take {kv : KV} (n : (kv.map (·.1)).Nodup) {i : Nat} {k : Int} {d : PyData} (h : kv[i]? = some (k, d)) : put (kv.take i) k d = kv.take (i + 1) := by
  unfold put
  rw [if_neg, List.take_add_one, h]
  · rfl
  · intro hc
    obtain ⟨p, hp, hk⟩ := List.any_eq_true.mp hc
    obtain ⟨j, hj⟩ := List.getElem?_of_mem hp
    have hk : p.1 = k := of_decide_eq_true hk
    have hji : j < i := by
      have := (List.getElem?_eq_some_iff.mp hj).1
      rw [List.length_take] at this; omega
    rw [List.getElem?_take_of_lt hji] at hj
    obtain ⟨pk, pd⟩ := p
    dsimp only at hk
    subst hk
    exact absurd (key_idx n hj h) (by omega)
end Mine
end
section
open PySem PySem.W PyProof.Rows PySem.Calls PyProof.V
set_option Elab.async false
set_option maxRecDepth 100000
set_option maxHeartbeats 1000000
set_option linter.unusedVariables false
set_option linter.unusedSimpArgs false
namespace Mine
local macro_rules | `(tactic| walk_at "pad 0") => `(tactic| fail)
local macro_rules | `(tactic| walk_at "pad 1") => `(tactic| fail)
local macro_rules | `(tactic| walk_at "pad 2") => `(tactic| fail)
local macro_rules | `(tactic| walk_at "pad 3") => `(tactic| fail)
local macro_rules | `(tactic| walk_at "pad 4") => `(tactic| fail)
local macro_rules | `(tactic| walk_at "pad 5") => `(tactic| fail)
local macro_rules | `(tactic| walk_at "pad 6") => `(tactic| fail)
local macro_rules | `(tactic| walk_at "pad 7") => `(tactic| fail)
local macro_rules | `(tactic| walk_at "pad 8") => `(tactic| fail)
local macro_rules | `(tactic| walk_at "pad 9") => `(tactic| fail)
theorem anew_RRL3 : True := by
  w_top off
  trivial
local macro_rules | `(tactic| k_all) => `(tactic| assumption)
local macro_rules | `(tactic| dict_fit) => `(tactic| omega)
local macro_rules | `(tactic| k_room) => `(tactic| ktr_room)
local macro_rules | `(tactic| walk_at "call ref") => `(tactic| ((with_reducible show wpAny _ _ (call (Value.ref _) _ _) _ _ _); refine halt ?_))
local macro_rules | `(tactic| walk_at "eval Name") => `(tactic| (k_here; k_dflt (refine' nameX_L ?kA1 ?kA2 ?_ ?kA3 ?kA4 ?kA5; (case kA3 => rfl); (case kA4 => rfl); (case kA5 => decide); (case kA1 => k_asm); (case kA2 => ((try dsimp only); (repeat (rw [if_neg (by decide)])); assumption)); k_whole)))
local macro_rules | `(tactic| walk_at "eval DictComp") => `(tactic| ((with_reducible show wpAny _ _ (eval (Expr.DictComp _ _ _ _ _) _) _ _ _); refine halt ?_))
section
variable {prog : Program} {w : World} {p : Program} {loose : List Str} {mean : ExcName → Option Value} {mg mb : Str → Option Value}
theorem CacheL.addrs {x : CA} {room room' : Int} {kv kv' ix ix' : KV} {ks ks' : List Int} {l l' : List (Addr × Obj)} (h : CacheL prog w x room kv ix ks l) (h' : CacheL prog w x room' kv' ix' ks' l') : ∀ z ∈ l', ∃ z' ∈ l, z.1 = z'.1 := by
  obtain ⟨od, oi, kvs, ivs, vs, nk, t1, t2, t3, t4, t5, t6, tc, tr, -, -, -, -, -, rfl⟩ := h
  obtain ⟨od', oi', kvs', ivs', vs', nk', t1', t2', t3', t4', t5', t6', tc', tr', -, -, -, -, -, rfl⟩ := h'
  intro z hz
  simp only [List.mem_cons, List.not_mem_nil, or_false] at hz
  rcases hz with rfl | rfl | rfl | rfl | rfl
  · exact ⟨_, .head _, rfl⟩
  · exact ⟨_, .tail _ (.head _), rfl⟩
  · exact ⟨_, .tail _ (.tail _ (.head _)), rfl⟩
  · exact ⟨_, .tail _ (.tail _ (.tail _ (.head _))), rfl⟩
  · exact ⟨_, .tail _ (.tail _ (.tail _ (.tail _ (.head _)))), rfl⟩
theorem law3 {dp un : Nat} {gd : Option (List Code)} {a : Addr} {ccd : Value} {A₀ : Around} {base h₀ : Heap} {L : Addr} {mm : Str → Option Value} {s : Shared} {Q : Flow → Shared → Prop} {E : Value → Shared → Prop} {x : CA} {room : Int} {kv ix : KV} {ks : List Int} {oC oP : Obj} {cl rest : List (Addr × Obj)} {more : List Stmt}
    (B : Below A₀ base [] h₀) (F : Fr h₀ L s.heap mm) (X : (K w.params).In h₀) (N : News h₀ L s.heap (cl ++ (L + 1 + 1, oC) :: (L + 1 + 1 + 1, oP) :: rest)) (T : Top p loose mean mg mb h₀) (hC : CodeHd base 905 901) (hoC : oC.data = .cell (some (.ref x.c))) (hoP : oP.data = .cell none) (ox : x.ord) (I : Inv kv ix ks) (hc : CacheL prog w x room kv ix ks cl) (hsz : ks.length ≤ 4)
    (hap : ∀ z ∈ cl, ∀ q ∈ (L + 1 + 1, oC) :: (L + 1 + 1 + 1, oP) :: rest, q.1 ≠ z.1)
    (hrP : ∀ q ∈ rest, q.1 ≠ L + 1 + 1 + 1) (hd : dp + 200 < recursionLimit) (hu : un + 1600 < cLine)
    (hk : ∀ (hh : Heap) (tk : Nat) (D : Addr) (oD oP' : Obj) (kvs : List (Int × Value)) (cl' : List (Addr × Obj)), Fr h₀ L hh mm → News h₀ L hh ((L + 1 + 1 + 1, oP') :: (D, oD) :: (L + 1 + 1, oC) :: (cl' ++ rest)) → oP'.data = .cell (some (.ref D)) → oD.IsDictOf (intKind prog w) kvs → FlatPairs PyData.int kvs (encD kv) → CacheL prog w x room kv ix ks cl' → (∀ z ∈ cl', ∀ q ∈ (L + 1 + 1 + 1, oP') :: (D, oD) :: (L + 1 + 1, oC) :: rest, q.1 ≠ z.1) → (∀ q ∈ (L + 1 + 1 + 1, oP') :: (L + 1 + 1, oC) :: (cl' ++ rest), @LT.lt Nat _ q.1 D) →
      wpAny (model prog w) (ktrTop dp un gd (Str.ofString "law") lscope L a ccd (lcells L) []) (execs more (envX (Str.ofString "law") lscope L a ccd (lcells L))) Q E { s with heap := hh, toks := tk }) :
    wpAny (model prog w) (ktrTop dp un gd (Str.ofString "law") lscope L a ccd (lcells L) []) (execs (lb 7 :: more) (envX (Str.ofString "law") lscope L a ccd (lcells L))) Q E s := by
  have key : (PySem.Challenge.rw_fc0033_01, Mine.K) = (PySem.Challenge.rw_fc0033_01, Mine.K) := by k_fill; rfl
  clear key
  have hkvl : kv.length ≤ 64 := by have := I.data.length_eq; rw [List.length_map] at this; omega
  change wpAny _ _ (execs (Stmt.Assign _ _ _ :: _) (envX _ ⟨_, _, _, _, _⟩ _ _ _ [_, _, _, _, _])) _ _ _
  k_steps
  refine unhalt ?_
  refine DictComp_own (h₀ := h₀) (L := L) (m := mm) (by with_unfolding_all rfl) (by decide) (by rfl) (by decide) (by rfl) (by rfl) ?_
  k_steps
  refine list_cache ox hc hkvl (rest := (L + 1 + 1, oC) :: (L + 1 + 1 + 1, oP) :: rest) B F X N T hC (by exact rfl) hap (by omega) (by omega) ?_
  intro S ds c cl' h1 tk1 F1 N1 hds hc1 hlt1
  have hap1 : ∀ z ∈ cl', ∀ q ∈ (L + 1 + 1, oC) :: (S, listOf ds.toArray c) :: (L + 1 + 1 + 1, oP) :: rest, q.1 ≠ z.1 := by
    have hca := hc.addrs hc1
    intro z hz q hq
    obtain ⟨z', hz', ez⟩ := hca z hz
    rcases List.mem_cons.mp hq with rfl | hq
    · rw [ez]; exact hap z' hz' _ (.head _)
    rcases List.mem_cons.mp hq with rfl | hq
    · exact Ne.symm (Nat.ne_of_lt (hlt1 z (List.mem_append_left _ hz)))
    · rw [ez]; exact hap z' hz' _ (.tail _ hq)
  have hnd : (kv.map (·.1)).Nodup := I.data.nodup_iff.mpr I.nodup
  refine ⟨(fun i kv' nw => kv' = kv.take i ∧ ∃ cl', CacheL prog w x room kv ix ks cl' ∧ (∀ z ∈ cl', ∀ q ∈ (L + 1 + 1, oC) :: (S, listOf ds.toArray c) :: (L + 1 + 1 + 1, oP) :: rest, q.1 ≠ z.1) ∧ nw = (L + 1 + 1, oC) :: (S, listOf ds.toArray c) :: (L + 1 + 1 + 1, oP) :: (cl' ++ rest)), S, ds.toArray, (L + 1 + 1, oC) :: (S, listOf ds.toArray c) :: (L + 1 + 1 + 1, oP) :: (cl' ++ rest), rfl, F1, news_sub N1 ?_, .inr ⟨_, .tail _ (.head _), rfl, _, rfl⟩, ?_, ⟨rfl, cl', hc1, hap1, rfl⟩, ?_, ?_, ?_⟩
  · intro q hq
    simp only [List.mem_cons, List.mem_append, List.cons_append, List.nil_append] at hq ⊢
    grind
  · rw [List.size_toArray]; have := hds.length; rw [List.length_map] at this; omega
  · rintro i kv' nw ⟨rfl, -⟩
    rw [List.length_take]; omega
  · rintro i v kv' I oI C oC' D oD m₂ h tk nw E' hv ⟨rfl, cl2, hc2, hap2, rfl⟩ hoC' hm2 F2 N2 off ne src lts
    have off' := off.mem
    dsimp only [LCg.Off3] at off
    obtain ⟨n, t, rfl, hn⟩ := hds.at i v (by simpa using hv)
    rw [List.getElem?_map] at hn
    obtain ⟨⟨kk, dd⟩, hkd, rfl⟩ := Option.map_eq_some_iff.mp hn
    dsimp only at hm2
    have hlook := look_at hnd hkd
    have hc3 := hc2
    obtain ⟨od, oi, kvs, ivs, vs, nk, u1, u2, u3, u4, u5, u6, uc, ur, hod, hf, hoi, hfi, hIv, hcl2⟩ := hc3
    have N3 : News h₀ L h ((I, oI) :: (C, oC') :: (D, oD) :: (L + 1 + 1, oC) :: (S, listOf ds.toArray c) :: (L + 1 + 1 + 1, oP) :: (x.c, instObj 890 x.d) :: (x.d, dictOf (cEs w.params u1 u2 u3 u4 u5 u6 x.dd (ks.length : Int) uc room ur x.f x.di x.dk) 6) :: (cl2 ++ rest)) := news_sub N2 (by
      rw [hcl2]
      intro q hq
      simp only [List.mem_cons, List.mem_append, List.cons_append, List.nil_append] at hq ⊢
      grind)
    k_steps
    refine unhalt ?_
    rename Fr h₀ L _ _ => F8
    rename News h₀ L _ _ => N8
    refine use1 (getitem_spec ox hc2 hlook hkvl) (rest := (I, oI) :: (C, oC') :: (D, oD) :: (L + 1 + 1, oC) :: (S, listOf ds.toArray c) :: (L + 1 + 1 + 1, oP) :: rest) B F8 X (news_sub N2 ?_) T hC (by exact rfl) ?_ (by exact (show dp + 5 < recursionLimit by omega)) (by exact (show un + 1 + 60 < cLine by omega)) ?_
    · intro q hq
      simp only [List.mem_cons, List.mem_append, List.cons_append, List.nil_append] at hq ⊢
      grind
    · intro z hz q hq
      have hzo := off' z (.tail _ (.tail _ (.tail _ (List.mem_append_left _ hz))))
      rcases List.mem_cons.mp hq with rfl | hq
      · exact Ne.symm hzo.1
      rcases List.mem_cons.mp hq with rfl | hq
      · exact Ne.symm hzo.2.1
      rcases List.mem_cons.mp hq with rfl | hq
      · exact Ne.symm hzo.2.2
      · exact hap2 z hz q hq
    intro r mine h3 tk3 F3 N3 ap3 hpost
    obtain ⟨hfl, hcm⟩ := hpost
    refine ⟨h3, tk3, (L + 1 + 1, oC) :: (S, listOf ds.toArray c) :: (L + 1 + 1 + 1, oP) :: (mine ++ rest), kk, t, dd, rfl, rfl, hfl, F3, news_sub N3 ?_, LCg.Off3.of ?_, .inr ⟨_, .tail _ (.head _), rfl, _, rfl⟩, put_take hnd hkd, mine, hcm, fun z hz q hq => ap3 z hz q (.tail _ (.tail _ (.tail _ hq))), rfl⟩
    · intro q hq
      simp only [List.mem_cons, List.mem_append, List.cons_append, List.nil_append] at hq ⊢
      grind
    · intro q hq
      rcases List.mem_cons.mp hq with rfl | hq
      · exact off.1
      rcases List.mem_cons.mp hq with rfl | hq
      · exact off.2.1
      rcases List.mem_cons.mp hq with rfl | hq
      · exact off.2.2.1
      rcases List.mem_append.mp hq with hq | hq
      · exact ⟨Ne.symm (ap3 q hq _ (.head _)), Ne.symm (ap3 q hq _ (.tail _ (.head _))), Ne.symm (ap3 q hq _ (.tail _ (.tail _ (.head _))))⟩
      · exact off' q (.tail _ (.tail _ (.tail _ (List.mem_append_right _ hq))))
  · rintro D oD kvs kv' nw hh tk hD ⟨rfl, cl2, hc2, hap2, rfl⟩ F2 N2 off hIs hfl
    have hlen : ds.toArray.size = kv.length := by rw [List.size_toArray]; have := hds.length; rw [List.length_map] at this; exact this
    rw [hlen, List.take_of_length_le (Nat.le_refl _)] at hfl
    dsimp only at hD
    have hSD : @LT.lt Nat _ S D := Nat.lt_trans (Heap.lt_size (N1 _ (.head _)).1) hD
    have hltD : ∀ q ∈ cl2 ++ (L + 1 + 1, oC) :: (L + 1 + 1 + 1, oP) :: rest, @LT.lt Nat _ q.1 D := by
      intro q hq
      rcases List.mem_append.mp hq with hq | hq
      · obtain ⟨z, hz, ez⟩ := hc1.addrs hc2 q hq
        rw [ez]; exact Nat.lt_trans (hlt1 z (List.mem_append_left _ hz)) hSD
      · exact Nat.lt_trans (hlt1 q (List.mem_append_right _ hq)) hSD
    obtain ⟨W1, hW1⟩ : ∃ r, r = (D, oD) :: (L + 1 + 1, oC) :: (cl2 ++ rest) := ⟨_, rfl⟩
    have N3 := news_sub (l' := (L + 1 + 1 + 1, oP) :: W1) N2 (by
      subst hW1
      intro q hq
      simp only [List.mem_cons, List.mem_append, List.cons_append, List.nil_append, List.not_mem_nil, or_false] at hq ⊢
      grind)
    have apW1 : ∀ q ∈ W1, q.1 ≠ L + 1 + 1 + 1 := by
      intro q hq
      rw [hW1] at hq
      rcases List.mem_cons.mp hq with rfl | hq
      · exact Ne.symm (Nat.ne_of_lt (hltD (L + 1 + 1 + 1, oP) (List.mem_append_right _ (.tail _ (.head _)))))
      rcases List.mem_cons.mp hq with rfl | hq
      · exact (show @Ne Nat _ _ by dsimp only; omega)
      rcases List.mem_append.mp hq with hq | hq
      · exact Ne.symm (hap2 q hq _ (.tail _ (.tail _ (.head _))))
      · exact hrP q hq
    clear N N1 F F1 N2
    k_steps
    rename Fr h₀ L _ _ => F4
    rename News h₀ L _ _ => N4
    rename_i oP' hoP'
    subst hW1
    refine hk _ _ D oD oP' kvs cl2 F4 N4 hoP' hIs hfl hc2 ?_ ?_
    · intro z hz q hq
      rcases List.mem_cons.mp hq with rfl | hq
      · exact hap2 z hz (L + 1 + 1 + 1, oP) (.tail _ (.tail _ (.head _)))
      rcases List.mem_cons.mp hq with rfl | hq
      · exact Ne.symm (Nat.ne_of_lt (hltD z (List.mem_append_left _ hz)))
      rcases List.mem_cons.mp hq with rfl | hq
      · exact hap2 z hz _ (.head _)
      · exact hap2 z hz q (.tail _ (.tail _ (.tail _ hq)))
    · intro q hq
      rcases List.mem_cons.mp hq with rfl | hq
      · exact hltD (L + 1 + 1 + 1, oP) (List.mem_append_right _ (.tail _ (.head _)))
      rcases List.mem_cons.mp hq with rfl | hq
      · exact hltD (L + 1 + 1, oC) (List.mem_append_right _ (.head _))
      rcases List.mem_append.mp hq with hq | hq
      · exact hltD q (List.mem_append_left _ hq)
      · exact hltD q (List.mem_append_right _ (.tail _ (.tail _ hq)))
end
end Mine
end
section
open PySem PySem.W PyProof.Rows PySem.Calls PyProof.V
set_option Elab.async false
set_option maxRecDepth 100000
set_option maxHeartbeats 1000000
set_option linter.unusedVariables false
namespace Mine
section
variable {prog : Program} {w : World} {A : Around} {E : Value → Shared → Prop} {s : Shared} {h₀ : Heap} {L : Addr} {m : Str → Option Value} {env : Env}
def Off4 (I C c D : Addr) (l : List (Addr × Obj)) : Prop := ∀ p ∈ l, @Ne Nat p.1 I ∧ @Ne Nat p.1 C ∧ @Ne Nat p.1 c ∧ @Ne Nat p.1 D
theorem lookup_relabel_cell {env : Env} : ∀ {names : List (Str × NameKind)} {x : Str}, names.lookup x = some .cell →
    (names.map fun (n, k) => if (k == NameKind.free && env.scope.kind == .function && env.kindOf n == some .cell) then (n, NameKind.cell) else (n, k)).lookup x = some .cell
  | [], _, h => by simp at h
  | (n, k) :: r, x, h => by
    have ih := @lookup_relabel_cell env r x
    show List.lookup x ((if (k == NameKind.free && env.scope.kind == .function && env.kindOf n == some .cell) = true then (n, NameKind.cell) else (n, k)) :: _) = _
    cases hx : x == n with
    | true =>
      simp only [List.lookup_cons, hx] at h
      cases h
      simp [List.lookup_cons, hx]
    | false =>
      simp only [List.lookup_cons, hx] at h
      by_cases hc : (k == NameKind.free && env.scope.kind == .function && env.kindOf n == some .cell) = true
      · rw [if_pos hc]; simp only [List.lookup_cons, hx]; exact ih h
      · rw [if_neg hc]; simp only [List.lookup_cons, hx]; exact ih h
theorem newEnv_cell {scope : Scope} {globals : Addr} {closure : List (Str × Addr)} {qual : Str} {code : Value} {outer : Env} {x : Str} {Q : Env → Shared → Prop} (hcf : ∀ b, cellsFrom b scope.names closure = (x, b) :: closure) (hpc : ∀ h, pushCells h scope.names = h.push { cls := .type "cell", data := .cell none })
    (hQ : Q { scope, locals := s.heap.objs.size, globals, cells := (x, s.heap.objs.size + 1) :: closure, qual, func := none, code := outer.code, frame := outer.frame, builtins := outer.builtins } { s with heap := (s.heap.push { cls := .type "dict", data := .dict #[] }).push { cls := .type "cell", data := .cell none } }) :
    wpAny (model prog w) A (newFunctionEnv scope globals closure [] qual none code (some outer)) Q E s := by
  simp only [newFunctionEnv, Option.isSome_some, if_true]
  refine wpAny_bind (wpAny_alloc ?_)
  refine wpAny_bind (wpAny_layCells _ (fun name kind cells => by cases hkc : kind == NameKind.cell <;> simp) _ _ _ _ ?_)
  rw [hcf, hpc, show ({ s with heap := s.heap.push { cls := .type "dict", data := .dict #[] } } : Shared).heap.objs.size = s.heap.objs.size + 1 from Heap.size_push ..]
  refine wpAny_bind ?_
  rw [List.forIn_nil]
  exact wpAny_pure (wpAny_pure hQ)
def LTurn (h₀ : Heap) (L : Addr) (m : Str → Option Value) (s₁ : Shared) (I : Addr) (oI : Obj) (C : Addr) (oC : Obj) (c : Addr) (oc : Obj) (D : Addr) (ax : Addr) (its : Array Value) (J : Nat → List Value → List (Addr × Obj) → Prop) (i : Nat) (ys : List Value) (y : Value) (s₃ : Shared) : Prop :=
  ∃ (h' : Heap) (tk' : Nat) (news' : List (Addr × Obj)), s₃ = { s₁ with heap := h', toks := tk' } ∧ Fr h₀ L h' m ∧ News h₀ L h' ((I, oI) :: (C, oC) :: (c, oc) :: (D, LCg.lst ys) :: news') ∧ Off4 I C c D news' ∧ LCg.SrcAt h₀ ax its news' ∧ J (i + 1) (ys ++ [y]) news'
theorem ListComp_cell {elt iter : Expr} {x : Str} {px : Pos} {scope : Scope} {cl : List (Str × Addr)} {pos : Pos} {Q : Value → Shared → Prop}
    (hclos : closureFor scope env = pure cl) (hcf : ∀ b, cellsFrom b scope.names cl = (x, b) :: cl) (hpc : ∀ h, pushCells h scope.names = h.push { cls := .type "cell", data := .cell none }) (hkind : scope.kind = .function)
    (hnames : ∀ y ∈ scope.names, y.2 = .local → scope.names.lookup y.1 = some .local) (hx : scope.names.lookup x = some .cell) (hh : A.handled = none)
    (h : wpAny (model prog w) A (eval iter env) (fun xv s₁ => ∃ (J : Nat → List Value → List (Addr × Obj) → Prop) (ax : Addr) (its : Array Value) (news : List (Addr × Obj)), xv = .ref ax ∧ Fr h₀ L s₁.heap m ∧ News h₀ L s₁.heap news ∧ LCg.SrcAt h₀ ax its news ∧ its.size ≤ 1000 ∧ J 0 [] news ∧
      (∀ i v ys I oI C oC c oc D h tk nw (E' : Value → Shared → Prop), its[i]? = some v → J i ys nw → ys.length = i → oc.data = .cell (some v) → Fr h₀ L h m → News h₀ L h ((I, oI) :: (C, oC) :: (c, oc) :: (D, LCg.lst ys) :: nw) → Off4 I C c D nw → (@LE.le Nat _ s₁.heap.objs.size I ∧ @LT.lt Nat _ I D ∧ @LT.lt Nat _ D C ∧ @LT.lt Nat _ C c) → LCg.SrcAt h₀ ax its nw →
        wpAny (model prog w) A (eval elt (compEnvC scope ((x, c) :: cl) C env)) (fun y s₃ => LTurn h₀ L m s₁ I oI C oC c oc D ax its J i ys y s₃) E' { s₁ with heap := h, toks := tk }) ∧
      (∀ D ys nw h tk, @LT.lt Nat _ s₁.heap.objs.size D → J its.size ys nw → ys.length = its.size → Fr h₀ L h m → News h₀ L h ((D, LCg.lst ys) :: nw) → (∀ q ∈ nw, @Ne Nat q.1 D) → Q (.ref D) { s₁ with heap := h, toks := tk })) E s)
    (hs : ∀ x, foldedSetIterable iter env x = pure x := by intro _; rfl) :
    wpAny (model prog w) A (eval (.ListComp elt [⟨.Name x px, iter, [], 0⟩] scope pos) env) Q E s := by
  rw [eval_ListComp]
  refine wpAny_comprehension_free (use := none) rfl hs hclos hkind hnames (wpAny_mono h (fun xv s₁ h₁ => ?_) fun _ _ e => e)
  obtain ⟨J, ax, its, news, rfl, F, N, S, hsz, hJ0, hstep, hfin⟩ := h₁
  have hl := S.list F.keep N
  have hlt : ax < s₁.heap.objs.size := by obtain ⟨_, e, _⟩ := hl; exact Heap.lt_size e
  refine wpAny_pyIter_list hl ?_
  have W := Walks.list (prog := prog) (w := w) hh s₁.heap.objs.size ax (Nat.ne_of_lt hlt) its
  refine wpAny_newObj_type (newEnv_cell hcf hpc ?_)
  have up : ∀ b o, s₁.heap.get? b = some o → ((((s₁.heap.push { cls := .type "list_iterator", data := .fields #[.ref ax, .int 0 0] }).push { cls := .type "list", dict := none, data := .seq ([] : List Value).toArray }).push { cls := .type "dict", data := .dict #[] }).push { cls := .type "cell", data := .cell none }).get? b = some o := fun b o e => Heap.get?_push_of_some _ (Heap.get?_push_of_some _ (Heap.get?_push_of_some _ (Heap.get?_push_of_some _ e)))
  have F1 := F.keeps up
  have N1 := N.grown up
  have hS1 := S.list F1.keep N1
  have hIo : ((((s₁.heap.push { cls := .type "list_iterator", data := .fields #[.ref ax, .int 0 0] }).push { cls := .type "list", dict := none, data := .seq ([] : List Value).toArray }).push { cls := .type "dict", data := .dict #[] }).push { cls := .type "cell", data := .cell none }).IsListIter s₁.heap.objs.size ax 0 :=
    ⟨_, Heap.get?_push_of_some _ (Heap.get?_push_of_some _ (Heap.get?_push_of_some _ (Heap.get?_push_size _ rfl))), rfl, rfl⟩
  have hDo := Heap.get?_push_of_some { cls := .type "cell", data := .cell none } (Heap.get?_push_of_some { cls := .type "dict", data := .dict #[] } (Heap.get?_push_size (s₁.heap.push { cls := .type "list_iterator", data := .fields #[.ref ax, .int 0 0] }) (o := { cls := .type "list", dict := none, data := .seq ([] : List Value).toArray }) rfl))
  have hCn := (Heap.Ns.new ((s₁.heap.push { cls := .type "list_iterator", data := .fields #[.ref ax, .int 0 0] }).push { cls := .type "list", dict := none, data := .seq ([] : List Value).toArray }) (.type "dict")).keeps (fun b o e => Heap.get?_push_of_some { cls := .type "cell", data := .cell none } e)
  have hcn0 := Heap.get?_push_size (((s₁.heap.push { cls := .type "list_iterator", data := .fields #[.ref ax, .int 0 0] }).push { cls := .type "list", dict := none, data := .seq ([] : List Value).toArray }).push { cls := .type "dict", data := .dict #[] }) (o := { cls := .type "cell", data := .cell none }) rfl
  rw [Heap.size_push, Heap.size_push, Heap.size_push] at hcn0
  have hcn : ((((s₁.heap.push { cls := .type "list_iterator", data := .fields #[.ref ax, .int 0 0] }).push { cls := .type "list", dict := none, data := .seq ([] : List Value).toArray }).push { cls := .type "dict", data := .dict #[] }).push { cls := .type "cell", data := .cell none }).IsCell (s₁.heap.objs.size + 1 + 1 + 1) none := ⟨_, hcn0, rfl⟩
  clear hcn0
  dsimp only
  rw [Heap.size_push] at hDo
  rw [Heap.size_push, Heap.size_push] at hCn
  simp only [Heap.size_push]
  clear up
  generalize (((s₁.heap.push { cls := .type "list_iterator", data := .fields #[.ref ax, .int 0 0] }).push { cls := .type "list", dict := none, data := .seq ([] : List Value).toArray }).push { cls := .type "dict", data := .dict #[] }).push { cls := .type "cell", data := .cell none } = H at *
  have hI₀ := next_is_new F
  have fresh : ∀ b, s₁.heap.objs.size ≤ b → h₀.get? b = none := fun b hb => by
    cases e : h₀.get? b with
    | none => rfl
    | some o' => exact absurd (Heap.lt_size (F.keep b o' e)) (Nat.not_lt.mpr hb)
  have hLlt := F.ns.lt
  have hnlt : ∀ p ∈ news, p.1 < s₁.heap.objs.size := fun p hp => Heap.lt_size (N p hp).1
  obtain ⟨I, hIe⟩ : ∃ I, I = s₁.heap.objs.size := ⟨_, rfl⟩
  obtain ⟨D, hDe⟩ : ∃ D, D = s₁.heap.objs.size + 1 := ⟨_, rfl⟩
  obtain ⟨C, hCe⟩ : ∃ C, C = s₁.heap.objs.size + 1 + 1 := ⟨_, rfl⟩
  obtain ⟨c, hce⟩ : ∃ c, c = s₁.heap.objs.size + 1 + 1 + 1 := ⟨_, rfl⟩
  have hI0 : h₀.get? I = none := fresh _ (by rw [hIe]; exact Nat.le_refl _)
  have hD0 : h₀.get? D = none := fresh _ (by rw [hDe]; exact Nat.le_succ _)
  have hC0 : h₀.get? C = none := fresh _ (by rw [hCe]; exact Nat.le_succ_of_le (Nat.le_succ _))
  have hc0 : h₀.get? c = none := fresh _ (by rw [hce]; exact Nat.le_succ_of_le (Nat.le_succ_of_le (Nat.le_succ _)))
  rw [← hDe] at hDo
  rw [← hCe] at hCn
  rw [← hce] at hcn
  rw [← hIe] at hIo W
  rw [← hce, ← hCe, ← hDe, ← hIe]
  have lts : @LE.le Nat _ s₁.heap.objs.size I ∧ @LT.lt Nat _ I D ∧ @LT.lt Nat _ D C ∧ @LT.lt Nat _ C c := by
    have l1 : @LE.le Nat _ s₁.heap.objs.size I := by rw [hIe]; exact Nat.le_refl _
    have l2 : @LT.lt Nat _ I D := by rw [hIe, hDe]; exact Nat.lt_succ_self _
    have l3 : @LT.lt Nat _ D C := by rw [hDe, hCe]; exact Nat.lt_succ_self _
    have l4 : @LT.lt Nat _ C c := by rw [hCe, hce]; exact Nat.lt_succ_self _
    exact ⟨l1, l2, l3, l4⟩
  have hLI : @LT.lt Nat _ L I := by rw [hIe]; exact hLlt
  have haI : @LT.lt Nat _ ax I := by rw [hIe]; exact hlt
  have hnI : ∀ p ∈ news, @LT.lt Nat _ p.1 I := by rw [hIe]; exact hnlt
  have hltD : @LT.lt Nat _ s₁.heap.objs.size D := by rw [hDe]; exact Nat.lt_succ_self _
  clear hIe hDe hCe hce hI₀ fresh hlt hLlt hnlt hl F N
  obtain ⟨lI, lD, lC, lc⟩ := lts
  have off₀ : Off4 I C c D news := fun p hp => by
    have := hnI p hp
    exact ⟨by omega, by omega, by omega, by omega⟩
  have loop : ∀ s₃ : Shared, s₃ = { s₁ with heap := H } →
      codeAny (model prog w) A (.compLoop (.ListComp elt [⟨.Name x px, iter, [], 0⟩] scope pos) 0 (.ref I) (.ref D) (compEnvC scope ((x, c) :: cl) C env))
        (compPost (model prog w) A E none Q (.ref D) C) s₃ := by
    rintro s₃ rfl
    refine codeAny_compLoop_tests
      (fun k s' => ∃ h' tk i ys m' oc news', s' = { s₁ with heap := h', toks := tk } ∧ i ≤ its.size ∧ k = its.size + 1 - i ∧ ys.length = i ∧ (h'.IsListIter I ax i ∧ h'.IsList ax its) ∧ Fr h₀ L h' m ∧ h'.Ns C m' ∧ (∃ v, oc.data = .cell v) ∧ News h₀ L h' ((c, oc) :: (D, LCg.lst ys) :: news') ∧
        Off4 I C c D news' ∧ LCg.SrcAt h₀ ax its news' ∧ J i ys news') ?_ (its.size + 1) ?_
    · rintro k s' ⟨h', tk, i, ys, m', oc, news', rfl, hi, rfl, hyl, hst', F', hn', ⟨v0, hoc⟩, N', off', hS', hJ'⟩
      by_cases hlt : i < its.size
      · refine W.item i _ _ _ hlt hst' fun v h₂ tk₂ hPv hst₂ hk₂ => ?_
        have zc := N' (c, oc) (.head _)
        have hIc : c ≠ I := by show @Ne Nat c I; omega
        have hc2 : h₂.get? c = some oc := hk₂ _ _ (by simpa using hIc) zc.1
        refine wpAny_assign_Name (wpAny_storeName_cell hkind (lookup_relabel_cell hx) (List.lookup_cons_self ..) ⟨oc, hc2, hoc⟩ fun h₃ hc3 hs₃ => ?_)
        refine wpAny_tests_nil ?_
        simp only [if_true]
        have hst₃ := W.frame _ _ _ hst₂ fun b hb o e => hs₃.extBut b o (fun q => by
          have q' : b = c := q
          rcases List.mem_cons.mp hb with rfl | hb
          · exact hIc q'.symm
          · rw [List.mem_singleton.mp hb] at q'; exact absurd q' (show @Ne Nat ax c by omega)) e
        obtain ⟨oI, heI, -⟩ := hst₃.1
        obtain ⟨oC, heC, hoC⟩ := LCg.ns_obj hn'
        obtain ⟨oc', hec, hoc'⟩ := hc3
        have hLI' : L ≠ I := Nat.ne_of_lt hLI
        have F₃ : Fr h₀ L h₃ m := (LCg.fr_but F' hk₂ hLI' hI0).change hs₃ (show @Ne Nat c L by omega) hc0
        have N₃ : News h₀ L h₃ ((I, oI) :: (C, oC) :: (c, oc') :: (D, LCg.lst ys) :: news') := fun p hp => by
          rcases List.mem_cons.mp hp with rfl | hp
          · exact ⟨heI, Ne.symm hLI', hI0⟩
          rcases List.mem_cons.mp hp with rfl | hp
          · exact ⟨hs₃.extBut _ _ (show @Ne Nat C c by omega) (hk₂ _ _ (by simpa using (show @Ne Nat C I by omega)) heC), (show @Ne Nat C L by omega), hC0⟩
          rcases List.mem_cons.mp hp with rfl | hp
          · exact ⟨hec, zc.2⟩
          rcases List.mem_cons.mp hp with rfl | hp
          · have z := N' _ (.tail _ (.head _))
            exact ⟨hs₃.extBut _ _ (show @Ne Nat D c by omega) (hk₂ _ _ (by simpa using (show @Ne Nat D I by omega)) z.1), z.2⟩
          · have z := N' p (.tail _ (.tail _ hp))
            have o4 := off' p hp
            exact ⟨hs₃.extBut _ _ o4.2.2.1 (hk₂ _ _ (by simpa using o4.1) z.1), z.2⟩
        refine wpAny_mono (hstep i v ys I oI C oC c oc' D h₃ _ _ _ hPv hJ' hyl hoc' F₃ N₃ off' ⟨lI, lD, lC, lc⟩ hS') (fun y s₄ h₄ => ?_) fun _ _ e => e
        obtain ⟨h₅, tk₅, news₅, rfl, F₅, N₅, off₅, hS₅, hJ₅⟩ := h₄
        have zI := (N₅ (I, oI) List.mem_cons_self).1
        have zC := N₅ (C, oC) (List.mem_cons_of_mem _ List.mem_cons_self)
        have zc5 := N₅ (c, oc') (.tail _ (.tail _ (.head _)))
        have zD := N₅ (D, LCg.lst ys) (.tail _ (.tail _ (.tail _ (.head _))))
        have N₅' : News h₀ L h₅ news₅ := fun p hp => N₅ p (.tail _ (.tail _ (.tail _ (.tail _ hp))))
        have hst₅ : h₅.IsListIter I ax (i + 1) ∧ h₅.IsList ax its := LCg.list_st _ _ _ _ _ hst₃ heI zI F₅.keep N₅' hS₅
        refine append_at (hsz := by show ys.toArray.size ≤ sizeLine; rw [List.size_toArray, hyl, PySem.sizeLine_eq]; omega) zD.1 fun h₆ hs₆ hD₆ => ?_
        refine ⟨its.size + 1 - (i + 1), by omega, h₆, _, i + 1, ys ++ [y], _, oc', news₅, rfl, hlt, rfl, by rw [List.length_append, List.length_singleton, hyl], W.frame _ _ _ hst₅ fun b hb o e => hs₆.extBut b o (fun q => ?_) e, F₅.change hs₆ zD.2.1 zD.2.2, (hoC.ns zC.1).sameBut hs₆ (show @Ne Nat C D by omega), ⟨_, hoc'⟩, fun p hp => ?_, off₅, hS₅, hJ₅⟩
        · have q' : b = D := q
          rcases List.mem_cons.mp hb with rfl | hb
          · exact absurd q' (show @Ne Nat b D by omega)
          · rw [List.mem_singleton.mp hb] at q'; exact absurd q' (show @Ne Nat ax D by omega)
        · rcases List.mem_cons.mp hp with rfl | hp
          · exact ⟨hs₆.extBut _ _ (show @Ne Nat c D by omega) zc5.1, zc5.2⟩
          rcases List.mem_cons.mp hp with rfl | hp
          · exact ⟨hD₆.trans (congrArg some (LCg.lst_snoc ys y)), zD.2⟩
          · exact ⟨hs₆.extBut _ _ (off₅ p hp).2.2.2 (N₅' p hp).1, (N₅' p hp).2⟩
      · obtain rfl : i = its.size := Nat.le_antisymm hi (Nat.not_lt.mp hlt)
        refine W.done _ _ _ hst' fun h₂ tk₂ hk₂ => ?_
        have F2 := LCg.fr_but F' hk₂ (Nat.ne_of_lt hLI) hI0
        have N2 := LCg.news_but N' hk₂ fun p hp => by
          rcases List.mem_cons.mp hp with rfl | hp
          · exact (show @Ne Nat c I by omega)
          rcases List.mem_cons.mp hp with rfl | hp
          · exact (show @Ne Nat D I by omega)
          · exact (off' p hp).1
        refine ⟨m', hn'.at' fun o e => hk₂ _ o (by simpa using (show @Ne Nat C I by omega)) e, fun h'' hs'' => hfin D ys news' h'' _ hltD hJ' hyl (F2.change hs'' (show @Ne Nat C L by omega) hC0) (fun p hp => ?_) fun q hq => (off' q hq).2.2.2⟩
        have z := N2 p (.tail _ hp)
        refine ⟨hs''.extBut _ _ ?_ z.1, z.2⟩
        rcases List.mem_cons.mp hp with rfl | hp
        · exact (show @Ne Nat D C by omega)
        · exact (off' p hp).2.1
    · obtain ⟨oc, hec, hoc⟩ := hcn
      refine ⟨H, _, 0, [], _, oc, news, rfl, Nat.zero_le _, rfl, rfl, ⟨hIo, hS1⟩, F1, hCn, ⟨_, hoc⟩, fun p hp => ?_, off₀, S, hJ0⟩
      rcases List.mem_cons.mp hp with rfl | hp
      · exact ⟨hec, (show @Ne Nat c L by omega), hc0⟩
      rcases List.mem_cons.mp hp with rfl | hp
      · exact ⟨hDo, (show @Ne Nat D L by omega), hD0⟩
      · exact N1 p hp
  exact codeAny_compStart_list (loop _ rfl) (W.self 0 _ _ _ ⟨hIo, hS1⟩ (loop _ rfl))
end
end Mine
end
section
open PySem PySem.W PyProof.Rows PySem.Calls PyProof.V
set_option Elab.async false
set_option maxHeartbeats 1000000
set_option linter.unusedVariables false
namespace Mine
section
variable {prog : Program} {w : World} {A : Around} {E : Value → Shared → Prop} {s : Shared} {h₀ : Heap} {L : Addr} {m : Str → Option Value} {env : Env}
theorem compEnd_mono {s₁ : Shared} {I : Addr} {oI : Obj} {C : Addr} {oC : Obj} {D : Addr} {oD : Obj} {S : List (Addr × Obj) → Prop} {r1 r2 : Value → List (Addr × Obj) → Prop} (hr : ∀ y nw, r1 y nw → r2 y nw) {y : Value} {s₂ : Shared} (h : LCg.CompEnd h₀ L m s₁ I oI C oC D oD S r1 y s₂) : LCg.CompEnd h₀ L m s₁ I oI C oC D oD S r2 y s₂ := by
  obtain ⟨h', tk, news', e, F, N, o, hS, r⟩ := h
  exact ⟨h', tk, news', e, F, N, o, hS, hr _ _ r⟩
theorem rest_ind {elt : Expr} {x : Str} {scope : Scope} {cl : List (Str × Addr)} {S : List (Addr × Obj) → Prop} {P : Nat → Value → Prop} {Fin : List Value → List (Addr × Obj) → Prop} {n : Nat} (J : Nat → List Value → List (Addr × Obj) → Prop)
    (step : ∀ i ys news, i < n → J i ys news → ∀ v I oI C oC D m₂ h tk (E' : Value → Shared → Prop), P i v → LCg.NsObj oC m₂ → m₂ x = some v → Fr h₀ L h m → News h₀ L h ((I, oI) :: (C, oC) :: (D, LCg.lst ys) :: news) → LCg.Off3 I C D news → ((@Ne Nat I C) ∧ (@Ne Nat I D) ∧ (@Ne Nat C D)) →
      wpAny (model prog w) A (eval elt (compEnvC scope cl C env)) (LCg.CompEnd h₀ L m { s with heap := h, toks := tk } I oI C oC D (LCg.lst ys) S (fun y news' => J (i + 1) (ys ++ [y]) news')) E' { s with heap := h, toks := tk })
    (fin : ∀ ys news, J n ys news → Fin ys news) : ∀ k i ys news, i + k = n → J i ys news → LCg.CompRest prog w A h₀ L m env elt x scope cl s S P Fin k i ys news
  | 0, i, ys, news, e, hJ => LCg.CompRest.zero (fin ys news (by rw [show n = i from e.symm]; exact hJ))
  | k + 1, i, ys, news, e, hJ => LCg.CompRest.succ fun v I oI C oC D m₂ h tk E' a1 a2 a3 a4 a5 a6 a7 =>
      wpAny_mono (step i ys news (by omega) hJ v I oI C oC D m₂ h tk E' a1 a2 a3 a4 a5 a6 a7) (fun y s' hs => compEnd_mono (fun y nw hj => rest_ind J step fin k (i + 1) _ _ (by omega) hj) hs) fun _ _ z => z
theorem restT_ind {ct elt : Expr} {x : Str} {scope : Scope} {cl : List (Str × Addr)} {S : List (Addr × Obj) → Prop} {P : Nat → Value → Prop} {Fin : List Value → List (Addr × Obj) → Prop} {n : Nat} (J : Nat → List Value → List (Addr × Obj) → Prop)
    (step : ∀ i ys news, i < n → J i ys news → ∀ v I oI C oC D m₂ h tk (E' : Value → Shared → Prop), P i v → LCg.NsObj oC m₂ → m₂ x = some v → Fr h₀ L h m → News h₀ L h ((I, oI) :: (C, oC) :: (D, LCg.lst ys) :: news) → LCg.Off3 I C D news → ((@Ne Nat I C) ∧ (@Ne Nat I D) ∧ (@Ne Nat C D)) →
      wpAny (model prog w) A (isTrue ct (compEnvC scope cl C env) (eval ct (compEnvC scope cl C env))) (fun ok s' => if ok = true then
        wpAny (model prog w) A (eval elt (compEnvC scope cl C env)) (LCg.CompEnd h₀ L m { s with heap := h, toks := tk } I oI C oC D (LCg.lst ys) S (fun y news' => J (i + 1) (ys ++ [y]) news')) E' s'
        else LCg.CompEnd h₀ L m { s with heap := h, toks := tk } I oI C oC D (LCg.lst ys) S (fun _ news' => J (i + 1) ys news') Value.none s') E' { s with heap := h, toks := tk })
    (fin : ∀ ys news, J n ys news → Fin ys news) : ∀ k i ys news, i + k = n → J i ys news → LCt.CompRestT prog w A h₀ L m env ct elt x scope cl s S P Fin k i ys news
  | 0, i, ys, news, e, hJ => LCt.CompRestT.zero (fin ys news (by rw [show n = i from e.symm]; exact hJ))
  | k + 1, i, ys, news, e, hJ => LCt.CompRestT.succ fun v I oI C oC D m₂ h tk E' a1 a2 a3 a4 a5 a6 a7 =>
      wpAny_mono (step i ys news (by omega) hJ v I oI C oC D m₂ h tk E' a1 a2 a3 a4 a5 a6 a7) (fun ok s' hs => by
        cases ok with
        | true =>
          simp only [if_true] at hs ⊢
          exact wpAny_mono hs (fun y s' hs => compEnd_mono (fun y nw hj => restT_ind J step fin k (i + 1) _ _ (by omega) hj) hs) fun _ _ z => z
        | false =>
          simp only [Bool.false_eq_true, if_false] at hs ⊢
          exact compEnd_mono (fun y nw hj => restT_ind J step fin k (i + 1) _ _ (by omega) hj) hs) fun _ _ z => z
end
end Mine
end
section
open PySem PySem.W PyProof.Rows PySem.Calls PyProof.V
set_option Elab.async false
set_option maxRecDepth 100000
set_option maxHeartbeats 1000000
set_option linter.unusedVariables false
set_option linter.unusedSimpArgs false
namespace Mine
theorem anew_RRL4a : True := by
  w_top off
  trivial
local macro_rules | `(tactic| k_all) => `(tactic| assumption)
local macro_rules | `(tactic| dict_fit) => `(tactic| omega)
local macro_rules | `(tactic| k_room) => `(tactic| ktr_room)
local macro_rules | `(tactic| walk_at "call ref") => `(tactic| ((with_reducible show wpAny _ _ (call (Value.ref _) _ _) _ _ _); refine halt ?_))
local macro_rules | `(tactic| walk_at "eval Name") => `(tactic| (k_here; k_dflt (refine' nameX_L ?kA1 ?kA2 ?_ ?kA3 ?kA4 ?kA5; (case kA3 => rfl); (case kA4 => rfl); (case kA5 => decide); (case kA1 => k_asm); (case kA2 => ((try dsimp only); (repeat (rw [if_neg (by decide)])); assumption)); k_whole)))
local macro_rules | `(tactic| walk_at "call builtin:sorted") => `(tactic| ((with_reducible show wpAny _ _ (call (Value.builtin "sorted") [Value.ref _]) _ _ _); refine halt ?_))
local macro_rules | `(tactic| walk_at "eval ListComp") => `(tactic| ((with_reducible show wpAny _ _ (eval (Expr.ListComp _ _ _ _) _) _ _ _); refine halt ?_))
section
variable {prog : Program} {w : World} {p : Program} {loose : List Str} {mean : ExcName → Option Value} {mg mb : Str → Option Value}
def lays (ds : List (Int × Int × Int)) (k : Int) : List Int := (ds.filter fun d => decide (d.1 < 4) && decide (d.2.1 = k)).map (·.2.2)
theorem lays_take (ds : List (Int × Int × Int)) (k : Int) {j : Nat} {a b c : Int} (h : ds[j]? = some (a, b, c)) : lays (ds.take (j + 1)) k = if a < 4 ∧ b = k then lays (ds.take j) k ++ [c] else lays (ds.take j) k := by
  unfold lays
  rw [List.take_add_one, h, List.filter_append, List.map_append]
  by_cases h1 : a < 4 <;> by_cases h2 : b = k <;> simp [h1, h2]
def ifTest : Stmt → Expr
  | .If e _ _ _ => e
  | _ => .Constant .none 0 default
def boolAt : Expr → Nat → Expr
  | .BoolOp _ es _, i => es.getD i (.Constant .none 0 default)
  | _, _ => .Constant .none 0 default
def argAt : Expr → Nat → Expr
  | .Call _ as _ _, i => as.getD i (.Constant .none 0 default)
  | _, _ => .Constant .none 0 default
def lcElt : Expr → Expr
  | .ListComp e _ _ _ => e
  | _ => .Constant .none 0 default
def lcScope : Expr → Scope
  | .ListComp _ _ s _ => s
  | _ => default
def cmpRight : Expr → Expr
  | .Compare _ _ (r :: _) _ => r
  | _ => .Constant .none 0 default
def anyE : Expr := argAt (boolAt (ifTest (lb 9)) 1) 0
def innerE : Expr := argAt (cmpRight (lcElt anyE)) 0
theorem inner_comp {A₀ : Around} {base : Heap} {dp un : Nat} {gd : Option (List Code)} {a : Addr} {ccd : Value} {h₀ : Heap} {L C c2 : Addr} {m9 : Str → Option Value} {s : Shared} {Q : Value → Shared → Prop} {E : Value → Shared → Prop} {dls : Addr} {nd : Nat} {oDe oc : Obj} {ds : List (Int × Int × Int)} {tl NW : List (Addr × Obj)} {n : Int} {t : Tok}
    (B : Below A₀ base [] h₀) (X : (K w.params).In h₀) (T : Top p loose mean mg mb h₀) (hC : CodeHd base 905 901) (F3 : Fr h₀ L s.heap m9) (N3 : News h₀ L s.heap NW) (hcc : (c2, oc) ∈ NW) (hoc : oc.data = .cell (some (.int n t))) (hdm : (L + 1, oDe) ∈ NW) (hDe : oDe.data = .cell (some (.ref dls))) (hdl : (dls, listOf (tl.map fun p => Value.ref p.1).toArray nd) ∈ NW) (htl : ∀ q ∈ tl, q ∈ NW) (hT : Tups tl ds) (hdn : ds.length ≤ 8)
    (hQ : ∀ (D : Addr) (h' : Heap) (tk : Nat) (ys : List Value), Fr h₀ L h' m9 → News h₀ L h' ((D, LCg.lst ys) :: NW) → LCg.Off1 D NW → IntsAre ys (lays ds n) → Q (.ref D) { s with heap := h', toks := tk }) :
    wpAny (model prog w) (ktrTop dp un gd (Str.ofString "law") lscope L a ccd (lcells L) []) (eval innerE (compEnvC (lcScope anyE) [(Str.ofString "key", c2), (Str.ofString "plain", L + 1 + 1 + 1), (Str.ofString "deeds", L + 1)] C (envX (Str.ofString "law") lscope L a ccd (lcells L)))) Q E s := by
  have key : (PySem.Challenge.rw_fc0033_01, Mine.K) = (PySem.Challenge.rw_fc0033_01, Mine.K) := by k_fill; rfl
  clear key
  change wpAny _ _ (eval (Expr.ListComp _ [⟨_, _, [_], _⟩] ⟨_, _, _, _, _⟩ _) (compEnvC ⟨_, _, _, _, _⟩ _ _ (envX _ ⟨_, _, _, _, _⟩ _ _ _ [_, _, _, _, _]))) _ _ _
  refine LCt.ListComp_T (F₀ := F3) (by with_unfolding_all rfl) (by decide) (by rfl) (by decide) (by rfl) ?_
  refine lcf_cell N3 (by rfl) hdm hDe ?_ (by rfl) (by rfl)
  have htl0 := htl
  have htl := hT.length
  refine LCt.CompSrcT.ledger (by rfl) F3 N3 hdl (by rw [List.size_toArray, List.length_map, PySem.sizeLine_eq]; omega) ?_
  intro g'
  refine restT_ind (fun j zs nw => nw = NW ∧ IntsAre zs (lays (ds.take j) n)) ?_ ?_ _ 0 [] NW (Nat.zero_add _) ⟨rfl, .nil⟩
  · rintro j zs nw hj ⟨hnw, hzs⟩ v I2 oI2 C3 oC3 D3 m3 h3 tk3 E3 hv3 hC3 hm3 F4 N4 off4 ne4
    rw [hnw] at N4 off4
    clear hnw nw
    rw [List.size_toArray, List.length_map] at hj
    obtain ⟨a1, a2, a3, t1, t2, t3, eD, eM, -⟩ := hT.at_ j (by omega)
    rw [tItems tl j hj] at hv3
    obtain rfl := Option.some.inj hv3
    clear hv3
    have N5 : News h₀ L h3 ((I2, oI2) :: (C3, oC3) :: (D3, LCg.lst zs) :: (tAddr tl j, tup3 (.int a1 t1) (.int a2 t2) (.int a3 t3)) :: (c2, oc) :: NW) := by
      intro q hq
      rcases List.mem_cons.mp hq with rfl | hq
      · exact N4 _ (.head _)
      rcases List.mem_cons.mp hq with rfl | hq
      · exact N4 _ (.tail _ (.head _))
      rcases List.mem_cons.mp hq with rfl | hq
      · exact N4 _ (.tail _ (.tail _ (.head _)))
      rcases List.mem_cons.mp hq with rfl | hq
      · exact N4 _ (.tail _ (.tail _ (.tail _ (htl0 _ eM))))
      rcases List.mem_cons.mp hq with rfl | hq
      · exact N4 _ (.tail _ (.tail _ (.tail _ hcc)))
      · exact N4 _ (.tail _ (.tail _ (.tail _ hq)))
    clear htl0 F3 N3
    k_steps
    · rename_i hb1 hb2
      refine ⟨_, _, NW, rfl, F4, N4, off4, .inr ⟨_, hdl, rfl, _, rfl⟩, rfl, ?_⟩
      rw [lays_take ds n eD, if_pos ⟨hb1, hb2⟩]
      exact hzs.append (.cons a3 t3 .nil)
    · rename_i hb1 hb2
      refine ⟨_, _, NW, rfl, F4, N4, off4, .inr ⟨_, hdl, rfl, _, rfl⟩, rfl, ?_⟩
      rw [lays_take ds n eD, if_neg (fun h => hb2 h.2)]
      exact hzs
    · rename_i hb1
      refine ⟨_, _, NW, rfl, F4, N4, off4, .inr ⟨_, hdl, rfl, _, rfl⟩, rfl, ?_⟩
      rw [lays_take ds n eD, if_neg (fun h => hb1 h.1)]
      exact hzs
  · rintro ys nw ⟨hnw, hys⟩
    rw [hnw]
    intro D' h' tk' F' N' o1'
    rw [List.size_toArray, List.length_map, htl, List.take_of_length_le (Nat.le_refl _)] at hys
    exact hQ D' h' tk' ys F' N' o1' hys
end
end Mine
end
section
open PySem PySem.W PyProof.Rows PySem.Calls PyProof.V
set_option Elab.async false
set_option maxRecDepth 100000
set_option maxHeartbeats 1000000
set_option linter.unusedVariables false
set_option linter.unusedSimpArgs false
namespace Mine
local macro_rules | `(tactic| walk_at "pad 0") => `(tactic| fail)
local macro_rules | `(tactic| walk_at "pad 1") => `(tactic| fail)
local macro_rules | `(tactic| walk_at "pad 2") => `(tactic| fail)
local macro_rules | `(tactic| walk_at "pad 3") => `(tactic| fail)
local macro_rules | `(tactic| walk_at "pad 4") => `(tactic| fail)
local macro_rules | `(tactic| walk_at "pad 5") => `(tactic| fail)
local macro_rules | `(tactic| walk_at "pad 6") => `(tactic| fail)
local macro_rules | `(tactic| walk_at "pad 7") => `(tactic| fail)
local macro_rules | `(tactic| walk_at "pad 8") => `(tactic| fail)
local macro_rules | `(tactic| walk_at "pad 9") => `(tactic| fail)
theorem anew_RRL4 : True := by
  w_top off
  trivial
local macro_rules | `(tactic| k_all) => `(tactic| assumption)
local macro_rules | `(tactic| dict_fit) => `(tactic| omega)
local macro_rules | `(tactic| k_room) => `(tactic| ktr_room)
local macro_rules | `(tactic| walk_at "call ref") => `(tactic| ((with_reducible show wpAny _ _ (call (Value.ref _) _ _) _ _ _); refine halt ?_))
local macro_rules | `(tactic| walk_at "eval Name") => `(tactic| (k_here; k_dflt (refine' nameX_L ?kA1 ?kA2 ?_ ?kA3 ?kA4 ?kA5; (case kA3 => rfl); (case kA4 => rfl); (case kA5 => decide); (case kA1 => k_asm); (case kA2 => ((try dsimp only); (repeat (rw [if_neg (by decide)])); assumption)); k_whole)))
local macro_rules | `(tactic| walk_at "call builtin:sorted") => `(tactic| ((with_reducible show wpAny _ _ (call (Value.builtin "sorted") [Value.ref _]) _ _ _); refine halt ?_))
local macro_rules | `(tactic| walk_at "eval ListComp") => `(tactic| ((with_reducible show wpAny _ _ (eval (Expr.ListComp _ _ _ _) _) _ _ _); refine halt ?_))
section
variable {prog : Program} {w : World} {p : Program} {loose : List Str} {mean : ExcName → Option Value} {mg mb : Str → Option Value}
theorem bools_rep : ∀ n, LSm.BoolsAre (List.replicate n (Value.bool false)) (List.replicate n false)
  | 0 => .nil
  | n + 1 => by rw [List.replicate_succ, List.replicate_succ]; exact .cons false (bools_rep n)
theorem law4 {dp un : Nat} {gd : Option (List Code)} {a : Addr} {ccd : Value} {A₀ : Around} {base h₀ : Heap} {L : Addr} {mm : Str → Option Value} {s : Shared} {Q : Flow → Shared → Prop} {E : Value → Shared → Prop} {D dls : Addr} {nd : Nat} {oD oP oDe : Obj} {kvs : List (Int × Value)} {kv : KV} {ds : List (Int × Int × Int)} {tl rest : List (Addr × Obj)} {room : Int} {tr : Tok} {more : List Stmt}
    (B : Below A₀ base [] h₀) (F : Fr h₀ L s.heap mm) (X : (K w.params).In h₀) (N : News h₀ L s.heap ((L + 1 + 1 + 1, oP) :: (D, oD) :: (L + 1, oDe) :: (dls, listOf (tl.map fun p => Value.ref p.1).toArray nd) :: (tl ++ rest))) (T : Top p loose mean mg mb h₀) (hC : CodeHd base 905 901) (hP : oP.data = .cell (some (.ref D))) (hDe : oDe.data = .cell (some (.ref dls))) (hIs : oD.IsDictOf (intKind prog w) kvs) (hfl : FlatPairs PyData.int kvs (encD kv)) (hkl : kv.length ≤ 4)
    (hT : Tups tl ds) (hdn : ds.length ≤ 8) (h1D : @LT.lt Nat _ 1 D) (hkr : (kv.length : Int) ≤ room) (hval : ∀ k pd, look kv k = some pd → ∃ v : Int, pd = .int v ∧ v ∈ lays ds k ∧ ∀ a ∈ lays ds k, a ≤ v) (m2 : mm (Str.ofString "room") = some (.int room tr))
    (hd : dp + 200 < recursionLimit) (hu : un + 1600 < cLine)
    (hk : ∀ (hh : Heap) (tk : Nat) (mm' : Str → Option Value) (S : Addr) (vs : List Value) (ns : List Int) (c : Nat), Fr h₀ L hh mm' → News h₀ L hh ((S, listOf vs.toArray c) :: (L + 1 + 1 + 1, oP) :: (D, oD) :: (L + 1, oDe) :: (dls, listOf (tl.map fun p => Value.ref p.1).toArray nd) :: (tl ++ rest)) → (∀ q ∈ (L + 1 + 1 + 1, oP) :: (D, oD) :: (L + 1, oDe) :: (dls, listOf (tl.map fun p => Value.ref p.1).toArray nd) :: (tl ++ rest), @LT.lt Nat _ q.1 S) → IntsAre vs ns → ns.Perm (kv.map (·.1)) → ns.Pairwise (· ≤ ·) → mm' (Str.ofString "names") = some (.ref S) → (∀ y, y ≠ Str.ofString "names" → mm' y = mm y) →
      wpAny (model prog w) (ktrTop dp un gd (Str.ofString "law") lscope L a ccd (lcells L) []) (execs more (envX (Str.ofString "law") lscope L a ccd (lcells L))) Q E { s with heap := hh, toks := tk }) :
    wpAny (model prog w) (ktrTop dp un gd (Str.ofString "law") lscope L a ccd (lcells L) []) (execs (lb 8 :: lb 9 :: more) (envX (Str.ofString "law") lscope L a ccd (lcells L))) Q E s := by
  have key : (PySem.Challenge.rw_fc0033_01, Mine.K) = (PySem.Challenge.rw_fc0033_01, Mine.K) := by k_fill; rfl
  clear key
  have hDD : (D == sysModules) = false := modules_ne h1D
  have hkl2 : (encD kv).length ≤ 64 := by rw [encD_length]; omega
  change wpAny _ _ (execs (Stmt.Assign _ _ _ :: Stmt.If _ _ _ _ :: _) (envX _ ⟨_, _, _, _, _⟩ _ _ _ [_, _, _, _, _])) _ _ _
  k_steps
  refine unhalt ?_
  refine sorted_dict (by rfl) F N (.tail _ (.head _)) hIs hfl hDD (by omega) ?_
  intro S vs ns c h1 tk1 F1 N1 hlt1 hI1 hp1 ho1
  k_steps
  case refine'_9.refine'_6.refine'_4.refine'_9.refine'_6.refine'_4.refine_1 =>
    rename_i h9
    rw [encD_length] at h9
    omega
  refine unhalt ?_
  rename Fr h₀ L _ _ => F2
  rename News h₀ L _ _ => N2
  obtain ⟨m9, hm9⟩ : ∃ m9, m9 = (fun y => if y = Str.ofString "names" then some (Value.ref S) else mm y) := ⟨_, rfl⟩
  rw [← hm9] at F2
  have n1 : m9 (Str.ofString "names") = some (.ref S) := by rw [hm9]; rfl
  have n2 : m9 (Str.ofString "room") = some (.int room tr) := by rw [hm9]; dsimp only; rw [if_neg (by decide)]; exact m2
  have n3 : ∀ y, y ≠ Str.ofString "names" → m9 y = mm y := fun y hy => by rw [hm9]; dsimp only; rw [if_neg hy]
  clear hm9
  refine ListComp_cell (h₀ := h₀) (L := L) (m := m9) (by with_unfolding_all rfl) (by intro b; rfl) (by intro h; rfl) (by rfl) (by decide) (by rfl) (by rfl) ?_
  refine nameX_L F2 n1 ?_ rfl rfl (by decide)
  have hvl := hI1.length
  have hnl := hp1.length_eq
  rw [List.length_map] at hnl
  obtain ⟨W0, hW0⟩ : ∃ r, r = (dls, listOf (tl.map fun p => Value.ref p.1).toArray nd) :: (tl ++ rest) := ⟨_, rfl⟩
  refine ⟨fun i ys nw => ys = List.replicate i (.bool false) ∧ nw = (S, listOf vs.toArray c) :: (L + 1 + 1 + 1, oP) :: (D, oD) :: (L + 1, oDe) :: (dls, listOf (tl.map fun p => Value.ref p.1).toArray nd) :: (tl ++ rest), S, vs.toArray, _, rfl, F2, N2, .inr ⟨_, .head _, rfl, _, rfl⟩, by rw [List.size_toArray]; omega, ⟨rfl, rfl⟩, ?_, ?_⟩
  · rintro i v ys I oI C oC c2 oc D2 h2 tk2 nw E' hv ⟨rfl, rfl⟩ hyl hoc F3 N3 off lts src
    obtain ⟨n, t, rfl, hn⟩ := hI1.at i v (by simpa using hv)
    have hkm : n ∈ kv.map (·.1) := hp1.mem_iff.mp (List.mem_of_getElem? hn)
    obtain ⟨pd, hpd⟩ := Option.isSome_iff_exists.mp (by rw [look_isSome]; exact decide_eq_true hkm)
    obtain ⟨vv, rfl, hv1, hv2⟩ := hval n pd hpd
    have hl : PySem.Spec.lookup (PyData.int n) (encD kv) = some (.int vv) := by rw [lookup_encD]; exact hpd
    k_steps
    refine unhalt ?_
    have N3' := N3
    refine inner_comp (ds := ds) B X T hC F3 N3 (.tail _ (.tail _ (.head _))) hoc (.tail _ (.tail _ (.tail _ (.tail _ (.tail _ (.tail _ (.tail _ (.head _)))))))) hDe (.tail _ (.tail _ (.tail _ (.tail _ (.tail _ (.tail _ (.tail _ (.tail _ (.head _))))))))) ?_ hT hdn ?_
    · intro q hq
      exact .tail _ (.tail _ (.tail _ (.tail _ (.tail _ (.tail _ (.tail _ (.tail _ (.tail _ (List.mem_append_left _ hq)))))))))
    intro D3 h3 tk3 ys F4 N4 o4 hys
    k_steps
    refine kso_max F4 N4 (kso_isList (n := ys.length) N4 (.head _) rfl) hys (List.length_pos_of_mem hv1) (by rfl) ?_
    intro h4 M tM tk4 F5 N5 hM1 hM2
    have hMv : M = vv := Int.le_antisymm (hv2 M hM1) (hM2 vv hv1)
    subst hMv
    k_steps
    refine ⟨h4, tk4, _, rfl, F5, fun q hq => N5 q (.tail _ hq), off, src, ?_, rfl⟩
    rw [List.replicate_succ', bne_self_eq_false]
  · rintro D3 ys nw h3 tk3 hD3 ⟨rfl, rfl⟩ hyl F3 N3 o3
    k_steps
    refine LSm.any_bools (bs := List.replicate vs.toArray.size false) F3 N3 (by rfl) (kso_isList (n := (List.replicate vs.toArray.size (Value.bool false)).length) N3 (.head _) rfl) (bools_rep _) ?_
    intro h4 tk4 F4 N4
    have hany : (List.replicate vs.toArray.size false).any id = false := by
      rw [List.any_eq_false]
      intro x hx
      rw [(List.mem_replicate.mp hx).2]
      exact Bool.false_ne_true
    rw [hany]
    k_steps
    exact hk _ _ m9 S vs ns c F4 (fun q hq => N4 q (.tail _ hq)) hlt1 hI1 hp1 ho1 n1 n3
end
end Mine
end
section
open PySem PySem.W PyProof.Rows PySem.Calls PyProof.V
set_option Elab.async false
set_option maxRecDepth 100000
set_option maxHeartbeats 1000000
set_option linter.unusedVariables false
namespace Mine
section
variable {prog : Program} {w : World} {A : Around} {E : Value → Shared → Prop} {R : Result → Shared → Prop} {s : Shared} {h₀ : Heap} {L : Addr} {m : Str → Option Value} {env : Env}
abbrev lc2 (elt t0 i0 t1 i1 : Expr) (scope : Scope) (pos : Pos) : Expr := .ListComp elt [⟨t0, i0, [], 0⟩, ⟨t1, i1, [], 0⟩] scope pos
theorem turn2_outer (elt t0 i0 t1 i1 : Expr) (scope : Scope) (pos : Pos) (it acc : Value) (env : Env) :
    compTurn (lc2 elt t0 i0 t1 i1 scope pos) 0 it acc env = (standAt i0.pos >>= fun _ => pyNext it >>= fun r => match r with
      | none => pure (.done .next)
      | some v => letOwnedTupleGo t0 it v >>= fun _ => assign t0 env v >>= fun _ =>
        eval i1 env >>= fun x => standAt i1.pos >>= fun _ => foldedSetIterable i1 env x >>= fun x => holding [x] (pyIter x) >>= fun y => runOwn (.compStart (lc2 elt t0 i0 t1 i1 scope pos) 1 y acc env) env >>= fun _ =>
          again (.compLoop (lc2 elt t0 i0 t1 i1 scope pos) 0 it acc env)) := by rfl
theorem turn2_inner (elt t0 i0 t1 i1 : Expr) (scope : Scope) (pos : Pos) (it acc : Value) (env : Env) :
    compTurn (lc2 elt t0 i0 t1 i1 scope pos) 1 it acc env = (standAt i1.pos >>= fun _ => pyNext it >>= fun r => match r with
      | none => pure (.done .next)
      | some v => letOwnedTupleGo t1 it v >>= fun _ => assign t1 env v >>= fun _ =>
        (eval elt env >>= fun x => call (.builtin "list.append") [acc, x] >>= fun _ => pure ()) >>= fun _ =>
          again (.compLoop (lc2 elt t0 i0 t1 i1 scope pos) 1 it acc env)) := by rfl
theorem loop2_inner {elt t0 i0 t1 i1 : Expr} {scope : Scope} {pos : Pos} {it acc : Value} {env : Env} (I : Nat → Shared → Prop)
    (turn : ∀ n s, I n s → wpAny (model prog w) A (pyNext it) (fun r s₁ => match r with
      | none => R (.ok .next) s₁
      | some v => wpAny (model prog w) A (assign t1 env v) (fun _ s₂ => wpAny (model prog w) A (eval elt env) (fun x s₃ =>
          wpAny (model prog w) A (call (.builtin "list.append") [acc, x]) (fun _ s₄ => ∃ m, m < n ∧ I m s₄) (notedBy (model prog w) A env fun e s' => R (.error e) s') s₃)
          (notedBy (model prog w) A env fun e s' => R (.error e) s') s₂) (notedBy (model prog w) A env fun e s' => R (.error e) s') s₁) (notedBy (model prog w) A env fun e s' => R (.error e) s') s)
    (n : Nat) (h : I n s) (ht : ∀ v, letOwnedTupleGo t1 it v = pure () := by intro _; rfl) :
    codeAny (model prog w) A (.compLoop (lc2 elt t0 i0 t1 i1 scope pos) 1 it acc env) R s := by
  refine codeAny_loop rfl I (fun n s hI => ?_) n h
  show wpAny _ _ ((compTurn (lc2 elt t0 i0 t1 i1 scope pos) 1 it acc env).onRaise (fun x => do noteFrame x env; theTreesLotGoes x)) _ _ s
  refine wpAny_noted ?_
  rw [turn2_inner]
  refine wpAny_bind (wpAny_standAt (wpAny_bind (wpAny_mono (turn n s hI) (fun r s₁ h₁ => ?_) fun _ _ h' => h')))
  cases r with
  | none => exact wpAny_pure h₁
  | some v =>
    refine wpAny_bind (wpAny_of_eq (ht v) ?_)
    exact wpAny_bind (wpAny_mono h₁ (fun _ s₂ h₂ => wpAny_bind (wpAny_bind (wpAny_mono h₂ (fun x s₃ h₃ => wpAny_bind (wpAny_mono h₃
      (fun _ s₄ h₄ => wpAny_pure (wpAny_pure ⟨rfl, h₄⟩)) fun _ _ h' => h')) fun _ _ h' => h'))) fun _ _ h' => h')
theorem start2_inner {elt t0 i0 t1 i1 : Expr} {scope : Scope} {pos : Pos} {it acc : Value} {env : Env}
    (h0 : codeAny (model prog w) A (.compLoop (lc2 elt t0 i0 t1 i1 scope pos) 1 it acc env) R s)
    (h : wpAny (model prog w) A (pyIter it) (fun it' s' => codeAny (model prog w) A (.compLoop (lc2 elt t0 i0 t1 i1 scope pos) 1 it' acc env) R s')
      (notedBy (model prog w) A env fun x s' => R (.error x) s') s) :
    codeAny (model prog w) A (.compStart (lc2 elt t0 i0 t1 i1 scope pos) 1 it acc env) R s := by
  refine codeAny_of_tree ?_
  show wpAny _ _ ((compStart (lc2 elt t0 i0 t1 i1 scope pos) 1 it acc env).onRaise (fun x => do noteFrame x env; standAt theWindowsPlace)) _ _ s
  refine wpAny_notedAt ?_
  unfold compStart
  show wpAny _ _ (ask >>= _) _ _ s
  refine wpAny_bind (wpAny_askSetting (wpAny_ite ?_))
  split
  · first
      | exact wpAny_bind (wpAny_pure (wpAny_pure (And.intro rfl h0)))
      | exact wpAny_pure (And.intro rfl h0)
  · first
      | exact wpAny_bind (wpAny_rule (wpAny_bind (wpAny_standAt (wpAny_bind (wpAny_mono h (fun it' s' h' => wpAny_pure (And.intro rfl h')) fun _ _ x => x)))))
      | (refine wpAny_bind (wpAny_rule ?_); show wpAny _ _ (standAt i1.pos >>= _) _ _ s; exact wpAny_bind (wpAny_standAt (wpAny_bind (wpAny_mono h (fun it' s' h' => wpAny_pure (And.intro rfl h')) fun _ _ x => x))))
theorem loop2_outer {elt t0 i0 t1 i1 : Expr} {scope : Scope} {pos : Pos} {it acc : Value} {env : Env} (I : Nat → Shared → Prop)
    (turn : ∀ n s, I n s → wpAny (model prog w) A (pyNext it) (fun r s₁ => match r with
      | none => R (.ok .next) s₁
      | some v => wpAny (model prog w) A (assign t0 env v) (fun _ s₂ => wpAny (model prog w) A (eval i1 env) (fun x s₃ =>
          wpAny (model prog w) A (pyIter x) (fun y s₄ => codeAny (model prog w) A (.compStart (lc2 elt t0 i0 t1 i1 scope pos) 1 y acc env) (fun r s' => match r with | .ok _ => ∃ m, m < n ∧ I m s' | .error e => cameBackBy (model prog w) A env (notedBy (model prog w) A env fun e s' => R (.error e) s') e s') s₄) (notedBy (model prog w) A env fun e s' => R (.error e) s') s₃)
          (notedBy (model prog w) A env fun e s' => R (.error e) s') s₂) (notedBy (model prog w) A env fun e s' => R (.error e) s') s₁) (notedBy (model prog w) A env fun e s' => R (.error e) s') s)
    (n : Nat) (h : I n s) (ht : ∀ v, letOwnedTupleGo t0 it v = pure () := by intro _; rfl) (hs : ∀ x, foldedSetIterable i1 env x = pure x := by intro _; rfl) :
    codeAny (model prog w) A (.compLoop (lc2 elt t0 i0 t1 i1 scope pos) 0 it acc env) R s := by
  refine codeAny_loop rfl I (fun n s hI => ?_) n h
  show wpAny _ _ ((compTurn (lc2 elt t0 i0 t1 i1 scope pos) 0 it acc env).onRaise (fun x => do noteFrame x env; theTreesLotGoes x)) _ _ s
  refine wpAny_noted ?_
  rw [turn2_outer]
  refine wpAny_bind (wpAny_standAt (wpAny_bind (wpAny_mono (turn n s hI) (fun r s₁ h₁ => ?_) fun _ _ h' => h')))
  cases r with
  | none => exact wpAny_pure h₁
  | some v =>
    refine wpAny_bind (wpAny_of_eq (ht v) ?_)
    refine wpAny_bind (wpAny_mono h₁ (fun _ s₂ h₂ => wpAny_bind (wpAny_mono h₂ (fun x s₃ h₃ => ?_) fun _ _ h' => h')) fun _ _ h' => h')
    refine wpAny_bind (wpAny_standAt (wpAny_bind (wpAny_of_eq (hs x) (wpAny_bind (wpAny_holding (wpAny_mono h₃ (fun y s₄ h₄ => ?_) fun _ _ h' => h'))))))
    refine wpAny_bind (wpAny_runOwn (codeAny_mono h₄ fun r s' hr => ?_))
    cases r with
    | ok f => exact wpAny_pure ⟨rfl, hr⟩
    | error e => exact hr
theorem ListComp2_own {elt i0 i1 : Expr} {x0 x1 : Str} {px0 px1 : Pos} {scope : Scope} {cl : List (Str × Addr)} {pos : Pos} {Q : Value → Shared → Prop}
    (hclos : closureFor scope env = pure cl) (hcell : ∀ y ∈ scope.names, y.2 ≠ .cell) (hkind : scope.kind = .function)
    (hnames : ∀ y ∈ scope.names, y.2 = .local → scope.names.lookup y.1 = some .local) (hx0 : scope.names.lookup x0 = some .local) (hx1 : scope.names.lookup x1 = some .local) (hx01 : x0 ≠ x1) (hh : A.handled = none)
    (h : wpAny (model prog w) A (eval i0 env) (fun xv s₁ => Held (∃ (J : Nat → List Value → List (Addr × Obj) → Prop) (r : Addr) (n : Nat) (t u v : Tok) (news : List (Addr × Obj)), xv = .ref r ∧ Fr h₀ L s₁.heap m ∧ News h₀ L s₁.heap news ∧ IsRange s₁.heap r 0 n 1 t u v ∧ Builtin.Range.small 0 n 1 = true ∧ n ≤ 100 ∧ J 0 [] news ∧ (∀ i ys nw, J i ys nw → ys.length ≤ 1000) ∧
      (∀ i ti ys I oI C oC D m₂ h tk nw (E' : Value → Shared → Prop), i < n → J i ys nw → LCg.NsObj oC m₂ → m₂ x0 = some (.int (i : Int) ti) → Fr h₀ L h m → News h₀ L h ((I, oI) :: (C, oC) :: (D, LCg.lst ys) :: nw) → LCg.Off3 I C D nw → ((@Ne Nat I C) ∧ (@Ne Nat I D) ∧ (@Ne Nat C D)) →
        wpAny (model prog w) A (eval i1 (compEnvC scope cl C env)) (fun xv s₃ => Held (∃ (J1 : Nat → List Value → List (Addr × Obj) → Prop) (ax : Addr) (its : Array Value) (c : Nat) (nw' : List (Addr × Obj)) (h' : Heap) (tk' : Nat), xv = .ref ax ∧ s₃ = { s₁ with heap := h', toks := tk' } ∧ Fr h₀ L h' m ∧ News h₀ L h' ((I, oI) :: (C, oC) :: (D, LCg.lst ys) :: nw') ∧ LCg.Off3 I C D nw' ∧ (ax, { cls := .type "list", data := .seq its c }) ∈ nw' ∧ J1 0 ys nw' ∧ (∀ i ys nw, J1 i ys nw → ys.length ≤ 1000) ∧
          (∀ j v ys I1 oI1 I oI C oC D m₂ h tk nw (E' : Value → Shared → Prop), its[j]? = some v → J1 j ys nw → LCg.NsObj oC m₂ → m₂ x0 = some (.int (i : Int) ti) → m₂ x1 = some v → Fr h₀ L h m → News h₀ L h ((I1, oI1) :: (I, oI) :: (C, oC) :: (D, LCg.lst ys) :: nw) → Off4 I1 I C D nw → (@Ne Nat I I1 ∧ @Ne Nat C I1 ∧ @Ne Nat D I1 ∧ @Ne Nat I C ∧ @Ne Nat I D ∧ @Ne Nat C D) → (ax, { cls := .type "list", data := .seq its c }) ∈ nw →
            wpAny (model prog w) A (eval elt (compEnvC scope cl C env)) (fun y s₄ => Held (∃ (h' : Heap) (tk' : Nat) (nw' : List (Addr × Obj)), s₄ = { s₁ with heap := h', toks := tk' } ∧ Fr h₀ L h' m ∧ News h₀ L h' ((I1, oI1) :: (I, oI) :: (C, oC) :: (D, LCg.lst ys) :: nw') ∧ Off4 I1 I C D nw' ∧ (ax, { cls := .type "list", data := .seq its c }) ∈ nw' ∧ J1 (j + 1) (ys ++ [y]) nw')) E' { s₁ with heap := h, toks := tk }) ∧
          (∀ ys nw, J1 its.size ys nw → ∃ nw2, (∀ q ∈ nw2, q ∈ nw) ∧ J (i + 1) ys nw2))) E' { s₁ with heap := h, toks := tk }) ∧
      (∀ D ys nw h tk, J n ys nw → Fr h₀ L h m → News h₀ L h ((D, LCg.lst ys) :: nw) → LCg.Off1 D nw → Q (.ref D) { s₁ with heap := h, toks := tk }))) E s)
    (hs : ∀ x, foldedSetIterable i0 env x = pure x := by intro _; rfl) (hs1 : ∀ C x, foldedSetIterable i1 (compEnvC scope cl C env) x = pure x := by intro _ _; rfl) :
    wpAny (model prog w) A (eval (lc2 elt (.Name x0 px0) i0 (.Name x1 px1) i1 scope pos) env) Q E s := by
  rw [eval_ListComp]
  refine wpAny_comprehension_free (use := none) rfl hs hclos hkind hnames (wpAny_mono h (fun xv s₁ h₁ => ?_) fun _ _ e => e)
  obtain ⟨J, r, n, t, u, v, news, rfl, F, N, hr, hsm, hn100, hJ0, hJs, hstep, hfin⟩ := h₁
  refine wpAny_pyIter_range hr hsm ?_
  have hrs : Builtin.Range.rangeSize 0 (n : Int) 1 = (n : Int) := by
    unfold Builtin.Range.rangeSize
    rw [if_pos (by decide)]
    split
    · rw [Int.ediv_one]; omega
    · omega
  rw [hrs]
  have up : ∀ b o, s₁.heap.get? b = some o → (s₁.heap.push { cls := .type "range_iterator", data := .fields #[rawInt 0, rawInt (n : Int), rawInt 1] }).get? b = some o := fun b o e => Heap.get?_push_of_some _ e
  have W := LCg.range_walks (prog := prog) (w := w) (I := s₁.heap.objs.size) hh 0 n
  have hst : IsRangeIter (s₁.heap.push { cls := .type "range_iterator", data := .fields #[rawInt 0, rawInt (n : Int), rawInt 1] }) s₁.heap.objs.size (0 + ((0 : Nat) : Int) * 1) ((n : Int) - ((0 : Nat) : Int)) 1 := by simpa using Heap.get?_push_size _ rfl
  have F0 := F.keeps up
  have N0 := N.grown up
  have hIL : L ≠ s₁.heap.objs.size := Nat.ne_of_lt F.ns.lt
  have hI₀ := next_is_new F
  have off : ∀ p ∈ news, p.1 ≠ s₁.heap.objs.size := fun p hp => Nat.ne_of_lt (Heap.lt_size (N p hp).1)
  have hIlt : s₁.heap.objs.size < (s₁.heap.push { cls := .type "range_iterator", data := .fields #[rawInt 0, rawInt (n : Int), rawInt 1] }).objs.size := by rw [Heap.size_push]; exact Nat.lt_succ_self _
  clear up
  try dsimp only
  generalize hG : s₁.heap.push { cls := .type "range_iterator", data := .fields #[rawInt 0, rawInt (n : Int), rawInt 1] } = G at F0 N0 hst hIlt ⊢
  generalize hIe : s₁.heap.objs.size = I at W hst hIL hI₀ off hIlt ⊢
  clear F N hr
  refine wpAny_newObj_type (wpAny_newFunctionEnv hcell (by intro y hy; simp at hy) (fun h₁ hns₁ hsb₁ => ?_) hkind)
  dsimp only at hns₁ hsb₁ ⊢
  generalize hH2 : G.push { cls := .type "list", dict := none, data := .seq ([] : List Value).toArray } = H2 at hns₁ hsb₁ ⊢
  have hC : H2.objs.size = G.objs.size + 1 := by rw [← hH2, Heap.size_push]
  have hDC : G.objs.size ≠ H2.objs.size := by rw [hC]; exact Nat.ne_of_lt (Nat.lt_succ_self _)
  have below : ∀ b, b < G.objs.size → b ≠ H2.objs.size ∧ b ≠ G.objs.size := fun b hb => ⟨by rw [hC]; exact Nat.ne_of_lt (Nat.lt_succ_of_lt hb), Nat.ne_of_lt hb⟩
  have old : ∀ b o, G.get? b = some o → h₁.get? b = some o := fun b o e => hsb₁.extBut b o (below b (Heap.lt_size e)).1 (Heap.get?_push_of_some _ (hH2 ▸ Heap.get?_push_of_some _ e))
  have hacc : h₁.get? G.objs.size = some (LCg.lst []) := hsb₁.extBut _ _ hDC (Heap.get?_push_of_some _ (hH2 ▸ Heap.get?_push_size _ rfl))
  have hst₁ := W.frame _ _ _ hst fun b _ o e => old b o e
  have fresh₀ : ∀ a, G.objs.size ≤ a → h₀.get? a = none := fun a ha => by
    cases e : h₀.get? a with
    | none => rfl
    | some o' => exact absurd (Heap.lt_size (F0.keep a o' e)) (Nat.not_lt.mpr ha)
  have hD₀ := fresh₀ _ (Nat.le_refl _)
  have hC₀ : h₀.get? H2.objs.size = none := fresh₀ _ (by rw [hC]; exact Nat.le_succ _)
  have hDL : G.objs.size ≠ L := Ne.symm (below L F0.ns.lt).2
  have hCL : H2.objs.size ≠ L := Ne.symm (below L F0.ns.lt).1
  have hCI : I ≠ H2.objs.size := (below I hIlt).1
  have hDI : I ≠ G.objs.size := (below I hIlt).2
  have off₀ : LCg.Off3 I H2.objs.size G.objs.size news := LCg.Off3.of fun p hp => ⟨off p hp, (below _ (Heap.lt_size (N0 p hp).1)).1, (below _ (Heap.lt_size (N0 p hp).1)).2⟩
  have F1 : Fr h₀ L h₁ m := F0.keeps old
  have N1 : News h₀ L h₁ news := N0.grown old
  clear old below fresh₀ hst hIlt hIe
  generalize hDe : G.objs.size = D at *
  generalize hCe : H2.objs.size = C at *
  have loop : ∀ s₃ : Shared, s₃ = { s₁ with heap := h₁, toks := s₁.toks + ([] : List (Str × Value)).length } →
      codeAny (model prog w) A (.compLoop (lc2 elt (.Name x0 px0) i0 (.Name x1 px1) i1 scope pos) 0 (.ref I) (.ref D) (compEnvC scope cl C env))
        (compPost (model prog w) A E none Q (.ref D) C) s₃ := by
    rintro s₃ rfl
    refine loop2_outer (hs := hs1 C)
      (fun k s' => ∃ h' tk i ys m' news', s' = { s₁ with heap := h', toks := tk } ∧ i ≤ n ∧ k = n + 1 - i ∧ IsRangeIter h' I (0 + (i : Nat) * 1) ((n : Int) - (i : Nat)) 1 ∧ Fr h₀ L h' m ∧ h'.Ns C m' ∧ News h₀ L h' ((D, LCg.lst ys) :: news') ∧
        LCg.Off3 I C D news' ∧ J i ys news') ?_ (n + 1)
      ⟨h₁, _, 0, [], _, news, rfl, Nat.zero_le _, rfl, hst₁, F1, hns₁, fun p hp => ?_, off₀, hJ0⟩
    · rintro k s' ⟨h', tk, i, ys, m', news', rfl, hi, rfl, hst', F', hn', N', off', hJ'⟩
      have off3 := off'.mem
      by_cases hlt : i < n
      · refine W.item i _ _ _ hlt hst' fun v h₂ tk₂ hPv hst₂ hk₂ => ?_
        obtain ⟨ti, rfl⟩ := hPv
        rw [Int.zero_add]
        refine wpAny_assign_Name (wpAny_storeName_local (lookup_relabel_local hx0) (hn'.at' fun o e => hk₂ _ o (by simpa using Ne.symm hCI) e) (fun h₃ hn₃ hs₃ => ?_) (by simp [compEnvC, relabel, hkind]))
        have hst₃ := W.frame _ _ _ hst₂ fun b hb o e => hs₃.extBut b o (fun q => by
          have q' : b = C := q
          rw [List.mem_singleton.mp hb] at q'; exact hCI q') e
        obtain ⟨oC, heC, hoC⟩ := LCg.ns_obj hn₃
        have heI := hst₃
        have F₃ : Fr h₀ L h₃ m := (LCg.fr_but F' hk₂ hIL hI₀).change hs₃ hCL hC₀
        have N₂ : News h₀ L h₂ ((D, LCg.lst ys) :: news') := LCg.news_but N' hk₂ fun p hp => by
          rcases List.mem_cons.mp hp with rfl | hp
          · exact Ne.symm hDI
          · exact (off3 p hp).1
        obtain ⟨oI, hoI⟩ : ∃ oI, h₃.get? I = some oI := ⟨_, heI⟩
        have N₃ : News h₀ L h₃ ((I, oI) :: (C, oC) :: (D, LCg.lst ys) :: news') := fun p hp => by
          rcases List.mem_cons.mp hp with rfl | hp
          · exact ⟨hoI, Ne.symm hIL, hI₀⟩
          · rcases List.mem_cons.mp hp with rfl | hp
            · exact ⟨heC, hCL, hC₀⟩
            · have z := N₂ p hp
              refine ⟨hs₃.extBut _ _ ?_ z.1, z.2⟩
              rcases List.mem_cons.mp hp with rfl | hp
              · exact hDC
              · exact (off3 p hp).2.1
        have hm0 : (fun z => if z = x0 then some (Value.int (i : Int) ti) else m' z) x0 = some (Value.int (i : Int) ti) := by simp
        refine wpAny_mono (hstep i ti ys I oI C oC D _ h₃ _ _ _ hlt hJ' hoC hm0 F₃ N₃ off' ⟨hCI, hDI, Ne.symm hDC⟩) (fun xv s₄ h₄ => ?_) fun _ _ e => e
        obtain ⟨J1, ax, its, c, nw1, h4, tk4, rfl, rfl, F4, N4, off4, hax, hJ1, hJ1s, hin, hend⟩ := h₄
        have zI4 := (N4 (I, oI) List.mem_cons_self).1
        have hst4 : IsRangeIter h4 I (0 + ((i + 1 : Nat) : Int) * 1) ((n : Int) - ((i + 1 : Nat) : Int)) 1 := by
          show h4.get? I = some _
          rw [zI4, ← hoI]; exact hst₃
        have hnC4 : h4.Ns C _ := hoC.ns (N4 (C, oC) (.tail _ (.head _))).1
        have zax := N4 (ax, _) (.tail _ (.tail _ (.tail _ hax)))
        have hlA : h4.IsList ax its := ⟨_, zax.1, rfl, c, rfl⟩
        have haxlt : ax < h4.objs.size := Heap.lt_size zax.1
        refine wpAny_pyIter_list hlA ?_
        have W1 := Walks.list (prog := prog) (w := w) hh h4.objs.size ax (Nat.ne_of_lt haxlt) its
        have up5 : ∀ b o, h4.get? b = some o → (h4.push { cls := .type "list_iterator", data := .fields #[.ref ax, .int 0 0] }).get? b = some o := fun b o e => Heap.get?_push_of_some _ e
        have F5 := F4.keeps up5
        have N5 := N4.grown up5
        have hst5 : (h4.push { cls := .type "list_iterator", data := .fields #[.ref ax, .int 0 0] }).IsListIter h4.objs.size ax 0 ∧ (h4.push { cls := .type "list_iterator", data := .fields #[.ref ax, .int 0 0] }).IsList ax its := ⟨⟨_, Heap.get?_push_size _ rfl, rfl, rfl⟩, hlA.push _⟩
        have hn5 := hnC4.keeps up5
        have hstI5 : IsRangeIter (h4.push { cls := .type "list_iterator", data := .fields #[.ref ax, .int 0 0] }) I (0 + ((i + 1 : Nat) : Int) * 1) ((n : Int) - ((i + 1 : Nat) : Int)) 1 := up5 _ _ hst4
        have nlt : ∀ p ∈ (I, oI) :: (C, oC) :: (D, LCg.lst ys) :: nw1, p.1 ≠ h4.objs.size := fun p hp => Nat.ne_of_lt (Heap.lt_size (N4 p hp).1)
        have hI1L : L ≠ h4.objs.size := Nat.ne_of_lt F4.ns.lt
        have hI10 := next_is_new F4
        have hII1 : I ≠ h4.objs.size := nlt _ (.head _)
        have hCI1 : C ≠ h4.objs.size := nlt _ (.tail _ (.head _))
        have hDI1 : D ≠ h4.objs.size := nlt _ (.tail _ (.tail _ (.head _)))
        have hxI1 : ax ≠ h4.objs.size := Nat.ne_of_lt haxlt
        have hnw1 : ∀ p ∈ nw1, p.1 ≠ h4.objs.size := fun p hp => nlt p (.tail _ (.tail _ (.tail _ hp)))
        have offax := off4.mem _ hax
        clear up5 nlt hlA haxlt zax F4 N4 hnC4 zI4
        try dsimp only
        generalize hHH : h4.push { cls := .type "list_iterator", data := .fields #[.ref ax, .int 0 0] } = H at *
        generalize hI1 : h4.objs.size = I1 at *
        have inner : ∀ s₅ : Shared, s₅ = { s₁ with heap := H, toks := tk4 } →
            codeAny (model prog w) A (.compLoop (lc2 elt (.Name x0 px0) i0 (.Name x1 px1) i1 scope pos) 1 (.ref I1) (.ref D) (compEnvC scope cl C env))
              (fun r s' => match r with
                | .ok _ => (∃ k, k < n + 1 - i ∧ ∃ h' tk i ys m' news', s' = { s₁ with heap := h', toks := tk } ∧ i ≤ n ∧ k = n + 1 - i ∧ IsRangeIter h' I (0 + (i : Nat) * 1) ((n : Int) - (i : Nat)) 1 ∧ Fr h₀ L h' m ∧ h'.Ns C m' ∧ News h₀ L h' ((D, LCg.lst ys) :: news') ∧ LCg.Off3 I C D news' ∧ J i ys news')
                | .error e => cameBackBy (model prog w) A (compEnvC scope cl C env) (notedBy (model prog w) A (compEnvC scope cl C env) fun e s' => compPost (model prog w) A E none Q (.ref D) C (.error e) s') e s') s₅ := by
          rintro s₅ rfl
          refine loop2_inner
            (fun k s' => ∃ h' tk j ys m' nw', s' = { s₁ with heap := h', toks := tk } ∧ j ≤ its.size ∧ k = its.size + 1 - j ∧ (h'.IsListIter I1 ax j ∧ h'.IsList ax its) ∧ Fr h₀ L h' m ∧ h'.Ns C m' ∧ m' x0 = some (.int (i : Int) ti) ∧ News h₀ L h' ((I, oI) :: (D, LCg.lst ys) :: nw') ∧
              Off4 I1 I C D nw' ∧ (ax, { cls := .type "list", data := .seq its c }) ∈ nw' ∧ J1 j ys nw') ?_ (its.size + 1)
            ⟨H, tk4, 0, ys, _, nw1, rfl, Nat.zero_le _, rfl, hst5, F5, hn5, hm0, fun p hp => ?_, fun p hp => ⟨hnw1 p hp, (off4.mem p hp).1, (off4.mem p hp).2.1, (off4.mem p hp).2.2⟩, hax, hJ1⟩
          · rintro k s' ⟨h', tk, j, ys, m', nw', rfl, hj, rfl, hst', F', hn', hm0', N', off', hax', hJ'⟩
            by_cases hltj : j < its.size
            · refine W1.item j _ _ _ hltj hst' fun v h₂ tk₂ hPv hst₂ hk₂ => ?_
              refine wpAny_assign_Name (wpAny_storeName_local (lookup_relabel_local hx1) (hn'.at' fun o e => hk₂ _ o (by simpa using hCI1) e) (fun h₃ hn₃ hs₃ => ?_) (by simp [compEnvC, relabel, hkind]))
              have hst₃ := W1.frame _ _ _ hst₂ fun b hb o e => hs₃.extBut b o (fun q => by
                have q' : b = C := q
                rcases List.mem_cons.mp hb with rfl | hb
                · exact hCI1 q'.symm
                · rw [List.mem_singleton.mp hb] at q'; exact offax.2.1 q') e
              obtain ⟨oC', heC', hoC'⟩ := LCg.ns_obj hn₃
              obtain ⟨oI1, heI1, -⟩ := hst₃.1
              have F₃ : Fr h₀ L h₃ m := (LCg.fr_but F' hk₂ hI1L hI10).change hs₃ hCL hC₀
              have N₂ : News h₀ L h₂ ((I, oI) :: (D, LCg.lst ys) :: nw') := LCg.news_but N' hk₂ fun p hp => by
                rcases List.mem_cons.mp hp with rfl | hp
                · exact hII1
                rcases List.mem_cons.mp hp with rfl | hp
                · exact hDI1
                · exact (off' p hp).1
              have N₃ : News h₀ L h₃ ((I1, oI1) :: (I, oI) :: (C, oC') :: (D, LCg.lst ys) :: nw') := fun p hp => by
                rcases List.mem_cons.mp hp with rfl | hp
                · exact ⟨heI1, Ne.symm hI1L, hI10⟩
                rcases List.mem_cons.mp hp with rfl | hp
                · have z := N₂ (I, oI) (.head _)
                  exact ⟨hs₃.extBut _ _ hCI z.1, z.2⟩
                rcases List.mem_cons.mp hp with rfl | hp
                · exact ⟨heC', hCL, hC₀⟩
                · have z := N₂ p (.tail _ hp)
                  refine ⟨hs₃.extBut _ _ ?_ z.1, z.2⟩
                  rcases List.mem_cons.mp hp with rfl | hp
                  · exact hDC
                  · exact (off' p hp).2.2.1
              refine wpAny_mono (hin j v ys I1 oI1 I oI C oC' D _ h₃ _ nw' _ hPv hJ' hoC' (by show (if x0 = x1 then _ else _) = _; rw [if_neg hx01]; exact hm0') (by simp) F₃ N₃ off' ⟨hII1, hCI1, hDI1, hCI, hDI, Ne.symm hDC⟩ hax') (fun y s₄ h₄ => ?_) fun _ _ e => e
              obtain ⟨h₅, tk₅, nw₅, rfl, F₅, N₅, off₅, hax₅, hJ₅⟩ := h₄
              have zI1 := N₅ (I1, oI1) (.head _)
              have zI := N₅ (I, oI) (.tail _ (.head _))
              have zC := N₅ (C, oC') (.tail _ (.tail _ (.head _)))
              have zD := N₅ (D, LCg.lst ys) (.tail _ (.tail _ (.tail _ (.head _))))
              have N₅' : News h₀ L h₅ nw₅ := fun p hp => N₅ p (.tail _ (.tail _ (.tail _ (.tail _ hp))))
              have hst₅ : h₅.IsListIter I1 ax (j + 1) ∧ h₅.IsList ax its := by
                obtain ⟨oJ, q1, q2⟩ := hst₃.1
                rw [heI1] at q1
                obtain rfl := Option.some.inj q1
                exact ⟨⟨_, zI1.1, q2⟩, ⟨_, (N₅' _ hax₅).1, rfl, c, rfl⟩⟩
              have hysz := hJ1s _ _ _ hJ'
              refine append_at (hsz := by show ys.toArray.size ≤ sizeLine; rw [List.size_toArray, PySem.sizeLine_eq]; omega) zD.1 fun h₆ hs₆ hD₆ => ?_
              refine ⟨its.size + 1 - (j + 1), by omega, h₆, _, j + 1, ys ++ [y], _, nw₅, rfl, hltj, rfl, W1.frame _ _ _ hst₅ fun b hb o e => hs₆.extBut b o (fun q => ?_) e, F₅.change hs₆ hDL hD₀, (hoC'.ns zC.1).sameBut hs₆ (Ne.symm hDC), ?_, fun p hp => ?_, off₅, hax₅, hJ₅⟩
              · have q' : b = D := q
                rcases List.mem_cons.mp hb with rfl | hb
                · exact hDI1 q'.symm
                · rw [List.mem_singleton.mp hb] at q'; exact offax.2.2 q'
              · show (if x0 = x1 then _ else _) = _; rw [if_neg hx01]; exact hm0'
              · rcases List.mem_cons.mp hp with rfl | hp
                · exact ⟨hs₆.extBut _ _ hDI zI.1, zI.2⟩
                rcases List.mem_cons.mp hp with rfl | hp
                · exact ⟨hD₆.trans (congrArg some (LCg.lst_snoc ys y)), hDL, hD₀⟩
                · exact ⟨hs₆.extBut _ _ (off₅ p hp).2.2.2 (N₅' p hp).1, (N₅' p hp).2⟩
            · obtain rfl : j = its.size := Nat.le_antisymm hj (Nat.not_lt.mp hltj)
              refine W1.done _ _ _ hst' fun h₂ tk₂ hk₂ => ?_
              have F2 := LCg.fr_but F' hk₂ hI1L hI10
              have N2 := LCg.news_but N' hk₂ fun p hp => by
                rcases List.mem_cons.mp hp with rfl | hp
                · exact hII1
                rcases List.mem_cons.mp hp with rfl | hp
                · exact hDI1
                · exact (off' p hp).1
              obtain ⟨nw2, hsub2, hJ2⟩ := hend ys nw' hJ'
              refine ⟨n + 1 - (i + 1), by omega, h₂, tk₂, i + 1, ys, m', nw2, rfl, hlt, rfl, ?_, F2, hn'.at' fun o e => hk₂ _ o (by simpa using hCI1) e, fun p hp => ?_, LCg.Off3.of fun p hp => (off' p (hsub2 p hp)).2, hJ2⟩
              · show h₂.get? I = some _
                have e1 := (N2 (I, oI) (.head _)).1
                have e2 := (N5 (I, oI) (.head _)).1
                rw [e1, ← e2]
                exact hstI5
              · rcases List.mem_cons.mp hp with rfl | hp
                · exact N2 _ (.tail _ (.head _))
                · exact N2 p (.tail _ (.tail _ (hsub2 p hp)))
          · rcases List.mem_cons.mp hp with rfl | hp
            · exact N5 _ (.head _)
            · exact N5 p (.tail _ (.tail _ hp))
        exact start2_inner (inner _ rfl) (W1.self 0 _ _ _ hst5 (inner _ rfl))
      · obtain rfl : i = n := Nat.le_antisymm hi (Nat.not_lt.mp hlt)
        refine W.done _ _ _ hst' fun h₂ tk₂ hk₂ => ?_
        have F2 := LCg.fr_but F' hk₂ hIL hI₀
        have N2 := LCg.news_but N' hk₂ fun p hp => by
          rcases List.mem_cons.mp hp with rfl | hp
          · exact Ne.symm hDI
          · exact (off3 p hp).1
        refine ⟨m', hn'.at' fun o e => hk₂ _ o (by simpa using Ne.symm hCI) e, fun h'' hs'' => hfin D ys news' h'' _ hJ' (F2.change hs'' hCL hC₀) (fun p hp => ?_) off'.one⟩
        refine ⟨hs''.extBut _ _ ?_ (N2 p hp).1, (N2 p hp).2⟩
        rcases List.mem_cons.mp hp with rfl | hp
        · exact hDC
        · exact (off3 p hp).2.1
    · rcases List.mem_cons.mp hp with rfl | hp
      · exact ⟨hacc, hDL, hD₀⟩
      · exact N1 p hp
  exact codeAny_compStart_list (loop _ rfl) (W.self 0 _ _ _ hst₁ (loop _ rfl))
end
end Mine
end
section
open PySem PySem.W PyProof.Rows PySem.Calls PyProof.V
set_option Elab.async false
set_option maxRecDepth 100000
set_option maxHeartbeats 1000000
set_option linter.unusedVariables false
set_option linter.unusedSimpArgs false
namespace Mine
theorem anew_RRRows : True := by
  w_top off
  trivial
local macro_rules | `(tactic| k_all) => `(tactic| assumption)
local macro_rules | `(tactic| dict_fit) => `(tactic| omega)
local macro_rules | `(tactic| k_room) => `(tactic| ktr_room)
local macro_rules | `(tactic| walk_at "call ref") => `(tactic| ((with_reducible show wpAny _ _ (call (Value.ref _) _ _) _ _ _); refine halt ?_))
local macro_rules | `(tactic| walk_at "eval ListComp") => `(tactic| ((with_reducible show wpAny _ _ (eval (Expr.ListComp _ _ _ _) _) _ _ _); refine halt ?_))
def rowsOf : Nat → List (List Int)
  | 0 => [[]]
  | k + 1 => (List.range (k + 1)).flatMap fun (i : Nat) => (rowsOf k).map fun r => (i : Int) :: r
inductive Rows : List (Addr × Obj) → List (List Int) → Prop
  | nil : Rows [] []
  | cons (T : Addr) (vs : List Value) (c : Nat) (r : List Int) {l : List (Addr × Obj)} {rs : List (List Int)} (h : IntsAre vs r) (h' : Rows l rs) : Rows ((T, listOf vs.toArray c) :: l) (r :: rs)
def RowsPost (k : Nat) (r : Value) (mine : List (Addr × Obj)) : Prop := ∃ (D : Addr) (c : Nat) (tl : List (Addr × Obj)), r = .ref D ∧ Rows tl (rowsOf k) ∧ tl.Pairwise (fun a b => @LT.lt Nat _ a.1 b.1) ∧ (∀ q ∈ tl, @Ne Nat q.1 D) ∧ mine = (D, listOf (tl.map fun p => Value.ref p.1).toArray c) :: tl
theorem Rows.length {l : List (Addr × Obj)} {rs : List (List Int)} (h : Rows l rs) : l.length = rs.length := by
  induction h with
  | nil => rfl
  | cons T vs c r h h' ih => simp only [List.length_cons, ih]
theorem Rows.at_ {l : List (Addr × Obj)} {rs : List (List Int)} (h : Rows l rs) : ∀ j, j < l.length → ∃ T vs c r, rs[j]? = some r ∧ (T, listOf vs.toArray c) ∈ l ∧ (l.map fun p => Value.ref p.1)[j]? = some (.ref T) ∧ IntsAre vs r := by
  induction h with
  | nil => exact fun j hj => absurd hj (Nat.not_lt_zero j)
  | cons T vs c r h h' ih =>
    intro j hj
    cases j with
    | zero => exact ⟨T, vs, c, r, rfl, List.mem_cons_self, rfl, h⟩
    | succ j =>
      obtain ⟨T', vs', c', r', e1, e2, e3, e4⟩ := ih j (by simpa using hj)
      exact ⟨T', vs', c', r', by simpa using e1, List.mem_cons_of_mem _ e2, by simpa using e3, e4⟩
theorem Rows.snoc {l : List (Addr × Obj)} {rs : List (List Int)} (h : Rows l rs) (T : Addr) (vs : List Value) (c : Nat) (r : List Int) (hr : IntsAre vs r) : Rows (l ++ [(T, listOf vs.toArray c)]) (rs ++ [r]) := by
  induction h with
  | nil => exact .cons _ _ _ _ hr .nil
  | cons T' vs' c' r' h h' ih => exact .cons _ _ _ _ h ih
theorem rowsOf_len : ∀ k, k < 4 → (rowsOf k).length ≤ 6
  | 0, _ => by decide
  | 1, _ => by decide
  | 2, _ => by decide
  | 3, _ => by decide
theorem off1_mem {D : Addr} : ∀ {l : List (Addr × Obj)}, LCg.Off1 D l → ∀ q ∈ l, @Ne Nat q.1 D
  | [], _, q, hq => nomatch hq
  | _ :: _, h, q, hq => by
    rcases List.mem_cons.mp hq with rfl | hq
    · exact h.1
    · exact off1_mem h.2 q hq
theorem rowsOf_mem_len : ∀ k r, r ∈ rowsOf k → r.length = k
  | 0, r, h => by
    simp only [rowsOf, List.mem_singleton] at h
    subst h; rfl
  | k + 1, r, h => by
    simp only [rowsOf, List.mem_flatMap, List.mem_map] at h
    obtain ⟨i, -, r', hr', rfl⟩ := h
    rw [List.length_cons, rowsOf_mem_len k r' hr']
def preRows (k i : Nat) : List (List Int) := (List.range i).flatMap fun (i : Nat) => (rowsOf k).map fun r => (i : Int) :: r
theorem preRows_succ (k i : Nat) : preRows k (i + 1) = preRows k i ++ (rowsOf k).map fun r => (i : Int) :: r := by
  unfold preRows
  rw [List.range_succ, List.flatMap_append]
  simp
section
variable {prog : Program} {w : World} {p : Program} {loose : List Str} {mean : ExcName → Option Value} {mg mb : Str → Option Value}
theorem rows_zero {t : Tok} : Spec prog w p loose mean mg mb 10 60 925 [.int 0 t] [] (RowsPost 0) := by
  intro dp un gd cn cs a ccd cl outer A₀ base h₀ L m rest s Q E B F X N T hC hcs hap hd hu hret
  have key : (PySem.Challenge.rw_fc0033_01, Mine.K) = (PySem.Challenge.rw_fc0033_01, Mine.K) := by k_fill; rfl
  clear key
  simp only [List.cons_append, List.nil_append] at N
  refine wpAny_call (code_defC (binds := [(Str.ofString "many", .int 0 t)]) B F X N T rfl rfl hcs (by k_is) (by k_is) (show dp < recursionLimit by omega) (by exact BindsTo.of_eq rfl) (by exact rfl) (by decide +kernel) ?_ (by exact rfl) (by exact rfl) (by exact rfl))
  intro g' L' h' tk' cells' FG' F' N' Y' B' X' T' l1
  have Y := CellsAre.one Y'
  obtain ⟨o1, hE', d1⟩ := Y
  subst hE'
  have C' : CodeHd g' 905 901 := hC.keeps B'.stays
  simp only [List.cons_append, List.nil_append] at N'
  (try dsimp only)
  (try k_fold)
  k_steps
  rename_i b hx l1 e h2 kF1 N1 l2 kF kN Tc kX
  obtain ⟨z1, z2⟩ := l1
  obtain ⟨z3, z4, z5⟩ := l2
  have z2' := ktn_ltOf z2
  have z5' := ktn_ltOf z5
  refine hret _ [(e, listOf #[.ref b] 0), (b, listOf #[] 0)] _ _ kF (news_sub kN ?_) ?_ ⟨e, 0, [(b, listOf #[] 0)], rfl, .cons b [] 0 [] .nil .nil, List.pairwise_singleton .., fun q hq => by rw [List.mem_singleton.mp hq]; exact Nat.ne_of_lt z3, rfl⟩
  · intro q hq
    simp only [List.mem_cons, List.mem_append, List.cons_append, List.nil_append, List.not_mem_nil, or_false] at hq ⊢
    grind
  · intro z hz q hq
    simp only [List.mem_cons, List.not_mem_nil, or_false] at hz
    rcases hz with rfl | rfl
    · exact Nat.ne_of_lt (z5' q hq)
    · exact Nat.ne_of_lt (z2' q hq)
theorem rows_succ {k : Nat} {t : Tok} (hk : k < 4) (ih : ∀ t, Spec prog w p loose mean mg mb (10 + 10 * k) (60 + 60 * k) 925 [.int (k : Int) t] [] (RowsPost k)) : Spec prog w p loose mean mg mb (10 + 10 * (k + 1)) (60 + 60 * (k + 1)) 925 [.int ((k + 1 : Nat) : Int) t] [] (RowsPost (k + 1)) := by
  intro dp un gd cn cs a ccd cl outer A₀ base h₀ L m rest s Q E B F X N T hC hcs hap hd hu hret
  have key : (PySem.Challenge.rw_fc0033_01, Mine.K) = (PySem.Challenge.rw_fc0033_01, Mine.K) := by k_fill; rfl
  clear key
  simp only [List.cons_append, List.nil_append] at N
  refine wpAny_call (code_defC (binds := [(Str.ofString "many", .int ((k + 1 : Nat) : Int) t)]) B F X N T rfl rfl hcs (by k_is) (by k_is) (show dp < recursionLimit by omega) (by exact BindsTo.of_eq rfl) (by exact rfl) (by decide +kernel) ?_ (by exact rfl) (by exact rfl) (by exact rfl))
  intro g' L' h' tk' cells' FG' F' N' Y' B' X' T' l1
  have Y := CellsAre.one Y'
  obtain ⟨o1, hE', d1⟩ := Y
  subst hE'
  have C' : CodeHd g' 905 901 := hC.keeps B'.stays
  simp only [List.cons_append, List.nil_append] at N'
  (try dsimp only)
  (try k_fold)
  change wpAny _ (ktrTop (dp + 1) (un + 3) gd (Str.ofString "_law_rows") _ L' 925 (.ref 924) [(Str.ofString "many", L' + 1)] (envX cn cs L a ccd cl :: outer)) _ _ _ _
  have hkz : ¬ ((k + 1 : Nat) : Int) = 0 := by omega
  k_steps
  all_goals (try (exfalso; omega))
  refine unhalt ?_
  have d1' : o1.data = .cell (some (.int ((k + 1 : Nat) : Int) t)) := d1
  obtain ⟨m9, hm9⟩ : ∃ m9, m9 = (bindL (envOfC (Str.ofString "_law_rows") { kind := ScopeKind.function, names := [(Str.ofString "many", NameKind.cell), (Str.ofString "range", NameKind.globalImplicit)], isGenerator := false, isCoroutine := false, more := [(Str.ofString "fast", Const.str (Str.ofString "many")), (Str.ofString "fast", Const.str (Str.ofString "first")), (Str.ofString "fast", Const.str (Str.ofString "rest"))] } L' 925 (Value.ref 924)).kindOf [(Str.ofString "many", .int ((k + 1 : Nat) : Int) t)] fun _ => none) := ⟨_, rfl⟩
  have F9 : Fr g' L' h' m9 := by rw [hm9]; exact F'
  clear F' Y' hm9
  refine ListComp2_own (h₀ := g') (L := L') (m := m9) (by with_unfolding_all rfl) (by decide) (by rfl) (by decide) (by rfl) (by rfl) (by decide) (by rfl) ?_
  clear d1
  k_steps
  rename_i hx tkx t1 u1 v1 hR F1 N1 hkx
  have hR6 := rowsOf_len k hk
  obtain ⟨R, hRe⟩ : ∃ R, R = (rowsOf k).length := ⟨_, rfl⟩
  rw [← hRe] at hR6
  have apc : ∀ q ∈ rest, @Ne Nat q.1 (L' + 1) := fun q hq => Nat.ne_of_lt (Nat.lt_succ_of_lt (l1 q hq))
  refine Held.mk ⟨fun i ys nw => i ≤ k + 1 ∧ ∃ tl : List (Addr × Obj), ys = tl.map (fun p => Value.ref p.1) ∧ tl.length = i * R ∧ Rows tl (preRows k i) ∧ nw = (L' + 1, o1) :: (tl ++ rest) ∧ (∀ z ∈ tl, ∀ q ∈ rest, q.1 ≠ z.1) ∧ tl.Pairwise (fun a b => @LT.lt Nat _ a.1 b.1), _, k + 1, t1, u1, v1, (L' + 1, o1) :: rest, rfl, F1, N1, hR, ?_, by omega, ⟨Nat.zero_le _, [], rfl, by simp, .nil, rfl, (fun z hz => nomatch hz), .nil⟩, ?_, ?_, ?_⟩
  · exact small_one (by decide) (by decide) (by omega) (by omega)
  · rintro i ys nw ⟨hi, tl, rfl, hl, -⟩
    rw [List.length_map, hl]
    have : i * R ≤ 5 * 6 := Nat.mul_le_mul (by omega) hR6
    omega
  · rintro i ti ys I oI C oC D m2 hh tk2 nw E' hi ⟨-, tl, rfl, hl, hRw, rfl, hap1, hpw1⟩ hC2 hm2 F2 N2 off ne
    clear N1 F1
    have off' := off.mem
    k_steps
    refine unhalt ?_
    rw [show ((k + 1 : Nat) : Int) - 1 = (k : Int) by omega]
    rename Fr g' L' _ _ => F3
    rename News g' L' _ _ => N3
    refine use1 (ih _) (pre := []) B' F3 X' N3 T' hC (by exact rfl) (fun z hz => nomatch hz) (by exact (show dp + 1 + (10 + 10 * k) < recursionLimit by omega)) (by exact (show un + 3 + (60 + 60 * k) < cLine by omega)) ?_
    intro r mine h4 tk4 F4 N4 ap4 hpost
    obtain ⟨D1, c1, tl1, rfl, hRw1, -, -, rfl⟩ := hpost
    k_steps
    have hl1 := hRw1.length
    rw [← hRe] at hl1
    have off0 := off' _ (.head _)
    have ap1 : ∀ z ∈ (D1, listOf (tl1.map fun p => Value.ref p.1).toArray c1) :: tl1, z.1 ≠ I ∧ z.1 ≠ C ∧ z.1 ≠ D := fun z hz => ⟨Ne.symm (ap4 z hz _ (.head _)), Ne.symm (ap4 z hz _ (.tail _ (.head _))), Ne.symm (ap4 z hz _ (.tail _ (.tail _ (.head _))))⟩
    refine Held.mk ⟨fun j ys nw => j ≤ R ∧ ∃ tl : List (Addr × Obj), ys = tl.map (fun p => Value.ref p.1) ∧ tl.length = i * R + j ∧ Rows tl (preRows k i ++ ((rowsOf k).take j).map fun r => (i : Int) :: r) ∧ nw = (D1, listOf (tl1.map fun p => Value.ref p.1).toArray c1) :: (L' + 1, o1) :: (tl1 ++ (tl ++ rest)) ∧ (∀ z ∈ tl, ∀ q ∈ rest, q.1 ≠ z.1) ∧ tl.Pairwise (fun a b => @LT.lt Nat _ a.1 b.1), D1, _, c1, (D1, listOf (tl1.map fun p => Value.ref p.1).toArray c1) :: (L' + 1, o1) :: (tl1 ++ (tl ++ rest)), h4, tk4, rfl, rfl, F4, news_sub N4 ?_, LCg.Off3.of ?_, .head _, ⟨Nat.zero_le _, tl, rfl, hl, by simpa using hRw, rfl, hap1, hpw1⟩, ?_, ?_, ?_⟩
    · intro q hq
      simp only [List.mem_cons, List.mem_append, List.cons_append, List.nil_append] at hq ⊢
      grind
    · intro q hq
      rcases List.mem_cons.mp hq with rfl | hq
      · exact ap1 _ (.head _)
      rcases List.mem_cons.mp hq with rfl | hq
      · exact off0
      rcases List.mem_append.mp hq with hq | hq
      · exact ap1 q (.tail _ hq)
      · exact off' q (.tail _ hq)
    · rintro j ys nw ⟨hj, tl, rfl, hl, -⟩
      rw [List.length_map, hl]
      have : i * R ≤ 4 * 6 := Nat.mul_le_mul (by omega) hR6
      omega
    · rintro j v ys I1 oI1 I oI C oC D m3 h5 tk5 nw E5 hv ⟨hj, tl, rfl, hl, hRw, rfl, hap5, hpw5⟩ hC5 hm5 hm6 F5 N5 off5 ne5 hax5
      have hjl : j < tl1.length := by
        have := (Array.getElem?_eq_some_iff.mp hv).1
        simpa using this
      obtain ⟨T1, vs1, cc1, r1, e1, e2, e3, e4⟩ := hRw1.at_ j hjl
      have hv2 : v = .ref T1 := by
        rw [List.getElem?_toArray, e3] at hv
        exact (Option.some.inj hv).symm
      subst hv2
      have N6 : News g' L' h5 ((I1, oI1) :: (I, oI) :: (C, oC) :: (D, LCg.lst (tl.map fun p => Value.ref p.1)) :: (T1, listOf vs1.toArray cc1) :: (D1, listOf (tl1.map fun p => Value.ref p.1).toArray c1) :: (L' + 1, o1) :: (tl1 ++ (tl ++ rest))) := by
        intro q hq
        rcases List.mem_cons.mp hq with rfl | hq
        · exact N5 _ (.head _)
        rcases List.mem_cons.mp hq with rfl | hq
        · exact N5 _ (.tail _ (.head _))
        rcases List.mem_cons.mp hq with rfl | hq
        · exact N5 _ (.tail _ (.tail _ (.head _)))
        rcases List.mem_cons.mp hq with rfl | hq
        · exact N5 _ (.tail _ (.tail _ (.tail _ (.head _))))
        rcases List.mem_cons.mp hq with rfl | hq
        · exact N5 _ (.tail _ (.tail _ (.tail _ (.tail _ (.tail _ (.tail _ (List.mem_append_left _ e2)))))))
        · exact N5 q (.tail _ (.tail _ (.tail _ (.tail _ hq))))
      clear F4 N4
      have hr1 := rowsOf_mem_len k r1 (List.mem_of_getElem? e1)
      k_steps
      rename Fr g' L' _ _ => F7
      rename News g' L' _ _ => N7
      rename_i T0 hq0 l70 T2 us hq1 hus l7
      obtain ⟨b0, b1, b2, b3, b4, b5, b6, b7, b8⟩ := l7
      have b8' := ktn_ltOf b8
      refine Held.mk ⟨hq1, _, (D1, listOf (tl1.map fun p => Value.ref p.1).toArray c1) :: (L' + 1, o1) :: (tl1 ++ ((tl ++ [(T2, listOf us.toArray 0)]) ++ rest)), rfl, F7, news_sub N7 ?_, ?_, .head _, by omega, tl ++ [(T2, listOf us.toArray 0)], by rw [List.map_append]; rfl, by rw [List.length_append, List.length_singleton, hl, Nat.add_assoc], ?_, rfl, ?_, ?_⟩
      · intro q hq
        simp only [List.mem_cons, List.mem_append, List.cons_append, List.nil_append, List.not_mem_nil, or_false] at hq ⊢
        grind
      · intro q hq
        have hin : q = (T2, listOf us.toArray 0) ∨ q ∈ (D1, listOf (tl1.map fun p => Value.ref p.1).toArray c1) :: (L' + 1, o1) :: (tl1 ++ (tl ++ rest)) := by
          simp only [List.mem_cons, List.mem_append, List.not_mem_nil, or_false] at hq ⊢
          grind
        rcases hin with rfl | hq
        · refine ⟨?_, ?_, ?_, ?_⟩
          · exact (show @Ne Nat T2 _ by omega)
          · exact (show @Ne Nat T2 _ by omega)
          · exact (show @Ne Nat T2 _ by omega)
          · exact (show @Ne Nat T2 _ by omega)
        · exact off5 q hq
      · rw [List.take_add_one, e1, List.map_append, ← List.append_assoc]
        exact hRw.snoc T2 us 0 ((i : Int) :: r1) hus
      · intro z hz q hq
        rcases List.mem_append.mp hz with hz | hz
        · exact hap5 z hz q hq
        · obtain rfl := List.mem_singleton.mp hz
          exact Nat.ne_of_lt (b8' q (List.mem_append_right _ (List.mem_append_right _ hq)))
      · refine List.pairwise_append.mpr ⟨hpw5, List.pairwise_singleton .., fun z hz q hq => ?_⟩
        obtain rfl := List.mem_singleton.mp hq
        exact b8' z (List.mem_append_right _ (List.mem_append_left _ hz))
    · rintro ys nw ⟨-, tl, rfl, hl5, hRw5, rfl, hap5, hpw5⟩
      rw [List.size_toArray, List.length_map, hl1] at hl5
      rw [List.size_toArray, List.length_map, hl1, hRe, List.take_of_length_le (Nat.le_refl _), ← preRows_succ] at hRw5
      refine ⟨(L' + 1, o1) :: (tl ++ rest), ?_, by omega, tl, rfl, by rw [hl5, Nat.succ_mul], hRw5, rfl, hap5, hpw5⟩
      intro q hq
      simp only [List.mem_cons, List.mem_append] at hq ⊢
      grind
  · rintro D ys nw hh tk2 ⟨-, tl, rfl, hl, hRw, rfl, hap1, hpw1⟩ F2 N2 o1'
    have o9 : ∀ q ∈ tl ++ rest, @Ne Nat q.1 D := fun q hq => off1_mem o1' q (.tail _ hq)
    k_steps
    rename Fr h₀ L _ _ => kF
    rename News h₀ L _ _ => kN
    refine hret _ ((D, LCg.lst (tl.map fun p => Value.ref p.1)) :: tl) _ _ kF (news_sub kN ?_) ?_ ⟨D, _, tl, rfl, hRw, hpw1, fun q hq => o9 q (List.mem_append_left _ hq), rfl⟩
    · intro q hq
      simp only [List.mem_cons, List.mem_append, List.cons_append, List.nil_append] at hq ⊢
      grind
    · intro z hz q hq
      rcases List.mem_cons.mp hz with rfl | hz
      · exact o9 q (List.mem_append_right _ hq)
      · exact hap1 z hz q hq
theorem rows_spec : ∀ (k : Nat), k ≤ 4 → ∀ t, Spec prog w p loose mean mg mb (10 + 10 * k) (60 + 60 * k) 925 [.int (k : Int) t] [] (RowsPost k)
  | 0, _, _ => rows_zero
  | k + 1, h, t => rows_succ (by omega) (rows_spec k (by omega))
end
end Mine
end
section
open PySem PySem.W PyProof.Rows PySem.Calls PyProof.V
set_option Elab.async false
set_option maxRecDepth 100000
set_option maxHeartbeats 1000000
set_option linter.unusedVariables false
set_option linter.unusedSimpArgs false
namespace Mine
abbrev tup2 (a b : Value) : Obj := { cls := .type "tuple", data := .seq #[a, b] 0 }
inductive Prs : List (Addr × Obj) → List (Int × Int) → Prop
  | nil : Prs [] []
  | cons (T : Addr) (k v : Int) (t u : Tok) {l : List (Addr × Obj)} {ps : List (Int × Int)} (h : Prs l ps) : Prs ((T, tup2 (.int k t) (.int v u)) :: l) ((k, v) :: ps)
theorem Prs.length {l : List (Addr × Obj)} {ps : List (Int × Int)} (h : Prs l ps) : l.length = ps.length := by
  induction h with
  | nil => rfl
  | cons T k v t u h ih => simp only [List.length_cons, ih]
theorem Prs.at_ {l : List (Addr × Obj)} {ps : List (Int × Int)} (h : Prs l ps) : ∀ (i : Nat), i < l.length → ∃ (T : Addr) (k v : Int) (t u : Tok), l[i]? = some (T, tup2 (.int k t) (.int v u)) ∧ ps[i]? = some (k, v) := by
  induction h with
  | nil => exact fun i hi => absurd hi (Nat.not_lt_zero i)
  | cons T k v t u h ih =>
    intro i hi
    cases i with
    | zero => exact ⟨T, k, v, t, u, rfl, rfl⟩
    | succ i =>
      obtain ⟨T', k', v', t', u', e1, e2⟩ := ih i (by simpa using hi)
      exact ⟨T', k', v', t', u', by simpa using e1, by simpa using e2⟩
theorem Prs.of_at : ∀ {l : List (Addr × Obj)} {ps : List (Int × Int)}, l.length = ps.length → (∀ (i : Nat), i < l.length → ∃ (T : Addr) (k v : Int) (t u : Tok), l[i]? = some (T, tup2 (.int k t) (.int v u)) ∧ ps[i]? = some (k, v)) → Prs l ps
  | [], [], _, _ => .nil
  | [], _ :: _, e, _ => by simp at e
  | _ :: _, [], e, _ => by simp at e
  | p :: l, q :: ps, e, h => by
    obtain ⟨T, k, v, t, u, e1, e2⟩ := h 0 (by simp)
    obtain rfl : p = _ := Option.some.inj e1
    obtain rfl : q = _ := Option.some.inj e2
    exact .cons T k v t u (Prs.of_at (by simpa using e) fun i hi => by
      obtain ⟨T', k', v', t', u', e3, e4⟩ := h (i + 1) (by simpa using hi)
      exact ⟨T', k', v', t', u', by simpa using e3, by simpa using e4⟩)
def krun {α : Type} (lt : Nat → Nat → Bool) : KasT α → α
  | .ret a => a
  | .ask i j k => krun lt (k (lt i j))
def kin {α : Type} (n : Nat) : KasT α → Bool
  | .ret _ => true
  | .ask i j k => decide (i < n) && decide (j < n) && kin n (k true) && kin n (k false)
theorem kas_pure {α : Type} {n : Nat} {lt : Nat → Nat → Bool} {cmp : Nat → Nat → (Bool → Shared → Prop) → Shared → Prop} {Q : α → Shared → Prop} {s : Shared} (hc : ∀ i j C, i < n → j < n → C (lt i j) s → cmp i j C s) : ∀ (t : KasT α), kin n t = true → Q (krun lt t) s → t.kasWp cmp Q s
  | .ret a, _, h => h
  | .ask i j k, hi, h => by
    simp only [kin, Bool.and_eq_true, decide_eq_true_eq] at hi
    refine hc i j _ hi.1.1.1 hi.1.1.2 (kas_pure hc (k (lt i j)) ?_ h)
    cases lt i j with
    | true => exact hi.1.2
    | false => exact hi.2
theorem krun_congr {α : Type} {n : Nat} {lt lt' : Nat → Nat → Bool} (h : ∀ i j, i < n → j < n → lt i j = lt' i j) : ∀ (t : KasT α), kin n t = true → krun lt t = krun lt' t
  | .ret a, _ => rfl
  | .ask i j k, hi => by
    simp only [kin, Bool.and_eq_true, decide_eq_true_eq] at hi
    have e := h i j hi.1.1.1 hi.1.1.2
    show krun lt (k (lt i j)) = krun lt' (k (lt' i j))
    rw [← e]
    refine krun_congr h _ ?_
    cases lt i j with
    | true => exact hi.1.2
    | false => exact hi.2
def allL (n : Nat) : Nat → List (List Nat)
  | 0 => [[]]
  | k + 1 => (List.range n).flatMap fun (a : Nat) => (allL n k).map fun r => a :: r
theorem mem_allL (n : Nat) : ∀ (r : List Nat), (∀ x ∈ r, x < n) → r ∈ allL n r.length
  | [], _ => by simp [allL]
  | a :: r, h => by
    simp only [allL, List.length_cons, List.mem_flatMap, List.mem_map, List.mem_range]
    exact ⟨a, h a (.head _), r, mem_allL n r fun x hx => h x (.tail _ hx), rfl⟩
def ndB (r : List Nat) : Bool := decide (r.Nodup)
def goodRun (n : Nat) (r : List Nat) : Bool :=
  let p := (krun (fun i j => decide (r.getD i 0 < r.getD j 0)) (kas_sort n)).toList
  !(ndB r) || (decide (p.map (fun i => r.getD i 0) = List.range n) && (p.isPerm (List.range n)))
theorem good2 : (allL 2 2).all (goodRun 2) = true := by decide +kernel
theorem good3 : (allL 3 3).all (goodRun 3) = true := by decide +kernel
theorem good4 : (allL 4 4).all (goodRun 4) = true := by decide +kernel
theorem kin2 : kin 2 (kas_sort 2) = true := by decide +kernel
theorem kin3 : kin 3 (kas_sort 3) = true := by decide +kernel
theorem kin4 : kin 4 (kas_sort 4) = true := by decide +kernel
theorem good_of {n : Nat} (h2 : 2 ≤ n) (h4 : n ≤ 4) (r : List Nat) (hl : r.length = n) (hr : ∀ x ∈ r, x < n) (hn : r.Nodup) :
    ((krun (fun i j => decide (r.getD i 0 < r.getD j 0)) (kas_sort n)).toList.map (fun i => r.getD i 0) = List.range n) ∧ (krun (fun i j => decide (r.getD i 0 < r.getD j 0)) (kas_sort n)).toList.Perm (List.range n) := by
  have hm : r ∈ allL n n := by have := mem_allL n r hr; rw [hl] at this; exact this
  have hg : goodRun n r = true := by
    rcases (by omega : n = 2 ∨ n = 3 ∨ n = 4) with rfl | rfl | rfl
    · exact List.all_eq_true.mp good2 r hm
    · exact List.all_eq_true.mp good3 r hm
    · exact List.all_eq_true.mp good4 r hm
  unfold goodRun ndB at hg
  simp only [decide_eq_true hn, Bool.not_true, Bool.false_or, Bool.and_eq_true, decide_eq_true_eq] at hg
  exact ⟨hg.1, List.isPerm_iff.mp hg.2⟩
theorem kin_of {n : Nat} (h2 : 2 ≤ n) (h4 : n ≤ 4) : kin n (kas_sort n) = true := by
  rcases (by omega : n = 2 ∨ n = 3 ∨ n = 4) with rfl | rfl | rfl
  · exact kin2
  · exact kin3
  · exact kin4
def rank (ks : List Int) (a : Int) : Nat := ks.countP fun b => decide (b < a)
theorem rank_le (ks : List Int) {a b : Int} (h : a ≤ b) : rank ks a ≤ rank ks b := by
  refine List.countP_mono_left fun x _ hx => ?_
  simp only [decide_eq_true_eq] at hx ⊢
  omega
theorem rank_lt {ks : List Int} {a b : Int} (h : a < b) (ha : a ∈ ks) : rank ks a < rank ks b := by
  induction ks with
  | nil => cases ha
  | cons x r ih =>
    unfold rank at ih ⊢
    rw [List.countP_cons, List.countP_cons]
    rcases List.mem_cons.mp ha with rfl | ha
    · have := rank_le r (Int.le_of_lt h)
      unfold rank at this
      rw [if_neg (by simp), if_pos (by simpa using h)]
      omega
    · have := ih ha
      have hm : (if decide (x < a) = true then 1 else 0) ≤ (if decide (x < b) = true then 1 else 0) := by
        by_cases h1 : x < a
        · have h2 : x < b := by omega
          simp [h1, h2]
        · simp [h1]
      omega
theorem rank_bound {ks : List Int} {a : Int} (ha : a ∈ ks) : rank ks a < ks.length := by
  have h1 : rank ks a < rank ks (a + 1) := rank_lt (by omega) ha
  exact Nat.lt_of_lt_of_le h1 List.countP_le_length
theorem rank_iff {ks : List Int} {a b : Int} (ha : a ∈ ks) (hb : b ∈ ks) : a < b ↔ rank ks a < rank ks b := by
  constructor
  · intro h; exact rank_lt h ha
  · intro h
    by_cases e : b ≤ a
    · have := rank_le ks e; omega
    · omega
theorem rank_inj {ks : List Int} {a b : Int} (ha : a ∈ ks) (hb : b ∈ ks) (e : rank ks a = rank ks b) : a = b := by
  by_cases h1 : a < b
  · have := rank_lt h1 ha; omega
  by_cases h2 : b < a
  · have := rank_lt h2 hb; omega
  omega
theorem sort_keys {ks : List Int} (h2 : 2 ≤ ks.length) (h4 : ks.length ≤ 4) (hn : ks.Nodup) :
    (krun (fun i j => decide (ks.getD i 0 < ks.getD j 0)) (kas_sort ks.length)).toList.Perm (List.range ks.length) ∧ ((krun (fun i j => decide (ks.getD i 0 < ks.getD j 0)) (kas_sort ks.length)).toList.map (fun i => ks.getD i 0)).Pairwise (· < ·) := by
  obtain ⟨r, hr⟩ : ∃ r, r = ks.map (rank ks) := ⟨_, rfl⟩
  have hrl : r.length = ks.length := by rw [hr, List.length_map]
  have hrb : ∀ x ∈ r, x < ks.length := by
    intro x hx
    rw [hr] at hx
    obtain ⟨a, ha, rfl⟩ := List.mem_map.mp hx
    exact rank_bound ha
  have hrn : r.Nodup := by
    rw [hr]
    refine List.pairwise_map.mpr ?_
    refine List.Pairwise.imp_of_mem ?_ hn
    intro a b ha hb hab e
    exact hab (rank_inj ha hb e)
  have hget : ∀ i, i < ks.length → r.getD i 0 = rank ks (ks.getD i 0) := by
    intro i hi
    rw [hr, List.getD_eq_getElem?_getD, List.getD_eq_getElem?_getD, List.getElem?_map, List.getElem?_eq_getElem hi]
    rfl
  have hmem : ∀ i, i < ks.length → ks.getD i 0 ∈ ks := fun i hi => getD_mem hi
  have hcong : krun (fun i j => decide (ks.getD i 0 < ks.getD j 0)) (kas_sort ks.length) = krun (fun i j => decide (r.getD i 0 < r.getD j 0)) (kas_sort ks.length) := by
    refine krun_congr (n := ks.length) (fun i j hi hj => ?_) _ (kin_of h2 h4)
    rw [hget i hi, hget j hj]
    exact decide_eq_decide.mpr (rank_iff (hmem i hi) (hmem j hj))
  rw [hcong]
  obtain ⟨g1, g2⟩ := good_of h2 h4 r hrl hrb hrn
  refine ⟨g2, ?_⟩
  obtain ⟨p, hp⟩ : ∃ p, p = (krun (fun i j => decide (r.getD i 0 < r.getD j 0)) (kas_sort ks.length)).toList := ⟨_, rfl⟩
  rw [← hp] at g1 g2 ⊢
  have hpl : ∀ i ∈ p, i < ks.length := fun i hi => List.mem_range.mp (g2.mem_iff.mp hi)
  refine List.pairwise_map.mpr ?_
  have hpw : (p.map (fun i => r.getD i 0)).Pairwise (· < ·) := by rw [g1]; exact List.pairwise_lt_range
  refine List.Pairwise.imp_of_mem ?_ (List.pairwise_map.mp hpw)
  intro a b ha hb hab
  rw [hget a (hpl a ha), hget b (hpl b hb)] at hab
  exact (rank_iff (hmem a (hpl a ha)) (hmem b (hpl b hb))).mpr hab
end Mine
end
section
open PySem PySem.W PyProof.Rows PySem.Calls PyProof.V
set_option Elab.async false
set_option maxRecDepth 100000
set_option maxHeartbeats 1000000
set_option linter.unusedVariables false
set_option linter.unusedSimpArgs false
namespace Mine
theorem range_map_getD {α : Type} [Inhabited α] (l : List α) : (List.range l.length).map (fun i => l.getD i default) = l := by
  apply List.ext_getElem
  · simp
  · intro i h1 h2
    simp [List.getD_eq_getElem?_getD, List.getElem?_eq_getElem h2]
section
variable {prog : Program} {w : World} {A : Around} {E : Value → Shared → Prop} {s : Shared} {h₀ : Heap} {L : Addr} {m : Str → Option Value}
theorem pair_ask {vs : List Value} {tl : List (Addr × Obj)} {ps : List (Int × Int)} {h₀ : Heap} {L : Addr} (N : News h₀ L s.heap tl) (hP : Prs tl ps) (hvs : vs = tl.map fun p => Value.ref p.1) (hn : (ps.map (·.1)).Nodup) {i j : Nat} {C : Bool → Shared → Prop} (hi : i < ps.length) (hj : j < ps.length) (h : C (decide ((ps.map (·.1)).getD i 0 < (ps.map (·.1)).getD j 0)) s) :
    kas_ask prog w A (tuples' true) vs i j C s := by
  have hl := hP.length
  obtain ⟨T, k, v, t, u, e1, e2⟩ := hP.at_ i (by omega)
  obtain ⟨T', k', v', t', u', e3, e4⟩ := hP.at_ j (by omega)
  unfold kas_ask
  have g1 : vs.getD i Value.none = .ref T := by rw [hvs, List.getD_eq_getElem?_getD, List.getElem?_map, e1]; rfl
  have g2 : vs.getD j Value.none = .ref T' := by rw [hvs, List.getD_eq_getElem?_getD, List.getElem?_map, e3]; rfl
  have g3 : (ps.map (·.1)).getD i 0 = k := by rw [List.getD_eq_getElem?_getD, List.getElem?_map, e2]; rfl
  have g4 : (ps.map (·.1)).getD j 0 = k' := by rw [List.getD_eq_getElem?_getD, List.getElem?_map, e4]; rfl
  rw [g1, g2]
  rw [g3, g4] at h
  refine kat_lt (N _ (List.mem_of_getElem? e1)).1 rfl (N _ (List.mem_of_getElem? e3)).1 rfl ?_
  show KatLex prog w A true false C [(.int k t, .int k' t'), (.int v u, .int v' u')] 0 s
  refine kat_cons (wpAny_eqBool_int ?_)
  by_cases hk : k = k'
  · subst hk
    have hij : i = j := by
      by_cases hne : i = j
      · exact hne
      · exfalso
        have hi' : i < (ps.map (·.1)).length := by rw [List.length_map]; exact hi
        have hj' : j < (ps.map (·.1)).length := by rw [List.length_map]; exact hj
        rw [List.getD_eq_getElem?_getD, List.getElem?_eq_getElem hi'] at g3
        rw [List.getD_eq_getElem?_getD, List.getElem?_eq_getElem hj'] at g4
        have e : (ps.map (·.1))[i] = (ps.map (·.1))[j] := g3.trans g4.symm
        rcases Nat.lt_or_gt_of_ne hne with hlt | hlt
        · exact List.pairwise_iff_getElem.mp hn i j hi' hj' hlt e
        · exact List.pairwise_iff_getElem.mp hn j i hj' hi' hlt e.symm
    subst hij
    obtain rfl : v = v' := by
      rw [e2] at e4
      exact congrArg Prod.snd (Option.some.inj e4)
    rw [show (k == k) = true from beq_self_eq_true k]
    refine kat_yes (kat_cons (wpAny_eqBool_int ?_))
    rw [show (v == v) = true from beq_self_eq_true v]
    refine kat_yes (kat_nil ?_)
    rw [decide_eq_false (Int.lt_irrefl k)] at h
    exact h
  · rw [show (k == k') = false from beq_eq_false_iff_ne.mpr hk]
    refine kat_no ?_
    exact oneLt_int h
structure SortedPs (tl tl' : List (Addr × Obj)) (ps ps' : List (Int × Int)) : Prop where
  perm : tl'.Perm tl
  prs : Prs tl' ps'
  perm2 : ps'.Perm ps
  lt : (ps'.map (·.1)).Pairwise (· < ·)
theorem Prs.ref_at {tl : List (Addr × Obj)} {ps : List (Int × Int)} (hP : Prs tl ps) (p : List Nat) (hp : p.Perm (List.range ps.length)) : SortedPs tl (p.map fun i => tl.getD i default) ps (p.map fun i => ps.getD i default) ∨ ¬ ((p.map fun i => (ps.map (·.1)).getD i 0).Pairwise (· < ·)) := by
  by_cases hlt : (p.map fun i => (ps.map (·.1)).getD i 0).Pairwise (· < ·)
  · refine .inl ⟨?_, ?_, ?_, ?_⟩
    · have h1 : (p.map fun i => tl.getD i default).Perm ((List.range ps.length).map fun i => tl.getD i default) := hp.map _
      rw [← hP.length, range_map_getD] at h1
      exact h1
    · refine Prs.of_at (by rw [List.length_map, List.length_map]) fun i hi => ?_
      rw [List.length_map] at hi
      have hpi : p[i] < ps.length := List.mem_range.mp (hp.mem_iff.mp (List.getElem_mem hi))
      obtain ⟨T, k, v, t, u, e1, e2⟩ := hP.at_ p[i] (by rw [hP.length]; exact hpi)
      refine ⟨T, k, v, t, u, ?_, ?_⟩
      · rw [List.getElem?_map, List.getElem?_eq_getElem hi, Option.map_some, List.getD_eq_getElem?_getD, e1]; rfl
      · rw [List.getElem?_map, List.getElem?_eq_getElem hi, Option.map_some, List.getD_eq_getElem?_getD, e2]; rfl
    · have h1 : (p.map fun i => ps.getD i default).Perm ((List.range ps.length).map fun i => ps.getD i default) := hp.map _
      rw [range_map_getD] at h1
      exact h1
    · rw [List.map_map]
      refine List.Pairwise.imp_of_mem (R := fun a b => a < b) (S := fun a b => a < b) (fun _ _ h => h) ?_
      have e : p.map ((fun x : Int × Int => x.1) ∘ fun i => ps.getD i default) = p.map fun i => (ps.map (·.1)).getD i 0 := by
        refine List.map_congr_left fun i _ => ?_
        show (ps.getD i default).1 = _
        rw [List.getD_eq_getElem?_getD, List.getD_eq_getElem?_getD, List.getElem?_map]
        cases ps[i]? <;> rfl
      rw [e]; exact hlt
  · exact .inr hlt
theorem sort_pairs {D : Addr} {tl rest : List (Addr × Obj)} {ps : List (Int × Int)} {c : Nat} {Q : Value → Shared → Prop} (F : Fr h₀ L s.heap m) (N : News h₀ L s.heap ((D, listOf (tl.map fun p => Value.ref p.1).toArray c) :: (tl ++ rest))) (hap : ∀ q ∈ tl ++ rest, q.1 ≠ D) (hP : Prs tl ps) (hn : (ps.map (·.1)).Nodup) (h4 : ps.length ≤ 4)
    (h : ∀ (h' : Heap) (tl' : List (Addr × Obj)) (ps' : List (Int × Int)) (c' : Nat), Fr h₀ L h' m → News h₀ L h' ((D, listOf (tl'.map fun p => Value.ref p.1).toArray c') :: (tl ++ rest)) → SortedPs tl tl' ps ps' → Q .none { s with heap := h' }) :
    wpAny (model prog w) A (call (.builtin "list.sort") [.ref D]) Q E s := by
  have hl := hP.length
  have z := N _ (.head _)
  obtain ⟨vs, hvs⟩ : ∃ vs, vs = tl.map fun p => Value.ref p.1 := ⟨_, rfl⟩
  have hvl : vs.length = ps.length := by rw [hvs, List.length_map, hl]
  rw [← hvs] at N
  by_cases h2 : 2 ≤ ps.length
  · refine kat_lsort (vs := vs) F N (.head hap) (by rfl) (by omega) (by omega) fun e1 h' F' N' => ?_
    have Nt : News h₀ L h' tl := fun q hq => N' q (.tail _ (List.mem_append_left _ hq))
    have hfs : ∀ {l : List (Addr × Obj)} {qs : List (Int × Int)}, Prs l qs → (∀ q ∈ l, h'.get? q.1 = some q.2) → ∃ fs : List Value, KatTups h' (l.map fun p => Value.ref p.1) fs ∧ fs.length = qs.length ∧ ∀ v ∈ fs, ∃ n t, v = .int n t := by
      intro l qs hh
      induction hh with
      | nil => exact fun _ => ⟨[], KatTups.nil, rfl, fun v hv => nomatch hv⟩
      | cons T k v t u hh ih =>
        intro hq
        obtain ⟨fs, a1, a2, a3⟩ := ih fun q hm => hq q (.tail _ hm)
        refine ⟨.int k t :: fs, KatTups.cons (hq _ (.head _)) rfl rfl rfl a1, by simp only [List.length_cons, a2], fun v hv => ?_⟩
        rcases List.mem_cons.mp hv with rfl | hv
        · exact ⟨k, t, rfl⟩
        · exact a3 v hv
    obtain ⟨fs, f1, f2, f3⟩ := hfs hP fun q hq => (Nt q hq).1
    rw [← hvs] at f1
    refine kat_kind (T := .type "int") f1 (by omega) (fun v hv => ?_) (by rfl) ?_
    · obtain ⟨n, t, rfl⟩ := f3 v hv
      exact Looks.now
    rw [hvl]
    have hks : (ps.map (·.1)).length = ps.length := List.length_map ..
    obtain ⟨g1, g2⟩ := sort_keys (ks := ps.map (·.1)) (by omega) (by omega) hn
    rw [hks] at g1 g2
    refine kas_pure (n := ps.length) (lt := fun i j => decide ((ps.map (·.1)).getD i 0 < (ps.map (·.1)).getD j 0)) (fun i j C hi hj hC => pair_ask Nt hP hvs hn hi hj hC) _ (kin_of h2 h4) ?_
    obtain ⟨p, hp⟩ : ∃ p, p = krun (fun i j => decide ((ps.map (·.1)).getD i 0 < (ps.map (·.1)).getD j 0)) (kas_sort ps.length) := ⟨_, rfl⟩
    rw [← hp] at g1 g2 ⊢
    rcases hP.ref_at p.toList g1 with S | S
    · refine KasFin.intro F' N' (.head hap) fun h3 c3 F3 N3 => ?_
      have eo : (p.toList.map fun i => vs.getD i Value.none) = (p.toList.map fun i => tl.getD i default).map fun q => Value.ref q.1 := by
        rw [List.map_map]
        refine List.map_congr_left fun i hi => ?_
        have hil : i < tl.length := by rw [hl]; exact List.mem_range.mp (g1.mem_iff.mp hi)
        show _ = Value.ref (tl.getD i default).1
        rw [hvs, List.getD_eq_getElem?_getD, List.getD_eq_getElem?_getD, List.getElem?_map, List.getElem?_eq_getElem hil]
        rfl
      rw [eo] at N3
      exact h h3 _ _ c3 F3 N3 S
    · exact absurd g2 S
  · have hS : SortedPs tl tl ps ps := ⟨.refl _, hP, .refl _, by
      match ps, h2 with
      | [], _ => exact .nil
      | [x], _ => exact List.pairwise_singleton ..
      | _ :: _ :: _, h2 => exact absurd (by simp) h2⟩
    have ho : s.heap.get? D = some (seqObj "list" vs.toArray c) := by rw [hvs]; exact z.1
    refine wpAny_call_entry PyProof.Rows.slot_list_sort ⟨_, z.1, rfl⟩ PyProof.Rows.entry_list_sort ?_ (PyProof.Rows.args_list_sort _)
    rw [list_sort_plain]
    have ha : D < s.heap.objs.size := Heap.lt_size ho
    refine wpAny_bind (listItems_at ho rfl ?_)
    refine wpAny_bind (listUpdate_at ho rfl ?_ (by rw [List.size_toArray, PySem.sizeLine_eq]; omega) (Nat.zero_le _))
    obtain ⟨e1, ho1⟩ : ∃ e1, (s.heap.update D (Obj.mapSeq fun _ => #[])).get? D = some (seqObj "list" #[] e1) := ⟨_, get?_update_seq ho (fun _ => #[])⟩
    refine wpAny_bind (seqEpoch_at ho1 rfl ?_)
    refine wpAny_bind (wpAny_newTuple ?_ (by show vs.length ≤ _; rw [PySem.sizeLine_eq]; omega))
    refine wpAny_bind (wpAny_newList ?_ (Nat.zero_le _))
    refine wpAny_holding ?_
    have ho6 : (((s.heap.update D (Obj.mapSeq fun _ => #[])).push (seqObj "tuple" vs.toArray 0)).push (seqObj "list" #[] 0)).get? D = some (seqObj "list" #[] e1) := by
      rw [Heap.get?_push_ne _ _ _ (by rw [size_push', Heap.size_update]; exact Nat.ne_of_lt (Nat.lt_succ_of_lt ha)), Heap.get?_push_ne _ _ _ (by rw [Heap.size_update]; exact Nat.ne_of_lt ha)]
      exact ho1
    show wpAny (model prog w) _ _ _ _ { s with heap := ((s.heap.update D (Obj.mapSeq fun _ => #[])).push (seqObj "tuple" vs.toArray 0)).push (seqObj "list" #[] 0) }
    dsimp only
    have h3 : vs.toArray.size < 2 := by rw [List.size_toArray]; omega
    rw [if_pos h3, if_pos h3]
    refine wpAny_bind (wpAny_pure ?_)
    rw [StateT.run_pure]
    refine wpAny_bind (wpAny_pure ?_)
    dsimp only
    refine wpAny_bind (seqEpoch_at ho6 rfl ?_)
    refine wpAny_bind (listUpdate_at ho6 rfl ?_ (hsz2 := by rw [Array.size_map]; show (pairsOf vs).size ≤ _; rw [pairsOf_size, PySem.sizeLine_eq]; omega))
    simp only [bne_self_eq_false, Bool.false_eq_true, if_false]
    have eo : (arrOf (SortSt.mk' general' (vs.toArray.zip vs.toArray) #[] 7 none)).map (·.2) = vs.toArray := by
      show (vs.toArray.zip vs.toArray).map (·.2) = vs.toArray
      apply Array.ext
      · simp
      · intro i h1 h2; simp
    rw [eo]
    obtain ⟨n1, N1⟩ := list_cleared (pre := []) (its' := #[]) (fun _ => #[]) N (fun q hq => nomatch hq) hap rfl
    have F1 := F.change (Heap.SameBut.update s.heap D (Obj.mapSeq fun _ => #[])) z.2.1 z.2.2
    have N2 := News.grown N1 fun _ _ e => Heap.get?_push_of_some (seqObj "tuple" vs.toArray 0) e
    have N3 := News.grown N2 fun _ _ e => Heap.get?_push_of_some (seqObj "list" #[] 0) e
    obtain ⟨n4, N4⟩ := list_cleared (pre := []) (its' := vs.toArray) (fun _ => vs.toArray) N3 (fun q hq => nomatch hq) hap rfl
    have F4 := ((F1.push (seqObj "tuple" vs.toArray 0)).push (seqObj "list" #[] 0)).change (Heap.SameBut.update _ D (Obj.mapSeq fun _ => vs.toArray)) z.2.1 z.2.2
    rw [List.nil_append, hvs] at N4
    refine wpAny_pure ⟨.none, rfl, h _ tl ps n4 ?_ ?_ hS⟩
    · rw [hvs] at F4 ⊢; exact F4
    · rw [hvs]; exact N4
end
end Mine
end
section
open PySem PySem.W PyProof.Rows PySem.Calls PyProof.V
set_option Elab.async false
set_option maxRecDepth 100000
set_option maxHeartbeats 1000000
set_option linter.unusedVariables false
set_option linter.unusedSimpArgs false
namespace Mine
section
variable {prog : Program} {w : World} {A : Around} {E : Value → Shared → Prop} {s : Shared} {h₀ : Heap} {L : Addr} {m : Str → Option Value}
theorem sorted_pairs {l : Addr} {tl news : List (Addr × Obj)} {ps : List (Int × Int)} {c : Nat} {Q : Value → Shared → Prop} (F : Fr h₀ L s.heap m) (N : News h₀ L s.heap news) (hl : (l, listOf (tl.map fun p => Value.ref p.1).toArray c) ∈ news) (htl : ∀ q ∈ tl, q ∈ news) (hP : Prs tl ps) (hn : (ps.map (·.1)).Nodup) (h4 : ps.length ≤ 4)
    (h : ∀ (D : Addr) (h' : Heap) (tl' : List (Addr × Obj)) (ps' : List (Int × Int)) (c' : Nat), Fr h₀ L h' m → News h₀ L h' ((D, listOf (tl'.map fun p => Value.ref p.1).toArray c') :: news) → (∀ q ∈ news, @LT.lt Nat _ q.1 D) → SortedPs tl tl' ps ps' → Q (.ref D) { s with heap := h' }) :
    wpAny (model prog w) A (call (.builtin "sorted") [.ref l]) Q E s := by
  have hlen := hP.length
  have hL : s.heap.IsList l (tl.map fun p => Value.ref p.1).toArray := ⟨_, (N _ hl).1, rfl, c, rfl⟩
  refine Calls.call_function_entry kind_sorted plain_sorted entry_sorted (args_sorted1 _) ?_
  unfold Builtin.«sorted»
  refine wpAny_bind (m := checkCount "sorted" 1 1 _) (wpAny_pure ?_)
  refine wpAny_bind (collect_list hL ?_ (by rw [List.length_map, PySem.sizeLine_eq]; omega))
  have keep : ∀ b o, s.heap.get? b = some o → ((s.heap.push (seqObj "list" #[] 0)).update s.heap.objs.size (Obj.mapSeq (· ++ (tl.map fun p => Value.ref p.1).toArray))).get? b = some o := fun b o q => by
    have hlt : b < s.heap.objs.size := Heap.lt_size q
    rw [Heap.get?_update_ne _ _ _ _ (Nat.ne_of_lt hlt), Heap.get?_push_ne _ _ _ (Nat.ne_of_lt hlt)]
    exact q
  have F1 := F.keeps keep
  have N1 := N.grown keep
  dsimp only
  generalize (s.heap.push (seqObj "list" #[] 0)).update s.heap.objs.size (Obj.mapSeq (· ++ (tl.map fun p => Value.ref p.1).toArray)) = H at F1 N1 ⊢
  refine wpAny_bind (wpAny_newList ?_ (by rw [List.length_map, PySem.sizeLine_eq]; omega))
  have N2 := N1.push F1 { cls := .type "list", data := .seq (tl.map fun p => Value.ref p.1).toArray }
  have F2 := F1.push { cls := .type "list", data := .seq (tl.map fun p => Value.ref p.1).toArray }
  have l1 : ∀ q ∈ news, @LT.lt Nat _ q.1 H.objs.size := fun q hq => Heap.lt_size (N1 q hq).1
  refine wpAny_bind (wpAny_holding ?_)
  refine sort_pairs (rest := news) (c := 0) F2 (news_sub N2 ?_) ?_ hP hn h4 fun h' tl' ps' c' F3 N3 S => ?_
  · intro q hq
    rcases List.mem_cons.mp hq with rfl | hq
    · exact .head _
    rcases List.mem_append.mp hq with hq | hq
    · exact .tail _ (htl q hq)
    · exact .tail _ hq
  · intro q hq
    rcases List.mem_append.mp hq with hq | hq
    · exact Nat.ne_of_lt (l1 q (htl q hq))
    · exact Nat.ne_of_lt (l1 q hq)
  · exact wpAny_pure ⟨_, rfl, h _ h' tl' ps' c' F3 (news_sub N3 fun q hq => by
      rcases List.mem_cons.mp hq with rfl | hq
      · exact .head _
      · exact .tail _ (List.mem_append_right _ hq)) l1 S⟩
theorem sorted_items {v d : Addr} {od : Obj} {news : List (Addr × Obj)} {kvs : List (Int × Value)} {kv : KV} {ps : List (Int × Int)} {Q : Value → Shared → Prop} (hh : A.handled = none) (F : Fr h₀ L s.heap m) (N : News h₀ L s.heap news) (hv : (v, { cls := .type "dict_items", data := .fields #[.ref d] }) ∈ news) (hm : (d, od) ∈ news) (hod : od.IsDictOf (intKind prog w) kvs) (hf : FlatPairs PyData.int kvs (encD kv)) (hps : kv = ps.map fun p => (p.1, PyData.int p.2)) (hn : (ps.map (·.1)).Nodup) (h4 : ps.length ≤ 4)
    (h : ∀ (D : Addr) (h' : Heap) (tk : Nat) (tl tl' : List (Addr × Obj)) (ps' : List (Int × Int)) (c' : Nat), Fr h₀ L h' m → News h₀ L h' ((D, listOf (tl'.map fun p => Value.ref p.1).toArray c') :: (tl ++ news)) → (∀ q ∈ tl ++ news, @LT.lt Nat _ q.1 D) → (∀ z ∈ tl, ∀ q ∈ news, @LT.lt Nat _ q.1 z.1) → SortedPs tl tl' ps ps' → Q (.ref D) { s with heap := h', toks := tk }) :
    wpAny (model prog w) A (call (.builtin "sorted") [.ref v]) Q E s := by
  obtain ⟨ep, hat⟩ := KdkAt.of hod
  have hl : kvs.length = ps.length := by have := hf.length; rw [encD_length, hps, List.length_map] at this; exact this.symm
  refine call_function_entry kind_sorted plain_sorted entry_sorted (args_sorted1 _) ?_
  unfold Builtin.«sorted»
  refine wpAny_bind (m := checkCount "sorted" 1 1 _) (wpAny_pure ?_)
  refine wpAny_bind (kdx_collect (A := A.in1) (knd := intKind prog w) (kvs := kvs) (ep := ep) hh ⟨_, (N _ hv).1, rfl, rfl⟩ (hat.dictAt (N _ hm).1) (by rw [PySem.sizeLine_eq]; omega) fun h' tk as hk hla hG => ?_)
  have hprs : ∃ tl : List (Addr × Obj), Prs tl ps ∧ tl.map (fun p => p.1) = as ∧ ∀ q ∈ tl, h'.get? q.1 = some q.2 := by
    have hget : ∀ (j : Nat) (a : Addr), as[j]? = some a → ∃ (k vv : Int) (t u : Tok), ps[j]? = some (k, vv) ∧ h'.get? a = some (tup2 (.int k t) (.int vv u)) := by
      intro j a ha
      obtain ⟨key, k, x, e1, e2, e3⟩ := hG.pairs j a ha
      obtain ⟨t, rfl⟩ := Value.isInt_shape e2
      obtain ⟨dv, hd, hfl⟩ := hf.at e1
      rw [hps] at hd
      have hd' : (ps.map fun p => (PyData.int p.1, PyData.int p.2))[j]? = some (PyData.int k, dv) := by
        rw [← hd]; unfold encD; rw [List.map_map]; rfl
      rw [List.getElem?_map] at hd'
      obtain ⟨⟨pk, pv⟩, hp, he⟩ := Option.map_eq_some_iff.mp hd'
      injection he with he1 he2
      injection he1 with he1
      subst he1 he2
      obtain ⟨u, rfl⟩ := Flat.int_inv hfl
      exact ⟨pk, pv, t, u, hp, e3⟩
    clear hG hat hf hps hk h
    have hla' : as.length = ps.length := hla.trans hl
    clear hla hl hn h4
    induction as generalizing ps with
    | nil =>
      obtain rfl : ps = [] := List.eq_nil_of_length_eq_zero hla'.symm
      exact ⟨[], .nil, rfl, fun q hq => nomatch hq⟩
    | cons a as ih =>
      obtain ⟨k, vv, t, u, e1, e2⟩ := hget 0 a rfl
      cases ps with
      | nil => cases e1
      | cons p ps =>
        obtain rfl : p = (k, vv) := Option.some.inj e1
        obtain ⟨tl, t1, t2, t3⟩ := ih (fun j b hb => by
          obtain ⟨k', v', t', u', e3, e4⟩ := hget (j + 1) b (by simpa using hb)
          exact ⟨k', v', t', u', by simpa using e3, e4⟩) (by simpa using hla')
        refine ⟨(a, tup2 (.int k t) (.int vv u)) :: tl, .cons a k vv t u t1, by rw [List.map_cons, t2], fun q hq => ?_⟩
        rcases List.mem_cons.mp hq with rfl | hq
        · exact e2
        · exact t3 q hq
  obtain ⟨tl, hP, hta, htg⟩ := hprs
  have habove : ∀ z ∈ tl, @LT.lt Nat _ s.heap.objs.size z.1 := fun z hz => hG.above z.1 (by rw [← hta]; exact List.mem_map.mpr ⟨z, hz, rfl⟩)
  have hnlt : ∀ q ∈ news, @LT.lt Nat _ q.1 s.heap.objs.size := fun q hq => Heap.lt_size (N q hq).1
  have N1 : News h₀ L h' (tl ++ news) := fun q hq => by
    rcases List.mem_append.mp hq with hq | hq
    · exact ⟨htg q hq, kdx_fresh F (Nat.le_of_lt (habove q hq))⟩
    · exact ⟨hk _ _ (N q hq).1, (N q hq).2⟩
  have F1 := F.keeps hk
  have hev : (as.map Value.ref) = tl.map fun p => Value.ref p.1 := by rw [← hta, List.map_map]; rfl
  rw [hev]
  refine wpAny_bind (wpAny_newList ?_ (by rw [List.length_map, hP.length, PySem.sizeLine_eq]; omega))
  have N2 := N1.push F1 { cls := .type "list", data := .seq (tl.map fun p => Value.ref p.1).toArray }
  have F2 := F1.push { cls := .type "list", data := .seq (tl.map fun p => Value.ref p.1).toArray }
  have l1 : ∀ q ∈ tl ++ news, @LT.lt Nat _ q.1 h'.objs.size := fun q hq => Heap.lt_size (N1 q hq).1
  refine wpAny_bind (wpAny_holding ?_)
  refine sort_pairs (rest := news) (c := 0) F2 N2 (fun q hq => Nat.ne_of_lt (l1 q hq)) hP hn h4 fun h2 tl' ps' c' F3 N3 S => ?_
  exact wpAny_pure ⟨_, rfl, h _ h2 tk tl tl' ps' c' F3 N3 l1 (fun z hz q hq => Nat.lt_trans (hnlt q hq) (habove z hz)) S⟩
end
end Mine
end
section
open PySem PySem.W PyProof.Rows PySem.Calls PyProof.V
set_option Elab.async false
set_option maxHeartbeats 1000000
set_option linter.unusedVariables false
namespace Mine
def pickOf (ks : List Int) (d : Int) : Nat := (Int.fmod d (ks.length : Int)).toNat
def popKeys : List Int → List Int → List Int
  | _, [] => []
  | ks, d :: ds => ks.getD (pickOf ks d) 0 :: popKeys (swapRem ks (pickOf ks d)) ds
theorem pickOf_lt {ks : List Int} {d : Int} (h : 0 ≤ d) (hk : 0 < ks.length) : pickOf ks d < ks.length := by
  have h1 : 0 ≤ Int.fmod d (ks.length : Int) := Int.fmod_nonneg h (by omega)
  have h2 : Int.fmod d (ks.length : Int) < ks.length := Int.fmod_lt_of_pos _ (by omega)
  unfold pickOf
  omega
theorem popKeys_length : ∀ (ds ks : List Int), (popKeys ks ds).length = ds.length
  | [], _ => rfl
  | d :: ds, ks => by simp only [popKeys, List.length_cons, popKeys_length ds]
theorem popKeys_perm : ∀ (ds ks : List Int), ks.length = ds.length → (∀ d ∈ ds, 0 ≤ d) → (popKeys ks ds).Perm ks
  | [], ks, h, _ => by
    obtain rfl : ks = [] := List.eq_nil_of_length_eq_zero h
    exact .nil
  | d :: ds, ks, h, hd => by
    have hlt := pickOf_lt (hd d (.head _)) (show 0 < ks.length by rw [h]; simp)
    have ih := popKeys_perm ds (swapRem ks (pickOf ks d)) (by rw [swapRem_length, h]; simp) fun x hx => hd x (.tail _ hx)
    exact (List.Perm.cons _ ih).trans (swapRem_perm ks _ hlt)
theorem popKeys_inj : ∀ (ds es ks : List Int), ks.Nodup → ks.length = ds.length → ds.length = es.length → (∀ (i : Nat) d, ds[i]? = some d → 0 ≤ d ∧ d < ((ds.length - i : Nat) : Int)) → (∀ (i : Nat) d, es[i]? = some d → 0 ≤ d ∧ d < ((es.length - i : Nat) : Int)) → popKeys ks ds = popKeys ks es → ds = es
  | [], [], _, _, _, _, _, _, _ => rfl
  | [], _ :: _, _, _, _, h, _, _, _ => by simp at h
  | _ :: _, [], _, _, _, h, _, _, _ => by simp at h
  | d :: ds, e :: es, ks, hn, hl, hle, h1, h2, h => by
    have hd := h1 0 d rfl
    have he := h2 0 e rfl
    simp only [List.length_cons, Nat.sub_zero] at hd he hl hle
    have hkl : (ks.length : Int) = ((ds.length + 1 : Nat) : Int) := by rw [hl]
    have p1 : pickOf ks d = d.toNat := by
      unfold pickOf
      rw [Int.fmod_eq_emod_of_nonneg _ (by omega), Int.emod_eq_of_lt hd.1 (by omega)]
    have p2 : pickOf ks e = e.toNat := by
      unfold pickOf
      rw [Int.fmod_eq_emod_of_nonneg _ (by omega), Int.emod_eq_of_lt he.1 (by omega)]
    simp only [popKeys] at h
    injection h with e1 e2
    rw [p1, p2] at e1
    have e3 : d.toNat = e.toNat := getD_inj hn (by omega) (by omega) e1
    obtain rfl : d = e := by omega
    have hsn : (swapRem ks (pickOf ks d)).Nodup := by
      have hp := swapRem_perm ks (pickOf ks d) (by rw [p1]; omega)
      exact (List.nodup_cons.mp (hp.nodup_iff.mpr hn)).2
    have := popKeys_inj ds es _ hsn (by rw [swapRem_length, hl]; simp) (by omega) (fun i x hx => by
      have := h1 (i + 1) x (by simpa using hx)
      simp only [List.length_cons] at this
      exact ⟨this.1, by have := this.2; omega⟩) (fun i x hx => by
      have := h2 (i + 1) x (by simpa using hx)
      simp only [List.length_cons] at this
      exact ⟨this.1, by have := this.2; omega⟩) e2
    rw [this]
theorem sorted_eq : ∀ {a b : List Int}, a.Perm b → a.Pairwise (· ≤ ·) → b.Pairwise (· ≤ ·) → a = b := fun p h1 h2 => lks_uniq p h1 h2
theorem pairs_eq : ∀ {a b : List (Int × Int)}, a.Perm b → (a.map (·.1)).Pairwise (· < ·) → (b.map (·.1)).Pairwise (· < ·) → a = b
  | [], b, p, _, _ => p.nil_eq
  | x :: a, [], p, _, _ => absurd p.length_eq (by simp)
  | x :: a, y :: b, p, h1, h2 => by
    rw [List.map_cons, List.pairwise_cons] at h1 h2
    have hxy : x = y := by
      rcases List.mem_cons.mp (p.mem_iff.mp (List.mem_cons_self (a := x) (l := a))) with e | e
      · exact e
      rcases List.mem_cons.mp (p.mem_iff.mpr (List.mem_cons_self (a := y) (l := b))) with e' | e'
      · exact e'.symm
      have g1 := h2.1 x.1 (List.mem_map.mpr ⟨x, e, rfl⟩)
      have g2 := h1.1 y.1 (List.mem_map.mpr ⟨y, e', rfl⟩)
      omega
    subst hxy
    rw [pairs_eq p.cons_inv h1.2 h2.2]
end Mine
end
section
open PySem PySem.W PyProof.Rows PySem.Calls PyProof.V
set_option Elab.async false
set_option maxHeartbeats 1000000
set_option linter.unusedVariables false
namespace Mine
theorem kv_pairs {kv : KV} (n : (kv.map (·.1)).Nodup) (h : ∀ k pd, look kv k = some pd → ∃ v : Int, pd = .int v) : ∃ qs : List (Int × Int), kv = qs.map (fun p => (p.1, PyData.int p.2)) := by
  have hall : ∀ q ∈ kv, ∃ v : Int, q.2 = .int v := fun q hq => h q.1 q.2 (look_mem n hq)
  clear h n
  induction kv with
  | nil => exact ⟨[], rfl⟩
  | cons q kv ih =>
    obtain ⟨v, hv⟩ := hall q (.head _)
    obtain ⟨qs, hqs⟩ := ih fun q hq => hall q (.tail _ hq)
    obtain ⟨k, d⟩ := q
    dsimp only at hv
    subst hv
    exact ⟨(k, v) :: qs, by rw [hqs]; rfl⟩
theorem nodup_of_keys {ps : List (Int × Int)} (h : (ps.map (·.1)).Nodup) : ps.Nodup := by
  refine List.Pairwise.imp (fun {a b} (hab : a.1 ≠ b.1) e => hab (by rw [e])) (List.pairwise_map.mp h)
theorem pairs_perm {kv : KV} {ps qs : List (Int × Int)} {ks : List Int} (hq : kv = qs.map (fun p => (p.1, PyData.int p.2))) (hn : (kv.map (·.1)).Nodup) (hkp : (kv.map (·.1)).Perm ks) (hpk : (ps.map (·.1)).Perm ks) (hv : ∀ q ∈ ps, look kv q.1 = some (.int q.2)) : ps.Perm qs := by
  have e : kv.map (·.1) = qs.map (·.1) := by rw [hq, List.map_map]; rfl
  have n1 : (ps.map (·.1)).Nodup := (hpk.trans hkp.symm).nodup_iff.mpr hn
  have n2 : (qs.map (·.1)).Nodup := by rw [← e]; exact hn
  have hl : ∀ q ∈ qs, look kv q.1 = some (.int q.2) := fun q hm => look_mem hn (by rw [hq]; exact List.mem_map.mpr ⟨q, hm, rfl⟩)
  refine (List.perm_ext_iff_of_nodup (nodup_of_keys n1) (nodup_of_keys n2)).mpr fun q => ⟨fun h => ?_, fun h => ?_⟩
  · have h1 := mem_look (hv q h)
    rw [hq] at h1
    obtain ⟨r, hr, he⟩ := List.mem_map.mp h1
    injection he with e1 e2
    injection e2 with e2
    obtain ⟨a, b⟩ := q
    obtain ⟨c, d⟩ := r
    dsimp only at e1 e2
    subst e1 e2
    exact hr
  · have h1 : q.1 ∈ ps.map (·.1) := (hpk.trans hkp.symm).mem_iff.mpr (by rw [e]; exact List.mem_map.mpr ⟨q, h, rfl⟩)
    obtain ⟨r, hr, he⟩ := List.mem_map.mp h1
    have h2 := hv r hr
    have h3 := hl q h
    rw [he, h3] at h2
    injection h2 with h2
    injection h2 with h2
    obtain ⟨a, b⟩ := q
    obtain ⟨c, d⟩ := r
    dsimp only at he h2
    subst he h2
    exact hr
def datP (p : Int × Int) : PySem.W.Dat := .tuple [.int p.1, .int p.2]
theorem Prs.dat {l : List (Addr × Obj)} {ps : List (Int × Int)} (h : Prs l ps) : ∀ (news : List (Addr × Obj)), (∀ q ∈ l, q ∈ news) → DatAll news (l.map fun p => Value.ref p.1) (ps.map datP) := by
  induction h with
  | nil => exact fun _ _ => .nil
  | cons T k v t u h ih =>
    intro news hs
    exact .cons (.tuple (vs := [.int k t, .int v u]) (hs _ (.head _)) (.cons (.int k t) (.cons (.int v u) .nil))) (ih news fun q hq => hs q (.tail _ hq))
theorem datP_ok (ps : List (Int × Int)) : ∀ d ∈ ps.map datP, kqdOk 8 d = true := by
  intro d hd
  obtain ⟨p, -, rfl⟩ := List.mem_map.mp hd
  rfl
theorem kqd_same {prog : Program} {w : World} {A : Around} {E : Value → Shared → Prop} {s : Shared} {h₀ : Heap} {L a b : Addr} {news n₁ n₂ : List (Addr × Obj)} {oa ob : Obj} {xs ys : List Value} {ka kb : Nat} {ds : List PySem.W.Dat} {Q : Value → Shared → Prop} (N : News h₀ L s.heap news) (ma : (a, oa) ∈ news) (ca : oa.cls = .type "list") (da : oa.data = .seq xs.toArray ka) (Da : DatAll n₁ xs ds) (sa : ∀ p ∈ n₁, p ∈ news)
    (mb : (b, ob) ∈ news) (cb : ob.cls = .type "list") (db : ob.data = .seq ys.toArray kb) (Db : DatAll n₂ ys ds) (sb : ∀ p ∈ n₂, p ∈ news)
    (ha : ∀ d ∈ ds, kqdOk 8 d = true) (hu : A.units + 64 < cLine) (h : Q (.bool false) s) : wpAny (model prog w) A (compareOp .NotEq (.ref a) (.ref b)) Q E s := by
  refine kqd_ne N ma ca da Da sa mb cb db Db sb ha ha hu ?_
  simpa using h
end Mine
end
section
open PySem PySem.W PyProof.Rows PySem.Calls PyProof.V
set_option Elab.async false
set_option maxRecDepth 100000
set_option maxHeartbeats 1000000
set_option linter.unusedVariables false
set_option linter.unusedSimpArgs false
namespace Mine
local macro_rules | `(tactic| walk_at "pad 0") => `(tactic| fail)
local macro_rules | `(tactic| walk_at "pad 1") => `(tactic| fail)
local macro_rules | `(tactic| walk_at "pad 2") => `(tactic| fail)
local macro_rules | `(tactic| walk_at "pad 3") => `(tactic| fail)
local macro_rules | `(tactic| walk_at "pad 4") => `(tactic| fail)
local macro_rules | `(tactic| walk_at "pad 5") => `(tactic| fail)
local macro_rules | `(tactic| walk_at "pad 6") => `(tactic| fail)
local macro_rules | `(tactic| walk_at "pad 7") => `(tactic| fail)
local macro_rules | `(tactic| walk_at "pad 8") => `(tactic| fail)
local macro_rules | `(tactic| walk_at "pad 9") => `(tactic| fail)
theorem anew_RRR1 : True := by
  w_top off
  trivial
local macro_rules | `(tactic| k_all) => `(tactic| assumption)
local macro_rules | `(tactic| dict_fit) => `(tactic| omega)
local macro_rules | `(tactic| k_room) => `(tactic| ktr_room)
local macro_rules | `(tactic| walk_at "call ref") => `(tactic| ((with_reducible show wpAny _ _ (call (Value.ref _) _ _) _ _ _); refine halt ?_))
local macro_rules | `(tactic| walk_at "eval Name") => `(tactic| (k_here; k_dflt (refine' nameX_L ?kA1 ?kA2 ?_ ?kA3 ?kA4 ?kA5; (case kA3 => rfl); (case kA4 => rfl); (case kA5 => decide); (case kA1 => k_asm); (case kA2 => ((try dsimp only); (repeat (rw [if_neg (by decide)])); assumption)); k_whole)))
def forBody : Stmt → List Stmt
  | .For _ _ b _ _ => b
  | _ => []
def rb (i : Nat) : Stmt := nthS (forBody (lb 11)) i
theorem rbody : forBody (lb 11) = [rb 0, rb 1, rb 2, rb 3, rb 4, rb 5] := rfl
section
variable {prog : Program} {w : World} {p : Program} {loose : List Str} {mean : ExcName → Option Value} {mg mb : Str → Option Value}
theorem rowA {dp un : Nat} {gd : Option (List Code)} {a : Addr} {ccd : Value} {A₀ : Around} {base h₀ : Heap} {L : Addr} {mm : Str → Option Value} {s : Shared} {Q : Flow → Shared → Prop} {E : Value → Shared → Prop} {drs dls sen cc Tr : Addr} {nd nr nsv cr : Nat} {tr : Tok} {dvs sv rv : List Value} {fs ns : List Int} {nN : Nat} {oDe oC oc : Obj} {cvs : Array Value} {ct : Tok} {tl Z : List (Addr × Obj)} {more : List Stmt}
    (B : Below A₀ base [] h₀) (F : Fr h₀ L s.heap mm) (X : (K w.params).In h₀) (N : News h₀ L s.heap ((901, tabObj (chTab cc)) :: (cc, oc) :: (sen, listOf sv.toArray nsv) :: (drs, listOf dvs.toArray nr) :: (dls, listOf (tl.map fun p => Value.ref p.1).toArray nd) :: (Tr, listOf rv.toArray cr) :: (L + 1, oDe) :: (L + 1 + 1, oC) :: (tl ++ Z))) (T : Top p loose mean mg mb h₀) (XB : (K w.params).In base) (TB : Top p loose mean mg mb base) (hC : CodeHd base 905 901) (hDe : oDe.data = .cell (some (.ref dls))) {vC : Value} (hoC : oC.data = .cell (some vC))
    (hoc : oc.data = .fields cvs) (hct : cvs[1]? = some (.str (Str.ofString "_law_choice.<locals>.chosen") ct)) (hT : Tups tl (deedsOf ns nN)) (hdv : IntsAre dvs (drawsOf ns nN)) (hn8 : nN ≤ 8) (hfs : IntsAre rv fs) (hf8 : fs.length ≤ 8) (hsv : sv.length ≤ 80)
    (h901 : @LT.lt Nat _ 901 L) (e1 : @LT.lt Nat _ (L + 1 + 1) dls) (e2 : @LT.lt Nat _ dls drs) (e3 : ∀ q ∈ tl, @LT.lt Nat _ drs q.1 ∧ @LT.lt Nat _ q.1 sen) (e4 : @LT.lt Nat _ sen cc) (e5 : @Ne Nat Tr 901 ∧ @Ne Nat Tr cc ∧ @Ne Nat Tr drs ∧ @Ne Nat Tr dls ∧ @Ne Nat Tr sen ∧ @Ne Nat Tr (L + 1) ∧ @Ne Nat Tr (L + 1 + 1)) (e5' : ∀ q ∈ tl, @Ne Nat q.1 Tr) (e6 : @LT.lt Nat _ drs sen)
    (hZ : ∀ q ∈ Z, (@Ne Nat q.1 901 ∧ @Ne Nat q.1 cc ∧ @Ne Nat q.1 sen ∧ @Ne Nat q.1 drs ∧ @Ne Nat q.1 dls ∧ @Ne Nat q.1 Tr ∧ @Ne Nat q.1 (L + 1 + 1)) ∧ ∀ x ∈ tl, @Ne Nat q.1 x.1)
    (m1 : mm (Str.ofString "draws") = some (.ref drs)) (m2 : mm (Str.ofString "room") = some (.int (1 + nxt ns 0 4) tr)) (m3 : mm (Str.ofString "row") = some (.ref Tr)) (m4 : mm (Str.ofString "seen") = some (.ref sen)) (hd : dp + 200 < recursionLimit) (hu : un + 1600 < cLine)
    (hk : ∀ (hh : Heap) (tk : Nat) (x : CA) (y : HA) (cl chl : List (Addr × Obj)) (oC' : Obj), Fr h₀ L hh mm → News h₀ L hh ((L + 1 + 1, oC') :: (901, tabObj (chTab cc)) :: (drs, listOf dvs.toArray nr) :: (dls, listOf (tl.map fun p => Value.ref p.1).toArray nd) :: (Tr, listOf rv.toArray cr) :: (L + 1, oDe) :: (cl ++ (chl ++ (tl ++ Z)))) → oC'.data = .cell (some (.ref x.c)) → x.ord → y.ord → y.cc = cc → y.seen = sen → x.f = y.f → @LT.lt Nat _ y.f x.d → CacheI prog w x (1 + nxt ns 0 4) (runD (1 + nxt ns 0 4) ⟨[], [], drawsOf ns nN⟩ (deedsOf ns nN)) cl → ChoiceL y fs [] chl →
      (∀ z ∈ cl ++ chl, ∀ q ∈ (L + 1 + 1, oC') :: (901, tabObj (chTab cc)) :: (drs, listOf dvs.toArray nr) :: (dls, listOf (tl.map fun p => Value.ref p.1).toArray nd) :: (Tr, listOf rv.toArray cr) :: (L + 1, oDe) :: (tl ++ Z), q.1 ≠ z.1) →
      wpAny (model prog w) (ktrTop dp un gd (Str.ofString "law") lscope L a ccd (lcells L) []) (execs more (envX (Str.ofString "law") lscope L a ccd (lcells L))) Q E { s with heap := hh, toks := tk }) :
    wpAny (model prog w) (ktrTop dp un gd (Str.ofString "law") lscope L a ccd (lcells L) []) (execs (rb 0 :: more) (envX (Str.ofString "law") lscope L a ccd (lcells L))) Q E s := by
  have key : (PySem.Challenge.rw_fc0033_01, Mine.K) = (PySem.Challenge.rw_fc0033_01, Mine.K) := by k_fill; rfl
  clear key
  change wpAny _ _ (execs (Stmt.Assign _ _ _ :: _) (envX _ ⟨_, _, _, _, _⟩ _ _ _ [_, _, _, _, _])) _ _ _
  k_steps
  refine unhalt ?_
  have hcs : lscope.kind = .function := rfl
  obtain ⟨t1, t2, t3, t4, t5, t6, t7⟩ := e5
  have hr := nxt_range ns 0 4 (by decide)
  have hdl : (deedsOf ns nN).length = nN := by unfold deedsOf; rw [List.length_map, List.length_range]
  have hdd : (drawsOf ns nN).length = nN := by unfold drawsOf; rw [List.length_map, List.length_range]
  have hd0 : ∀ d ∈ drawsOf ns nN, 0 ≤ d := by
    intro d hd
    obtain ⟨j, -, rfl⟩ := List.mem_map.mp hd
    exact (nxt_range ns _ 4 (by decide)).1
  refine useT0 (made_spec (PC := fun y => y.cc = cc) (tab := [(901, tabObj (chTab cc)), (cc, oc)]) (dll := (dls, listOf (tl.map fun p => Value.ref p.1).toArray nd) :: tl) (sv := sv) (n1 := nr) (n2 := cr) (n3 := nsv) (fvs := rv) (fs := fs)
    (fun left m1 m2 ls sv dr hL q0 q1 => (mkch2_spec hoc hct e4 (q1 (cc, oc) (.tail _ (.head _))) hL q0 (by omega)).mono fun r mine ⟨y, chl, g1, g2, g3, g4, g5, g6, g7⟩ => ⟨y, chl, g1, g2, g3, g4, g5, g6, by rw [g7, g2]⟩) (by omega) ?_ ⟨nd, tl, hT, rfl⟩ hdv hfs (by omega) (by omega) (by omega) (by omega) hd0 hf8 hsv) (rest := (L + 1, oDe) :: (L + 1 + 1, oC) :: Z) B F X (news_sub N ?_) T XB TB hC hcs ?_ (by omega) (by omega) ?_
  · refine ⟨?_, ?_, by omega, by omega, by omega, ?_⟩
    · intro x hx
      simp only [List.mem_cons, List.not_mem_nil, or_false] at hx
      rcases hx with rfl | rfl
      · dsimp only
        refine ⟨?_, ?_, ?_⟩ <;> omega
      · dsimp only
        refine ⟨?_, ?_, ?_⟩ <;> omega
    · intro x hx q hq
      have hq2 : @LE.le Nat _ dls q.1 ∧ @LT.lt Nat _ q.1 sen := by
        rcases List.mem_cons.mp hq with rfl | hq
        · dsimp only; omega
        · have := e3 q hq; omega
      simp only [List.mem_cons, List.not_mem_nil, or_false] at hx
      rcases hx with rfl | rfl
      · exact (show @Ne Nat _ _ by dsimp only; omega)
      · exact (show @Ne Nat _ _ by dsimp only; omega)
    · intro q hq
      rcases List.mem_cons.mp hq with rfl | hq
      · dsimp only
        refine ⟨?_, ?_, ?_⟩ <;> omega
      · have h1 := e3 q hq
        have h2 := e5' q hq
        refine ⟨?_, ?_, ?_⟩ <;> omega
  · intro q hq
    simp only [List.mem_cons, List.mem_append, List.cons_append, List.nil_append, List.not_mem_nil, or_false] at hq ⊢
    grind
  · intro x hx q hq
    have hxx : (x.1 = 901 ∨ x.1 = cc ∨ x.1 = drs ∨ x.1 = Tr ∨ x.1 = sen ∨ x.1 = dls) ∨ x ∈ tl := by
      simp only [List.mem_cons, List.mem_append, List.cons_append, List.nil_append, List.not_mem_nil, or_false] at hx
      rcases hx with rfl | rfl | rfl | rfl | rfl | rfl | hx
      · exact .inl (.inl rfl)
      · exact .inl (.inr (.inl rfl))
      · exact .inl (.inr (.inr (.inl rfl)))
      · exact .inl (.inr (.inr (.inr (.inl rfl))))
      · exact .inl (.inr (.inr (.inr (.inr (.inl rfl)))))
      · exact .inl (.inr (.inr (.inr (.inr (.inr rfl)))))
      · exact .inr hx
    have hqq : (q.1 = L + 1 ∨ q.1 = L + 1 + 1) ∨ q ∈ Z := by
      rcases List.mem_cons.mp hq with rfl | hq
      · exact .inl (.inl rfl)
      rcases List.mem_cons.mp hq with rfl | hq
      · exact .inl (.inr rfl)
      · exact .inr hq
    rcases hqq with hqq | hqZ
    · have hql : @LT.lt Nat _ L q.1 ∧ @LT.lt Nat _ q.1 dls := by rcases hqq with e | e <;> rw [e] <;> constructor <;> omega
      rcases hxx with hx | hx
      · exact (show @Ne Nat q.1 x.1 by rcases hqq with e' | e' <;> rcases hx with e | e | e | e | e | e <;> rw [e, e'] <;> omega)
      · have := e3 x hx
        exact (show @Ne Nat q.1 x.1 by omega)
    · have hz := hZ q hqZ
      rcases hxx with hx | hx
      · rcases hx with e | e | e | e | e | e
        · rw [e]; exact hz.1.1
        · rw [e]; exact hz.1.2.1
        · rw [e]; exact hz.1.2.2.2.1
        · rw [e]; exact hz.1.2.2.2.2.2.1
        · rw [e]; exact hz.1.2.2.1
        · rw [e]; exact hz.1.2.2.2.2.1
      · exact hz.2 x hx
  intro r mine h1 tk1 F2 N2 ap2 hpost
  obtain ⟨x, y, cl, chl, rfl, hycc, ox, oy, hxf, hfx, hys, hci, hch, hap, rfl⟩ := hpost
  rw [hycc] at N2 ap2 hap
  obtain ⟨W1, hW1⟩ : ∃ r, r = (901, tabObj (chTab cc)) :: (drs, listOf dvs.toArray nr) :: (dls, listOf (tl.map fun p => Value.ref p.1).toArray nd) :: (Tr, listOf rv.toArray cr) :: (L + 1, oDe) :: (cl ++ (chl ++ (tl ++ Z))) := ⟨_, rfl⟩
  have N3 := news_sub (l' := (L + 1 + 1, oC) :: W1) N2 (by
    subst hW1
    intro q hq
    simp only [List.mem_cons, List.mem_append, List.cons_append, List.nil_append, List.not_mem_nil, or_false] at hq ⊢
    grind)
  have apW1 : ∀ q ∈ W1, q.1 ≠ L + 1 + 1 := by
    intro q hq
    have hin : q.1 = L + 1 ∨ q ∈ (901, tabObj (chTab cc)) :: (drs, listOf dvs.toArray nr) :: (Tr, listOf rv.toArray cr) :: (cl ++ (chl ++ ((dls, listOf (tl.map fun p => Value.ref p.1).toArray nd) :: tl))) ∨ q ∈ Z := by
      subst hW1
      simp only [List.mem_cons, List.mem_append] at hq ⊢
      grind
    rcases hin with e | h | h
    · rw [e]; exact (show @Ne Nat _ _ by omega)
    · exact Ne.symm (ap2 q h (L + 1 + 1, oC) (.tail _ (.head _)))
    · exact (hZ q h).1.2.2.2.2.2.2
  clear N F N2
  k_steps
  rename Fr h₀ L _ _ => F4
  rename News h₀ L _ _ => N4
  rename_i oC' hoC'
  subst hW1
  refine hk _ _ x y cl chl oC' F4 N4 hoC' ox oy hycc hys hxf hfx hci hch ?_
  intro z hz q hq
  have hzm : z ∈ (901, tabObj (chTab cc)) :: (drs, listOf dvs.toArray nr) :: (Tr, listOf rv.toArray cr) :: (cl ++ (chl ++ ((dls, listOf (tl.map fun p => Value.ref p.1).toArray nd) :: tl))) := by
    refine List.mem_cons_of_mem _ (List.mem_cons_of_mem _ (List.mem_cons_of_mem _ ?_))
    rcases List.mem_append.mp hz with hz | hz
    · exact List.mem_append_left _ hz
    · exact List.mem_append_right _ (List.mem_append_left _ hz)
  rcases List.mem_cons.mp hq with rfl | hq
  · exact ap2 z hzm (L + 1 + 1, oC) (.tail _ (.head _))
  rcases List.mem_cons.mp hq with rfl | hq
  · exact hap z hz _ (.head _)
  rcases List.mem_cons.mp hq with rfl | hq
  · exact hap z hz _ (.tail _ (.head _))
  rcases List.mem_cons.mp hq with rfl | hq
  · exact hap z hz _ (.tail _ (.tail _ (.tail _ (.head _))))
  rcases List.mem_cons.mp hq with rfl | hq
  · exact hap z hz _ (.tail _ (.tail _ (.head _)))
  rcases List.mem_cons.mp hq with rfl | hq
  · exact ap2 z hzm (L + 1, oDe) (.head _)
  rcases List.mem_append.mp hq with hq | hq
  · exact hap z hz q (.tail _ (.tail _ (.tail _ (.tail _ hq))))
  · exact ap2 z hzm q (.tail _ (.tail _ hq))
end
end Mine
end
section
open PySem PySem.W PyProof.Rows PySem.Calls PyProof.V
set_option Elab.async false
set_option maxRecDepth 100000
set_option maxHeartbeats 1000000
set_option linter.unusedVariables false
set_option linter.unusedSimpArgs false
namespace Mine
theorem anew_RRR2 : True := by
  w_top off
  trivial
local macro_rules | `(tactic| k_all) => `(tactic| assumption)
local macro_rules | `(tactic| dict_fit) => `(tactic| omega)
local macro_rules | `(tactic| k_room) => `(tactic| ktr_room)
local macro_rules | `(tactic| walk_at "call ref") => `(tactic| ((with_reducible show wpAny _ _ (call (Value.ref _) _ _) _ _ _); refine halt ?_))
local macro_rules | `(tactic| walk_at "eval Name") => `(tactic| (k_here; k_dflt (refine' nameX_L ?kA1 ?kA2 ?_ ?kA3 ?kA4 ?kA5; (case kA3 => rfl); (case kA4 => rfl); (case kA5 => decide); (case kA1 => k_asm); (case kA2 => ((try dsimp only); (repeat (rw [if_neg (by decide)])); assumption)); k_whole)))
local macro_rules | `(tactic| walk_at "exec Assign cons ListComp") => `(tactic| ((with_reducible show wpAny _ _ (exec (Stmt.Assign _ (Expr.ListComp _ _ _ _) _) _) _ _ _); refine halt ?_))
local macro_rules | `(tactic| walk_at "CompSrc") => `(tactic| ((with_reducible show LCg.CompSrc _ _ _ _ _ _ _ _ _ _ _ _ _ _); refine halt ?_))
structure PopSt (prog : Program) (w : World) (x : CA) (y : HA) (room : Int) (kv : KV) (ks fs : List Int) (j : Nat) (tlp sl cl chl : List (Addr × Obj)) (ps : List (Int × Int)) (srows : List (List Int)) : Prop where
  prs : Prs tlp ps
  plen : ps.length = j
  rows : Rows sl srows
  slen : srows.length = j
  vals : ∀ q ∈ ps, look kv q.1 = some (.int q.2)
  srt : ∀ (i : Nat) r, srows[i]? = some r → r.Pairwise (· ≤ ·) ∧ r.Perm ((popKeys ks fs).drop i)
  st : ∃ kv' ix' ks', CacheL prog w x room kv' ix' ks' cl ∧ Inv kv' ix' ks' ∧ ks'.length + j = ks.length ∧ (∀ k ∈ ks', look kv' k = look kv k) ∧ ChoiceL y (fs.drop j) (sl.map fun p => Value.ref p.1) chl ∧ ps.map (·.1) ++ popKeys ks' (fs.drop j) = popKeys ks fs
theorem Prs.snoc {l : List (Addr × Obj)} {ps : List (Int × Int)} (h : Prs l ps) (T : Addr) (k v : Int) (t u : Tok) : Prs (l ++ [(T, tup2 (.int k t) (.int v u))]) (ps ++ [(k, v)]) := by
  induction h with
  | nil => exact .cons _ _ _ _ _ .nil
  | cons T' k' v' t' u' h ih => exact .cons _ _ _ _ _ ih
theorem CacheL.le {prog : Program} {w : World} {x : CA} {room : Int} {kv ix : KV} {ks : List Int} {l : List (Addr × Obj)} (h : CacheL prog w x room kv ix ks l) (o : x.ord) : ∀ q ∈ l, @LE.le Nat _ q.1 x.dk := by
  obtain ⟨od, oi, kvs, ivs, vs, nk, t1, t2, t3, t4, t5, t6, tc, tr, hod, hf, hoi, hfi, hI, rfl⟩ := h
  obtain ⟨o0, o1, o2, o3, o4⟩ := o
  simp only [List.forall_mem_cons]
  refine ⟨?_, ?_, ?_, ?_, ?_, List.forall_mem_nil _⟩ <;> omega
section
variable {prog : Program} {w : World} {p : Program} {loose : List Str} {mean : ExcName → Option Value} {mg mb : Str → Option Value}
theorem rowB {dp un : Nat} {gd : Option (List Code)} {a : Addr} {ccd : Value} {A₀ : Around} {base h₀ : Heap} {L S : Addr} {mm : Str → Option Value} {s : Shared} {Q : Flow → Shared → Prop} {E : Value → Shared → Prop} {room : Int} {x : CA} {y : HA} {kv ix : KV} {ks fs : List Int} {nvs : List Value} {nks : List Int} {cS : Nat} {oC : Obj} {cl chl Z : List (Addr × Obj)} {more : List Stmt}
    (B : Below A₀ base [] h₀) (F : Fr h₀ L s.heap mm) (X : (K w.params).In h₀) (N : News h₀ L s.heap ((L + 1 + 1, oC) :: (S, listOf nvs.toArray cS) :: (cl ++ (chl ++ Z)))) (T : Top p loose mean mg mb h₀) (hC : CodeHd base 905 901) (hoC : oC.data = .cell (some (.ref x.c)))
    (ox : x.ord) (oy : y.ord) (hxf : x.f = y.f) (hfx : @LT.lt Nat _ y.f x.d) (I : Inv kv ix ks) (hc : CacheL prog w x room kv ix ks cl) (hh : ChoiceL y fs [] chl) (hk4 : ks.length ≤ 4) (hfl : fs.length = ks.length) (hf0 : ∀ d ∈ fs, 0 ≤ d) (hvi : ∀ k pd, look kv k = some pd → ∃ v : Int, pd = .int v) (hnI : IntsAre nvs nks) (hnl : nks.length = ks.length)
    (hap : ∀ z ∈ cl ++ chl, ∀ q ∈ (L + 1 + 1, oC) :: (S, listOf nvs.toArray cS) :: Z, q.1 ≠ z.1)
    (m1 : mm (Str.ofString "names") = some (.ref S)) (hd : dp + 200 < recursionLimit) (hu : un + 1600 < cLine)
    (hk : ∀ (hh : Heap) (tk : Nat) (Dp : Addr) (cl' chl' tlp sl : List (Addr × Obj)) (ps : List (Int × Int)) (srows : List (List Int)) (mm' : Str → Option Value), Fr h₀ L hh mm' → (mm' (Str.ofString "pairs") = some (.ref Dp)) → (∀ y, y ≠ Str.ofString "pairs" → mm' y = mm y) → News h₀ L hh ((Dp, listOf (tlp.map fun p => Value.ref p.1).toArray tlp.length) :: (L + 1 + 1, oC) :: (S, listOf nvs.toArray cS) :: (cl' ++ (chl' ++ (tlp ++ (sl ++ Z))))) → PopSt prog w x y room kv ks fs ks.length tlp sl cl' chl' ps srows →
      (∀ z ∈ cl' ++ chl', ∀ q ∈ (Dp, listOf (tlp.map fun p => Value.ref p.1).toArray tlp.length) :: (L + 1 + 1, oC) :: (S, listOf nvs.toArray cS) :: (tlp ++ (sl ++ Z)), q.1 ≠ z.1) → (∀ z ∈ (Dp, listOf (tlp.map fun p => Value.ref p.1).toArray tlp.length) :: (tlp ++ sl), ∀ q ∈ (L + 1 + 1, oC) :: (S, listOf nvs.toArray cS) :: Z, q.1 ≠ z.1) →
      wpAny (model prog w) (ktrTop dp un gd (Str.ofString "law") lscope L a ccd (lcells L) []) (execs more (envX (Str.ofString "law") lscope L a ccd (lcells L))) Q E { s with heap := hh, toks := tk }) :
    wpAny (model prog w) (ktrTop dp un gd (Str.ofString "law") lscope L a ccd (lcells L) []) (execs (rb 1 :: more) (envX (Str.ofString "law") lscope L a ccd (lcells L))) Q E s := by
  have key : (PySem.Challenge.rw_fc0033_01, Mine.K) = (PySem.Challenge.rw_fc0033_01, Mine.K) := by k_fill; rfl
  clear key
  change wpAny _ _ (execs (Stmt.Assign _ (Expr.ListComp _ [⟨_, _, _, _⟩] ⟨_, _, _, _, _⟩ _) _ :: _) (envX _ ⟨_, _, _, _, _⟩ _ _ _ [_, _, _, _, _])) _ _ _
  k_steps
  refine unhalt ?_
  refine LCg.Assign_ListComp_U (F₀ := F) (by rfl) (by with_unfolding_all rfl) (by with_unfolding_all rfl) (by decide) (by rfl) (by decide) (by rfl) (by rfl) (by rfl) ?_
  have hnvl := hnI.length
  k_steps
  refine unhalt ?_
  rename IsRange _ _ _ _ _ _ _ _ => hR
  rename Fr h₀ L _ _ => F1
  rename News h₀ L _ _ => N1
  have hns : Builtin.Range.rangeSize 0 (nks.length : Int) 1 = ((nks.length : Nat) : Int) := by
    unfold Builtin.Range.rangeSize
    rw [if_pos (by decide)]
    split
    · rw [Int.ediv_one]; omega
    · omega
  refine LCg.CompSrc.range (by rfl) F1 N1 hR (small_one (by decide) (by decide) (by omega) (by omega)) hns (by rw [PySem.sizeLine_eq]; omega) ?_
  intro g'
  have hfl2 : fs.length = nks.length := by omega
  refine rest_ind (fun j ys nw => ∃ (tlp sl cl' chl' : List (Addr × Obj)) (ps : List (Int × Int)) (srows : List (List Int)), PopSt prog w x y room kv ks fs j tlp sl cl' chl' ps srows ∧ ys = tlp.map (fun p => Value.ref p.1) ∧ nw = (L + 1 + 1, oC) :: (S, listOf nvs.toArray cS) :: (cl' ++ (chl' ++ (tlp ++ (sl ++ Z)))) ∧ (∀ z ∈ cl' ++ chl', ∀ q ∈ (L + 1 + 1, oC) :: (S, listOf nvs.toArray cS) :: (tlp ++ (sl ++ Z)), q.1 ≠ z.1) ∧ (∀ z ∈ tlp ++ sl, ∀ q ∈ (L + 1 + 1, oC) :: (S, listOf nvs.toArray cS) :: Z, q.1 ≠ z.1)) ?_ ?_ _ 0 [] _ (Nat.zero_add _) ⟨[], [], cl, chl, [], [], ⟨.nil, rfl, .nil, rfl, (fun q hq => nomatch hq), (fun i r h => nomatch h), kv, ix, ks, hc, I, rfl, (fun k hk => rfl), hh, rfl⟩, rfl, rfl, hap, fun z hz => nomatch hz⟩
  · rintro j ys nw hj ⟨tlp, sl, cl1, chl1, ps, srows, ⟨q1, q2, q3, q4, q5, q6, kv1, ix1, ks1, hc1, I1, hkl1, hlk1, hh1, hpk1⟩, rfl, rfl, hap1, hap1'⟩ v Ia oI C oC3 D m2 h3 tk3 E3 hv3 hC3 hm3 F3 N3 off3 ne3
    have off' := off3.mem
    obtain ⟨d, dr, hdr⟩ : ∃ d dr, fs.drop j = d :: dr := by
      match hfd : fs.drop j with
      | [] => exfalso; have := congrArg List.length hfd; rw [List.length_drop] at this; simp at this; omega
      | d :: dr => exact ⟨d, dr, rfl⟩
    rw [hdr] at hh1 hpk1
    have hdm : d ∈ fs := List.mem_of_mem_drop (by rw [hdr]; exact .head _)
    have hsl1 := q3.length
    have hc2 := hc1
    obtain ⟨od, oi, kvs, ivs, vs, nk, u1, u2, u3, u4, u5, u6, uc, ur, hod, hf, hoi, hfi, hIv, hcl1⟩ := hc2
    have N4 : News h₀ L h3 ((Ia, oI) :: (C, oC3) :: (D, LCg.lst (tlp.map fun p => Value.ref p.1)) :: (L + 1 + 1, oC) :: (S, listOf nvs.toArray cS) :: (x.c, instObj 890 x.d) :: (x.d, dictOf (cEs w.params u1 u2 u3 u4 u5 u6 x.dd (ks1.length : Int) uc room ur x.f x.di x.dk) 6) :: (cl1 ++ (chl1 ++ (tlp ++ (sl ++ Z))))) := news_sub N3 (by
      rw [hcl1]
      intro q hq
      simp only [List.mem_cons, List.mem_append, List.cons_append, List.nil_append] at hq ⊢
      grind)
    have hkp : 0 < ks1.length := by omega
    have hpl := pickOf_lt (hf0 d hdm) hkp
    k_steps
    refine unhalt ?_
    rename Fr h₀ L _ _ => F5
    rename News h₀ L _ _ => N5
    show wpAny _ _ (call (.ref 880) [.ref x.c]) _ _ _
    refine use1 (popitem_spec ox oy hc1 hh1 hxf hfx I1 hkp (by omega) (hf0 d hdm) (by rw [List.length_map]; omega) (by have := congrArg List.length hdr; rw [List.length_drop, List.length_cons] at this; omega)) (rest := (Ia, oI) :: (C, oC3) :: (D, LCg.lst (tlp.map fun p => Value.ref p.1)) :: (L + 1 + 1, oC) :: (S, listOf nvs.toArray cS) :: (tlp ++ (sl ++ Z))) B F5 X (news_sub N5 ?_) T hC (by exact rfl) ?_ (by exact (show dp + 20 < recursionLimit by omega)) (by exact (show un + 120 < cLine by omega)) ?_
    · intro q hq
      simp only [List.mem_cons, List.mem_append, List.cons_append, List.nil_append] at hq ⊢
      grind
    · intro z hz q hq
      have hzo := off' z (.tail _ (.tail _ (by
        rcases List.mem_append.mp hz with hz | hz
        · exact List.mem_append_left _ hz
        · exact List.mem_append_right _ (List.mem_append_left _ hz))))
      rcases List.mem_cons.mp hq with rfl | hq
      · exact Ne.symm hzo.1
      rcases List.mem_cons.mp hq with rfl | hq
      · exact Ne.symm hzo.2.1
      rcases List.mem_cons.mp hq with rfl | hq
      · exact Ne.symm hzo.2.2
      · exact hap1 z hz q hq
    intro r mine h6 tk6 F6 N6 ap6 hpost
    obtain ⟨tp, sa, kt, v, pd, us, uk, n, cl2, chl2, rfl, hlk, hfv, hus, hperm, hsort, ⟨o1, o2, o3⟩, hc2, hh2, rfl⟩ := hpost
    have hkm := getD_mem hpl
    obtain ⟨vv, rfl⟩ := hvi _ pd (by rw [← hlk1 _ hkm]; exact hlk)
    obtain ⟨u, rfl⟩ := Flat.int_inv hfv
    have hdr1 : fs.drop (j + 1) = dr := by rw [← List.drop_drop, hdr]; rfl
    have hswn : (ks1.getD (pickOf ks1 d) 0 :: swapRem ks1 (pickOf ks1 d)).Nodup := (swapRem_perm ks1 _ hpl).nodup_iff.mpr I1.nodup
    change LCg.CompEnd h₀ L mm _ Ia oI C oC3 D _ _ _ _ _
    refine ⟨h6, tk6, (L + 1 + 1, oC) :: (S, listOf nvs.toArray cS) :: (cl2 ++ (chl2 ++ ((tlp ++ [(tp, tup2 (.int (ks1.getD (pickOf ks1 d) 0) kt) (.int vv u))]) ++ ((sl ++ [(sa, listOf us.toArray n)]) ++ Z)))), rfl, F6, news_sub N6 ?_, LCg.Off3.of ?_, trivial, tlp ++ [(tp, tup2 (.int (ks1.getD (pickOf ks1 d) 0) kt) (.int vv u))], sl ++ [(sa, listOf us.toArray n)], cl2, chl2, ps ++ [(ks1.getD (pickOf ks1 d) 0, vv)], srows ++ [uk], ⟨q1.snoc _ _ _ _ _, by rw [List.length_append, q2]; rfl, q3.snoc _ _ _ _ hus, by rw [List.length_append, q4]; rfl, ?_, ?_, _, _, _, hc2, I1.drop hpl, ?_, ?_, ?_, ?_⟩, by rw [List.map_append]; rfl, rfl, ?_, ?_⟩
    · intro q hq
      simp only [List.mem_cons, List.mem_append, List.not_mem_nil, or_false] at hq ⊢
      rcases hq with hq | hq | hq | hq | hq | hq | hq | (hq | hq) | (hq | hq) | hq
      · exact .inr (.inl hq)
      · exact .inr (.inr (.inl hq))
      · exact .inr (.inr (.inr (.inl hq)))
      · exact .inr (.inr (.inr (.inr (.inl hq))))
      · exact .inr (.inr (.inr (.inr (.inr (.inl hq)))))
      · exact .inl (.inr (.inr (.inl hq)))
      · exact .inl (.inr (.inr (.inr hq)))
      · exact .inr (.inr (.inr (.inr (.inr (.inr (.inl hq))))))
      · exact .inl (.inl hq)
      · exact .inr (.inr (.inr (.inr (.inr (.inr (.inr (.inl hq)))))))
      · exact .inl (.inr (.inl hq))
      · exact .inr (.inr (.inr (.inr (.inr (.inr (.inr (.inr hq)))))))
    · intro q hq
      have hin : (q.1 = tp ∨ q.1 = sa ∨ q ∈ cl2 ∨ q ∈ chl2) ∨ q ∈ (L + 1 + 1, oC) :: (S, listOf nvs.toArray cS) :: (cl1 ++ (chl1 ++ (tlp ++ (sl ++ Z)))) := by
        simp only [List.mem_cons, List.mem_append, List.not_mem_nil, or_false] at hq ⊢
        rcases hq with hq | hq | hq | hq | (hq | hq) | (hq | hq) | hq
        · exact .inr (.inl hq)
        · exact .inr (.inr (.inl hq))
        · exact .inl (.inr (.inr (.inl hq)))
        · exact .inl (.inr (.inr (.inr hq)))
        · exact .inr (.inr (.inr (.inr (.inr (.inl hq)))))
        · exact .inl (.inl (by rw [hq]))
        · exact .inr (.inr (.inr (.inr (.inr (.inr (.inl hq))))))
        · exact .inl (.inr (.inl (by rw [hq])))
        · exact .inr (.inr (.inr (.inr (.inr (.inr (.inr hq))))))
      have hnew : ∀ z ∈ (tp, tup2 (.int (ks1.getD (pickOf ks1 d) 0) kt) (.int vv u)) :: (sa, listOf us.toArray n) :: (cl2 ++ chl2), z.1 ≠ Ia ∧ z.1 ≠ C ∧ z.1 ≠ D := fun z hz => ⟨Ne.symm (ap6 z hz _ (.head _)), Ne.symm (ap6 z hz _ (.tail _ (.head _))), Ne.symm (ap6 z hz _ (.tail _ (.tail _ (.head _))))⟩
      rcases hin with (e | e | e | e) | e
      · rw [e]; exact hnew _ (.head _)
      · rw [e]; exact hnew _ (.tail _ (.head _))
      · exact hnew q (.tail _ (.tail _ (List.mem_append_left _ e)))
      · exact hnew q (.tail _ (.tail _ (List.mem_append_right _ e)))
      · exact off' q e
    · intro q hq
      rcases List.mem_append.mp hq with hq | hq
      · exact q5 q hq
      · obtain rfl := List.mem_singleton.mp hq
        rw [← hlk1 _ hkm]; exact hlk
    · intro i r hr
      rcases Nat.lt_or_ge i srows.length with hi | hi
      · exact q6 i r (by rw [List.getElem?_append_left hi] at hr; exact hr)
      · rw [List.getElem?_append_right hi] at hr
        have hi0 : i = j := by
          have := (List.getElem?_eq_some_iff.mp hr).1
          simp only [List.length_singleton] at this
          omega
        subst hi0
        rw [q4, Nat.sub_self] at hr
        obtain rfl := Option.some.inj hr
        refine ⟨hsort, hperm.trans ?_⟩
        have e1 : (popKeys ks fs).drop i = popKeys ks1 (d :: dr) := by
          rw [← hpk1, List.drop_append_of_le_length (by rw [List.length_map, q2]; exact Nat.le_refl _), List.drop_of_length_le (by rw [List.length_map, q2]; exact Nat.le_refl _), List.nil_append]
        rw [e1]
        have hle : ks1.length = (d :: dr).length := by
          have := congrArg List.length hdr
          rw [List.length_drop] at this
          omega
        exact (popKeys_perm (d :: dr) ks1 hle fun e he => hf0 e (List.mem_of_mem_drop (by rw [hdr]; exact he))).symm
    · have := swapRem_length ks1 (pickOf ks1 d)
      show (swapRem ks1 (pickOf ks1 d)).length + (j + 1) = ks.length
      omega
    · intro k hk
      have hk1 : k ∈ ks1 := (swapRem_perm ks1 _ hpl).mem_iff.mp (.tail _ hk)
      have hne : k ≠ ks1.getD (pickOf ks1 d) 0 := fun e => (List.nodup_cons.mp hswn).1 (e ▸ hk)
      show look (del kv1 (ks1.getD (pickOf ks1 d) 0)) k = _
      rw [look_del, if_neg hne]
      exact hlk1 k hk1
    · rw [hdr1, List.map_append]
      exact hh2
    · rw [hdr1, ← hpk1, List.map_append, List.append_assoc]
      rfl
    · intro z hz q hq
      have hzm : z ∈ (tp, tup2 (.int (ks1.getD (pickOf ks1 d) 0) kt) (.int vv u)) :: (sa, listOf us.toArray n) :: (cl2 ++ chl2) := .tail _ (.tail _ hz)
      have hq2 : (q.1 = tp ∨ q.1 = sa) ∨ q ∈ (L + 1 + 1, oC) :: (S, listOf nvs.toArray cS) :: (tlp ++ (sl ++ Z)) := by
        simp only [List.mem_cons, List.mem_append, List.not_mem_nil, or_false] at hq ⊢
        rcases hq with hq | hq | (hq | hq) | (hq | hq) | hq
        · exact .inr (.inl hq)
        · exact .inr (.inr (.inl hq))
        · exact .inr (.inr (.inr (.inl hq)))
        · exact .inl (.inl (by rw [hq]))
        · exact .inr (.inr (.inr (.inr (.inl hq))))
        · exact .inl (.inr (by rw [hq]))
        · exact .inr (.inr (.inr (.inr (.inr hq))))
      rcases hq2 with hq2 | hq2
      · have hz1 : @LT.lt Nat _ z.1 sa := by
          rcases List.mem_append.mp hz with hz | hz
          · exact Nat.lt_of_le_of_lt (hc2.le ox z hz) o1
          · exact Nat.lt_of_le_of_lt (hh2.le oy z hz) o2
        rcases hq2 with e | e
        · rw [e]; exact (show @Ne Nat tp z.1 by omega)
        · rw [e]; exact (show @Ne Nat sa z.1 by omega)
      · exact ap6 z hzm q (.tail _ (.tail _ (.tail _ hq2)))
    · intro z hz q hq
      have hq3 : q ∈ (Ia, oI) :: (C, oC3) :: (D, LCg.lst (tlp.map fun p => Value.ref p.1)) :: (L + 1 + 1, oC) :: (S, listOf nvs.toArray cS) :: (tlp ++ (sl ++ Z)) := by
        refine List.mem_cons_of_mem _ (List.mem_cons_of_mem _ (List.mem_cons_of_mem _ ?_))
        rcases List.mem_cons.mp hq with hq | hq
        · rw [hq]; exact .head _
        rcases List.mem_cons.mp hq with hq | hq
        · rw [hq]; exact .tail _ (.head _)
        · exact .tail _ (.tail _ (List.mem_append_right _ (List.mem_append_right _ hq)))
      rcases List.mem_append.mp hz with hz | hz
      · rcases List.mem_append.mp hz with hz | hz
        · exact hap1' z (List.mem_append_left _ hz) q hq
        · obtain rfl := List.mem_singleton.mp hz
          exact ap6 _ (.head _) q hq3
      · rcases List.mem_append.mp hz with hz | hz
        · exact hap1' z (List.mem_append_right _ hz) q hq
        · obtain rfl := List.mem_singleton.mp hz
          exact ap6 _ (.tail _ (.head _)) q hq3
  · rintro ys nw ⟨tlp, sl, cl1, chl1, ps, srows, hS, rfl, rfl, hap1, hap1'⟩
    intro D h' tk' F' N' o1'
    have hks : (nks.length : Nat) = ks.length := hnl
    rw [hks] at hS
    have e9 : (tlp.map fun p => Value.ref p.1).length = tlp.length := List.length_map ..
    have hoD := fun q hq => off1_mem o1' q hq
    refine hk h' tk' D cl1 chl1 tlp sl ps srows _ F' (by rfl) (fun y hy => by rw [if_neg hy]) ?_ hS ?_ ?_
    · intro q hq
      rcases List.mem_cons.mp hq with rfl | hq
      · have z := N' _ (.head _)
        rw [← e9]; exact z
      · exact N' q (.tail _ hq)
    · intro z hz q hq
      rcases List.mem_cons.mp hq with rfl | hq
      · refine Ne.symm (hoD z (.tail _ (.tail _ ?_)))
        rcases List.mem_append.mp hz with hz | hz
        · exact List.mem_append_left _ hz
        · exact List.mem_append_right _ (List.mem_append_left _ hz)
      · exact hap1 z hz q hq
    · intro z hz q hq
      rcases List.mem_cons.mp hz with rfl | hz
      · refine hoD q ?_
        rcases List.mem_cons.mp hq with hq | hq
        · rw [hq]; exact .head _
        rcases List.mem_cons.mp hq with hq | hq
        · rw [hq]; exact .tail _ (.head _)
        · exact .tail _ (.tail _ (List.mem_append_right _ (List.mem_append_right _ (List.mem_append_right _ (List.mem_append_right _ hq)))))
      · exact hap1' z hz q hq
end
end Mine
end
section
open PySem PySem.W PyProof.Rows PySem.Calls PyProof.V
set_option Elab.async false
set_option maxRecDepth 100000
set_option maxHeartbeats 1000000
set_option linter.unusedVariables false
set_option linter.unusedSimpArgs false
namespace Mine
local macro_rules | `(tactic| walk_at "pad 0") => `(tactic| fail)
local macro_rules | `(tactic| walk_at "pad 1") => `(tactic| fail)
local macro_rules | `(tactic| walk_at "pad 2") => `(tactic| fail)
local macro_rules | `(tactic| walk_at "pad 3") => `(tactic| fail)
local macro_rules | `(tactic| walk_at "pad 4") => `(tactic| fail)
local macro_rules | `(tactic| walk_at "pad 5") => `(tactic| fail)
local macro_rules | `(tactic| walk_at "pad 6") => `(tactic| fail)
local macro_rules | `(tactic| walk_at "pad 7") => `(tactic| fail)
local macro_rules | `(tactic| walk_at "pad 8") => `(tactic| fail)
local macro_rules | `(tactic| walk_at "pad 9") => `(tactic| fail)
theorem anew_RRR3 : True := by
  w_top off
  trivial
local macro_rules | `(tactic| k_all) => `(tactic| assumption)
local macro_rules | `(tactic| dict_fit) => `(tactic| omega)
local macro_rules | `(tactic| k_room) => `(tactic| ktr_room)
local macro_rules | `(tactic| walk_at "call ref") => `(tactic| ((with_reducible show wpAny _ _ (call (Value.ref _) _ _) _ _ _); refine halt ?_))
local macro_rules | `(tactic| walk_at "eval Name") => `(tactic| (k_here; k_dflt (refine' nameX_L ?kA1 ?kA2 ?_ ?kA3 ?kA4 ?kA5; (case kA3 => rfl); (case kA4 => rfl); (case kA5 => decide); (case kA1 => k_asm); (case kA2 => ((try dsimp only); (repeat (rw [if_neg (by decide)])); assumption)); k_whole)))
local macro_rules | `(tactic| walk_at "exec Assign cons ListComp") => `(tactic| ((with_reducible show wpAny _ _ (exec (Stmt.Assign _ (Expr.ListComp _ _ _ _) _) _) _ _ _); refine halt ?_))
local macro_rules | `(tactic| walk_at "eval ListComp") => `(tactic| ((with_reducible show wpAny _ _ (eval (Expr.ListComp _ _ _ _) _) _ _ _); refine halt ?_))
section
variable {prog : Program} {w : World} {p : Program} {loose : List Str} {mean : ExcName → Option Value} {mg mb : Str → Option Value}
theorem restP_ind {A : Around} {s : Shared} {h₀ : Heap} {L : Addr} {m : Str → Option Value} {env : Env} {elt : Expr} {x x₂ : Str} {scope : Scope} {cl : List (Str × Addr)} {S : List (Addr × Obj) → Prop} {P : Nat → Value → Prop} {Fin : List Value → List (Addr × Obj) → Prop} {n : Nat} (J : Nat → List Value → List (Addr × Obj) → Prop)
    (step : ∀ i ys news, i < n → J i ys news → ∀ v, P i v → ∃ (t : Addr) (ot : Obj) (v₁ v₂ : Value) (nt : Nat), v = .ref t ∧ (t, ot) ∈ news ∧ ot.cls = .type "tuple" ∧ ot.data = .seq #[v₁, v₂] nt ∧
      ∀ I oI C oC D m₂ h tk (E' : Value → Shared → Prop), LCg.NsObj oC m₂ → m₂ x = some v₁ → m₂ x₂ = some v₂ → Fr h₀ L h m → News h₀ L h ((I, oI) :: (C, oC) :: (D, LCg.lst ys) :: news) → LCg.Off3 I C D news → ((@Ne Nat I C) ∧ (@Ne Nat I D) ∧ (@Ne Nat C D)) →
      wpAny (model prog w) A (eval elt (compEnvC scope cl C env)) (LCg.CompEnd h₀ L m { s with heap := h, toks := tk } I oI C oC D (LCg.lst ys) S (fun y news' => J (i + 1) (ys ++ [y]) news')) E' { s with heap := h, toks := tk })
    (fin : ∀ ys news, J n ys news → Fin ys news) : ∀ k i ys news, i + k = n → J i ys news → LCp.CompRestP prog w A h₀ L m env elt x x₂ scope cl s S P Fin k i ys news
  | 0, i, ys, news, e, hJ => LCp.CompRestP.zero (fin ys news (by rw [show n = i from e.symm]; exact hJ))
  | k + 1, i, ys, news, e, hJ => fun v hv => by
    obtain ⟨t, ot, v1, v2, nt, g1, g2, g3, g4, g5⟩ := step i ys news (by omega) hJ v hv
    exact ⟨t, ot, v1, v2, nt, g1, g2, g3, g4, fun I oI C oC D m₂ h tk E' a2 a3 a4 a5 a6 a7 a8 =>
      wpAny_mono (g5 I oI C oC D m₂ h tk E' a2 a3 a4 a5 a6 a7 a8) (fun y s' hs => compEnd_mono (fun y nw hj => restP_ind J step fin k (i + 1) _ _ (by omega) hj) hs) fun _ _ z => z⟩
theorem rowC {dp un : Nat} {gd : Option (List Code)} {a : Addr} {ccd : Value} {A₀ : Around} {base h₀ : Heap} {L Dp : Addr} {mm : Str → Option Value} {s : Shared} {Q : Flow → Shared → Prop} {E : Value → Shared → Prop} {tlp Z : List (Addr × Obj)} {ps : List (Int × Int)} {oO : Obj} {vO : Option Value} {cD : Nat} {more : List Stmt}
    (B : Below A₀ base [] h₀) (F : Fr h₀ L s.heap mm) (X : (K w.params).In h₀) (N : News h₀ L s.heap ((L + 1 + 1 + 1 + 1, oO) :: (Dp, listOf (tlp.map fun p => Value.ref p.1).toArray cD) :: (tlp ++ Z))) (T : Top p loose mean mg mb h₀) (hC : CodeHd base 905 901) (hoO : oO.data = .cell vO) (hP : Prs tlp ps) (h4 : ps.length ≤ 4)
    (hZ : ∀ q ∈ Z, q.1 ≠ L + 1 + 1 + 1 + 1) (hZ1 : @Ne Nat Dp (L + 1 + 1 + 1 + 1)) (hZ2 : ∀ q ∈ tlp, q.1 ≠ L + 1 + 1 + 1 + 1)
    (m1 : mm (Str.ofString "pairs") = some (.ref Dp)) (hd : dp + 200 < recursionLimit) (hu : un + 1600 < cLine)
    (hk : ∀ (hh : Heap) (tk : Nat) (Do : Addr) (oO' : Obj) (ovs : List Value), Fr h₀ L hh mm → News h₀ L hh ((Do, listOf ovs.toArray ovs.length) :: (L + 1 + 1 + 1 + 1, oO') :: (Dp, listOf (tlp.map fun p => Value.ref p.1).toArray cD) :: (tlp ++ Z)) → oO'.data = .cell (some (.ref Do)) → IntsAre ovs (ps.map (·.1)) → (∀ q ∈ (Dp, listOf (tlp.map fun p => Value.ref p.1).toArray cD) :: (tlp ++ Z), q.1 ≠ Do) →
      wpAny (model prog w) (ktrTop dp un gd (Str.ofString "law") lscope L a ccd (lcells L) []) (execs more (envX (Str.ofString "law") lscope L a ccd (lcells L))) Q E { s with heap := hh, toks := tk }) :
    wpAny (model prog w) (ktrTop dp un gd (Str.ofString "law") lscope L a ccd (lcells L) []) (execs (rb 2 :: more) (envX (Str.ofString "law") lscope L a ccd (lcells L))) Q E s := by
  have key : (PySem.Challenge.rw_fc0033_01, Mine.K) = (PySem.Challenge.rw_fc0033_01, Mine.K) := by k_fill; rfl
  clear key
  change wpAny _ _ (execs (Stmt.Assign _ (Expr.ListComp _ [⟨_, _, _, _⟩] ⟨_, _, _, _, _⟩ _) _ :: _) (envX _ ⟨_, _, _, _, _⟩ _ _ _ [_, _, _, _, _])) _ _ _
  k_steps
  refine unhalt ?_
  refine wpAny_Assign_Name ?_
  have hpl := hP.length
  refine LCp.ListComp_P (F₀ := F) (by with_unfolding_all rfl) (by decide) (by rfl) (by decide) (by rfl) (by rfl) (by decide) ?_
  refine nameX_L F m1 ?_ rfl rfl (by decide)
  refine ⟨Dp, _, _, rfl, rfl, F, N, .inr ⟨_, .tail _ (.head _), rfl, _, rfl⟩, by rw [List.size_toArray, List.length_map, PySem.sizeLine_eq]; omega, ?_⟩
  rintro s₂ ⟨g', rfl⟩
  refine restP_ind (fun j ys nw => IntsAre ys ((ps.take j).map (·.1)) ∧ nw = (L + 1 + 1 + 1 + 1, oO) :: (Dp, listOf (tlp.map fun p => Value.ref p.1).toArray cD) :: (tlp ++ Z)) ?_ ?_ _ 0 [] _ (Nat.zero_add _) ⟨.nil, rfl⟩
  · rintro j ys nw hj ⟨hys, rfl⟩ v hv
    rw [List.size_toArray, List.length_map] at hj
    obtain ⟨T1, k, vv, t, u, e1, e2⟩ := hP.at_ j hj
    have hv2 : v = .ref T1 := by
      rw [List.getElem?_toArray, List.getElem?_map, e1] at hv
      exact (Option.some.inj hv).symm
    refine ⟨T1, _, _, _, _, hv2, .tail _ (.tail _ (List.mem_append_left _ (List.mem_of_getElem? e1))), rfl, rfl, ?_⟩
    intro Ia oI C oC D m2 h3 tk3 E3 hC3 hm3 hm4 F3 N3 off3 ne3
    k_steps
    refine ⟨h3, tk3, _, rfl, F3, N3, off3, .inr ⟨_, .tail _ (.head _), rfl, _, rfl⟩, ?_, rfl⟩
    rw [List.take_add_one, e2, List.map_append]
    exact hys.append (.cons k t .nil)
  · rintro ys nw ⟨hys, rfl⟩
    intro Do h' tk' F' N' o1'
    have hoD := fun q hq => off1_mem o1' q hq
    rw [List.size_toArray, List.length_map, hpl, List.take_of_length_le (Nat.le_refl _)] at hys
    obtain ⟨W1, hW1⟩ : ∃ r, r = (Do, LCg.lst ys) :: (Dp, listOf (tlp.map fun p => Value.ref p.1).toArray cD) :: (tlp ++ Z) := ⟨_, rfl⟩
    have N3 := news_sub (l' := (L + 1 + 1 + 1 + 1, oO) :: W1) N' (by
      subst hW1
      intro q hq
      simp only [List.mem_cons] at hq ⊢
      rcases hq with hq | hq | hq | hq
      · exact .inr (.inl hq)
      · exact .inl hq
      · exact .inr (.inr (.inl hq))
      · exact .inr (.inr (.inr hq)))
    have apW1 : ∀ q ∈ W1, q.1 ≠ L + 1 + 1 + 1 + 1 := by
      intro q hq
      rw [hW1] at hq
      rcases List.mem_cons.mp hq with rfl | hq
      · exact Ne.symm (hoD (L + 1 + 1 + 1 + 1, oO) (.head _))
      rcases List.mem_cons.mp hq with rfl | hq
      · exact hZ1
      rcases List.mem_append.mp hq with hq | hq
      · exact hZ2 q hq
      · exact hZ q hq
    clear N N' F
    k_steps
    rename Fr h₀ L _ _ => F4
    rename News h₀ L _ _ => N4
    rename_i oO' hoO'
    subst hW1
    refine hk _ _ Do oO' ys F4 ?_ hoO' hys fun q hq => hoD q (.tail _ hq)
    intro q hq
    refine N4 q ?_
    simp only [List.mem_cons] at hq ⊢
    rcases hq with hq | hq | hq | hq
    · exact .inr (.inl hq)
    · exact .inl hq
    · exact .inr (.inr (.inl hq))
    · exact .inr (.inr (.inr hq))
end
end Mine
end
section
open PySem PySem.W PyProof.Rows PySem.Calls PyProof.V
set_option Elab.async false
set_option maxRecDepth 100000
set_option maxHeartbeats 3000000
set_option linter.unusedVariables false
set_option linter.unusedSimpArgs false
namespace Mine
theorem anew_RRR4 : True := by
  w_top off
  trivial
local macro_rules | `(tactic| k_all) => `(tactic| assumption)
local macro_rules | `(tactic| dict_fit) => `(tactic| omega)
local macro_rules | `(tactic| k_room) => `(tactic| ktr_room)
local macro_rules | `(tactic| walk_at "call ref") => `(tactic| ((with_reducible show wpAny _ _ (call (Value.ref _) _ _) _ _ _); refine halt ?_))
local macro_rules | `(tactic| walk_at "eval Name") => `(tactic| (k_here; k_dflt (refine' nameX_L ?kA1 ?kA2 ?_ ?kA3 ?kA4 ?kA5; (case kA3 => rfl); (case kA4 => rfl); (case kA5 => decide); (case kA1 => k_asm); (case kA2 => ((try dsimp only); (repeat (rw [if_neg (by decide)])); assumption)); k_whole)))
local macro_rules | `(tactic| walk_at "call builtin:sorted") => `(tactic| ((with_reducible show wpAny _ _ (call (Value.builtin "sorted") [Value.ref _]) _ _ _); refine halt ?_))
local macro_rules | `(tactic| walk_at "compareOp NotEq ref ref") => `(tactic| ((with_reducible show wpAny _ _ (compareOp _ (Value.ref _) (Value.ref _)) _ _ _); refine halt ?_))
section
variable {prog : Program} {w : World} {p : Program} {loose : List Str} {mean : ExcName → Option Value} {mg mb : Str → Option Value}
theorem rowD {dp un : Nat} {gd : Option (List Code)} {a : Addr} {ccd : Value} {A₀ : Around} {base h₀ : Heap} {L S Dp Do D : Addr} {mm : Str → Option Value} {s : Shared} {Q : Flow → Shared → Prop} {E : Value → Shared → Prop} {room : Int} {x : CA} {y : HA} {kv : KV} {ks fs : List Int} {nvs ovs : List Value} {nks : List Int} {cS cO cD : Nat} {oC oO oP oD : Obj} {kvs : List (Int × Value)} {qs : List (Int × Int)} {cl chl tlp sl Z : List (Addr × Obj)} {ps : List (Int × Int)} {srows : List (List Int)} {more : List Stmt}
    (B : Below A₀ base [] h₀) (F : Fr h₀ L s.heap mm) (X : (K w.params).In h₀) (N : News h₀ L s.heap ((L + 1 + 1, oC) :: (L + 1 + 1 + 1, oP) :: (L + 1 + 1 + 1 + 1, oO) :: (Do, listOf ovs.toArray cO) :: (Dp, listOf (tlp.map fun p => Value.ref p.1).toArray cD) :: (S, listOf nvs.toArray cS) :: (D, oD) :: (cl ++ (chl ++ (tlp ++ Z))))) (T : Top p loose mean mg mb h₀) (XB : (K w.params).In base) (TB : Top p loose mean mg mb base) (hC : CodeHd base 905 901) (hoC : oC.data = .cell (some (.ref x.c))) (hoO : oO.data = .cell (some (.ref Do))) (hoP : oP.data = .cell (some (.ref D))) (hIs : oD.IsDictOf (intKind prog w) kvs) (hfl : FlatPairs PyData.int kvs (encD kv)) (h1D : @LT.lt Nat _ 1 D)
    (ox : x.ord) (oy : y.ord) (hxf : x.f = y.f) (hfx : @LT.lt Nat _ y.f x.d) (hn : ks.Nodup) (hkp : (kv.map (·.1)).Perm ks) (hk4 : ks.length ≤ 4) (hfs : fs.length = ks.length) (hf0 : ∀ d ∈ fs, 0 ≤ d) (hvi : ∀ k pd, look kv k = some pd → ∃ v : Int, pd = .int v) (hnI : IntsAre nvs nks) (hnp : nks.Perm ks) (hns : nks.Pairwise (· ≤ ·)) (hoI : IntsAre ovs (popKeys ks fs))
    (hroom : 1 ≤ room) (hroom2 : room ≤ 4) (hS : PopSt prog w x y room kv ks fs ks.length tlp sl cl chl ps srows)
    (hap : ∀ z ∈ cl ++ chl, ∀ q ∈ (L + 1 + 1, oC) :: (L + 1 + 1 + 1, oP) :: (L + 1 + 1 + 1 + 1, oO) :: (Do, listOf ovs.toArray cO) :: (Dp, listOf (tlp.map fun p => Value.ref p.1).toArray cD) :: (S, listOf nvs.toArray cS) :: (D, oD) :: (tlp ++ Z), q.1 ≠ z.1)
    (m1 : mm (Str.ofString "names") = some (.ref S)) (m2 : mm (Str.ofString "pairs") = some (.ref Dp)) (hd : dp + 200 < recursionLimit) (hu : un + 1600 < cLine)
    (hk : ∀ (hh : Heap) (tk : Nat) (cl' chl' : List (Addr × Obj)), Fr h₀ L hh mm → News h₀ L hh ((L + 1 + 1, oC) :: (L + 1 + 1 + 1, oP) :: (L + 1 + 1 + 1 + 1, oO) :: (Do, listOf ovs.toArray cO) :: (Dp, listOf (tlp.map fun p => Value.ref p.1).toArray cD) :: (S, listOf nvs.toArray cS) :: (D, oD) :: (cl' ++ (chl' ++ (tlp ++ Z)))) → ChoiceL y [] (sl.map fun p => Value.ref p.1) chl' → (∀ z ∈ chl', ∀ q ∈ (L + 1 + 1, oC) :: (L + 1 + 1 + 1, oP) :: (L + 1 + 1 + 1 + 1, oO) :: (Do, listOf ovs.toArray cO) :: (Dp, listOf (tlp.map fun p => Value.ref p.1).toArray cD) :: (S, listOf nvs.toArray cS) :: (D, oD) :: (tlp ++ Z), q.1 ≠ z.1) →
      wpAny (model prog w) (ktrTop dp un gd (Str.ofString "law") lscope L a ccd (lcells L) []) (execs more (envX (Str.ofString "law") lscope L a ccd (lcells L))) Q E { s with heap := hh, toks := tk }) :
    wpAny (model prog w) (ktrTop dp un gd (Str.ofString "law") lscope L a ccd (lcells L) []) (execs (rb 3 :: more) (envX (Str.ofString "law") lscope L a ccd (lcells L))) Q E s := by
  have key : (PySem.Challenge.rw_fc0033_01, Mine.K) = (PySem.Challenge.rw_fc0033_01, Mine.K) := by k_fill; rfl
  clear key
  have hDD : (D == sysModules) = false := modules_ne h1D
  have hkvl : kv.length = ks.length := by have := hkp.length_eq; rw [List.length_map] at this; exact this
  have hkl2 : (encD kv).length ≤ 64 := by rw [encD_length]; omega
  have hol := popKeys_length fs ks
  have hovl := hoI.length
  change wpAny _ _ (execs (Stmt.If _ _ _ _ :: _) (envX _ ⟨_, _, _, _, _⟩ _ _ _ [_, _, _, _, _])) _ _ _
  k_steps
  refine unhalt ?_
  refine kso_sorted F N (kso_isList (vs := ovs) (n := cO) N (.tail _ (.tail _ (.tail _ (.head _)))) rfl) hoI (by omega) ?_
  intro D1 vs1 ns1 c1 h1 F1 N1 lt1 hI1 hlen1 hp1 ho1 _
  have hns1 : ns1 = nks := sorted_eq (hp1.trans ((popKeys_perm fs ks (by omega) hf0).trans hnp.symm)) ho1 hns
  subst hns1
  k_steps
  refine unhalt ?_
  refine ke_ne_ints (kso_isList (vs := vs1) (n := c1) N1 (.head _) rfl) (kso_isList (vs := nvs) (n := cS) N1 (.tail _ (.tail _ (.tail _ (.tail _ (.tail _ (.tail _ (.head _))))))) rfl) hI1 hnI (by exact (show un + 64 < cLine by omega)) ?_
  rw [decide_eq_true rfl]
  k_steps
  refine unhalt ?_
  obtain ⟨kv1, ix1, ks1, hc1, I1, hkl1, hlk1, hh1, hpk1⟩ := hS.st
  have hfd : fs.drop ks.length = [] := List.drop_of_length_le (by omega)
  rw [hfd] at hh1 hpk1
  have hks1 : ks1 = [] := List.eq_nil_of_length_eq_zero (by omega)
  subst hks1
  have hkv1 : kv1 = [] := by
    have := I1.data.length_eq
    rw [List.length_map] at this
    exact List.eq_nil_of_length_eq_zero this
  subst hkv1
  have hpse : ps.map (·.1) = popKeys ks fs := by rw [← hpk1]; simp [popKeys]
  have hppk : (ps.map (·.1)).Perm ks := by rw [hpse]; exact popKeys_perm fs ks (by omega) hf0
  have hkn : (kv.map (·.1)).Nodup := hkp.nodup_iff.mpr hn
  have hpn : (ps.map (·.1)).Nodup := hppk.nodup_iff.mpr hn
  obtain ⟨qs, hqs⟩ := kv_pairs hkn hvi
  have hqn : (qs.map (·.1)).Nodup := by have e : kv.map (·.1) = qs.map (·.1) := by rw [hqs, List.map_map]; rfl
                                        rw [← e]; exact hkn
  have hql : qs.length = ks.length := by rw [← hkvl, hqs, List.length_map]
  have hplen := hS.plen
  have hpq := pairs_perm hqs hkn hkp hppk hS.vals
  have htlm : ∀ q ∈ tlp, q ∈ (L + 1 + 1, oC) :: (L + 1 + 1 + 1, oP) :: (L + 1 + 1 + 1 + 1, oO) :: (Do, listOf ovs.toArray cO) :: (Dp, listOf (tlp.map fun p => Value.ref p.1).toArray cD) :: (S, listOf nvs.toArray cS) :: (D, oD) :: (cl ++ (chl ++ (tlp ++ Z))) := fun q hq => .tail _ (.tail _ (.tail _ (.tail _ (.tail _ (.tail _ (.tail _ (List.mem_append_right _ (List.mem_append_right _ (List.mem_append_left _ hq)))))))))
  refine sorted_pairs (c := cD) F1 N1 (.tail _ (.tail _ (.tail _ (.tail _ (.tail _ (.head _)))))) (fun q hq => .tail _ (htlm q hq)) hS.prs hpn (by omega) ?_
  intro D2 h2 tl2 ps2 c2 F2 N2 lt2 S2
  k_steps
  refine unhalt ?_
  rename Fr h₀ L _ _ => F3
  rename News h₀ L _ _ => N3
  refine sorted_items (kvs := kvs) (kv := kv) (by rfl) F3 N3 (.head _) (.tail _ (.tail _ (.tail _ (.tail _ (.tail _ (.tail _ (.tail _ (.tail _ (.tail _ (.head _)))))))))) hIs hfl hqs hqn (by omega) ?_
  intro D3 h4 tk4 tl3 tl4 ps3 c3 F4 N4 lt4 lt5 S3
  have hps : ps2 = ps3 := pairs_eq (S2.perm2.trans (hpq.trans S3.perm2.symm)) S2.lt S3.lt
  subst hps
  k_steps
  refine unhalt ?_
  refine kqd_same N4 (.tail _ (List.mem_append_right _ (.tail _ (.head _)))) rfl rfl (S2.prs.dat tl2 fun q hq => hq) (fun q hq => .tail _ (List.mem_append_right _ (.tail _ (.tail _ (.tail _ (htlm q (S2.perm.mem_iff.mp hq))))))) (.head _) rfl rfl (S3.prs.dat tl4 fun q hq => hq) (fun q hq => .tail _ (List.mem_append_left _ (S3.perm.mem_iff.mp hq))) (datP_ok _) (by exact (show un + 64 < cLine by omega)) ?_
  have hc2 := hc1
  obtain ⟨od, oi, kvs9, ivs, vs, nk, u1, u2, u3, u4, u5, u6, uc, ur, hod, hf9, hoi, hfi, hIv, hcl1⟩ := hc2
  have N5 : News h₀ L h4 ((L + 1 + 1, oC) :: (x.c, instObj 890 x.d) :: (x.d, dictOf (cEs w.params u1 u2 u3 u4 u5 u6 x.dd ((([] : List Int).length : Nat) : Int) uc room ur x.f x.di x.dk) 6) :: (L + 1 + 1 + 1, oP) :: (L + 1 + 1 + 1 + 1, oO) :: (Do, listOf ovs.toArray cO) :: (Dp, listOf (tlp.map fun p => Value.ref p.1).toArray cD) :: (S, listOf nvs.toArray cS) :: (D, oD) :: (cl ++ (chl ++ (tlp ++ Z)))) := news_sub N4 (by
    intro q hq
    have hin : q ∈ (L + 1 + 1, oC) :: (L + 1 + 1 + 1, oP) :: (L + 1 + 1 + 1 + 1, oO) :: (Do, listOf ovs.toArray cO) :: (Dp, listOf (tlp.map fun p => Value.ref p.1).toArray cD) :: (S, listOf nvs.toArray cS) :: (D, oD) :: (cl ++ (chl ++ (tlp ++ Z))) := by
      rcases List.mem_cons.mp hq with rfl | hq
      · exact .head _
      rcases List.mem_cons.mp hq with rfl | hq
      · exact .tail _ (.tail _ (.tail _ (.tail _ (.tail _ (.tail _ (.tail _ (List.mem_append_left _ (by rw [hcl1]; exact .head _))))))))
      rcases List.mem_cons.mp hq with rfl | hq
      · exact .tail _ (.tail _ (.tail _ (.tail _ (.tail _ (.tail _ (.tail _ (List.mem_append_left _ (by rw [hcl1]; exact .tail _ (.head _)))))))))
      · exact .tail _ hq
    exact .tail _ (List.mem_append_right _ (.tail _ (.tail _ (.tail _ hin)))))
  clear N4 N3 N2 N1 N F3 F2 F1 F lt1 lt2 lt4 lt5 S2 S3
  k_steps
  refine unhalt ?_
  have hcch : ∀ z ∈ cl, ∀ q ∈ chl, q.1 ≠ z.1 := fun z hz q hq => Nat.ne_of_lt (Nat.lt_of_le_of_lt (hh1.le oy q hq) (Nat.lt_of_lt_of_le hfx (hc1.ge ox z hz)))
  rename Fr h₀ L _ _ => F6
  rename News h₀ L _ _ => N6
  refine use1 (len_spec ox hc1 (by exact Nat.zero_le _)) (rest := (L + 1 + 1, oC) :: (L + 1 + 1 + 1, oP) :: (L + 1 + 1 + 1 + 1, oO) :: (Do, listOf ovs.toArray cO) :: (Dp, listOf (tlp.map fun p => Value.ref p.1).toArray cD) :: (S, listOf nvs.toArray cS) :: (D, oD) :: (chl ++ (tlp ++ Z))) B F6 X (news_sub N6 ?_) T hC (by exact rfl) ?_ (by exact (show dp + 3 < recursionLimit by omega)) (by exact (show un + 1 + 30 < cLine by omega)) ?_
  · intro q hq
    rcases List.mem_append.mp hq with hq | hq
    · exact .tail _ (.tail _ (.tail _ (.tail _ (.tail _ (.tail _ (.tail _ (.tail _ (.tail _ (List.mem_append_left _ hq)))))))))
    rcases List.mem_cons.mp hq with rfl | hq
    · exact .head _
    · refine List.mem_cons_of_mem _ (List.mem_cons_of_mem _ (List.mem_cons_of_mem _ ?_))
      simp only [List.mem_cons, List.mem_append] at hq ⊢
      rcases hq with hq | hq | hq | hq | hq | hq | hq
      · exact .inl hq
      · exact .inr (.inl hq)
      · exact .inr (.inr (.inl hq))
      · exact .inr (.inr (.inr (.inl hq)))
      · exact .inr (.inr (.inr (.inr (.inl hq))))
      · exact .inr (.inr (.inr (.inr (.inr (.inl hq)))))
      · exact .inr (.inr (.inr (.inr (.inr (.inr (.inr hq))))))
  · intro z hz q hq
    have hz2 := hap z (List.mem_append_left _ hz)
    have hin : q ∈ chl ∨ q ∈ (L + 1 + 1, oC) :: (L + 1 + 1 + 1, oP) :: (L + 1 + 1 + 1 + 1, oO) :: (Do, listOf ovs.toArray cO) :: (Dp, listOf (tlp.map fun p => Value.ref p.1).toArray cD) :: (S, listOf nvs.toArray cS) :: (D, oD) :: (tlp ++ Z) := by
      simp only [List.mem_cons, List.mem_append] at hq ⊢
      rcases hq with hq | hq | hq | hq | hq | hq | hq | hq | hq
      · exact .inr (.inl hq)
      · exact .inr (.inr (.inl hq))
      · exact .inr (.inr (.inr (.inl hq)))
      · exact .inr (.inr (.inr (.inr (.inl hq))))
      · exact .inr (.inr (.inr (.inr (.inr (.inl hq)))))
      · exact .inr (.inr (.inr (.inr (.inr (.inr (.inl hq))))))
      · exact .inr (.inr (.inr (.inr (.inr (.inr (.inr (.inl hq)))))))
      · exact .inl hq
      · exact .inr (.inr (.inr (.inr (.inr (.inr (.inr (.inr hq)))))))
    rcases hin with hq | hq
    · exact hcch z hz q hq
    · exact hz2 q hq
  intro r mine h7 tk7 F7 N7 ap7 hpost
  obtain ⟨⟨t7, rfl⟩, rfl⟩ := hpost
  have N8 : News h₀ L h7 ((L + 1 + 1, oC) :: (L + 1 + 1 + 1, oP) :: (L + 1 + 1 + 1 + 1, oO) :: (Do, listOf ovs.toArray cO) :: (Dp, listOf (tlp.map fun p => Value.ref p.1).toArray cD) :: (S, listOf nvs.toArray cS) :: (D, oD) :: (mine ++ (chl ++ (tlp ++ Z)))) := news_sub N7 (by
    intro q hq
    simp only [List.mem_cons, List.mem_append] at hq ⊢
    rcases hq with hq | hq | hq | hq | hq | hq | hq | hq | hq
    · exact .inr (.inl hq)
    · exact .inr (.inr (.inl hq))
    · exact .inr (.inr (.inr (.inl hq)))
    · exact .inr (.inr (.inr (.inr (.inl hq))))
    · exact .inr (.inr (.inr (.inr (.inr (.inl hq)))))
    · exact .inr (.inr (.inr (.inr (.inr (.inr (.inl hq))))))
    · exact .inr (.inr (.inr (.inr (.inr (.inr (.inr (.inl hq)))))))
    · exact .inl hq
    · exact .inr (.inr (.inr (.inr (.inr (.inr (.inr (.inr hq))))))))
  clear N6 N7 F6
  refine ⟨⟨by exact (show (0 : Int) ≤ ((0 : Nat) : Int) by decide), by exact (show ((0 : Nat) : Int) < 2 ^ 63 by decide)⟩, ?_⟩
  dsimp only
  k_steps
  refine unhalt ?_
  rename Fr h₀ L _ _ => F9
  rename News h₀ L _ _ => N9
  have hsll := hS.rows.length
  have hsrl := hS.slen
  have hcs : lscope.kind = .function := rfl
  refine useT0 (deed_spec (S := ⟨[], [], []⟩) ox oy ⟨ix1, I1, hc1⟩ hh1 hxf hfx hroom hroom2 (by show ((0 : Nat) : Int) ≤ room; omega) (fun e => absurd rfl e) (fun d hd => nomatch hd) (by decide) (by rw [List.length_map]; omega)) (rest := (L + 1 + 1, oC) :: (L + 1 + 1 + 1, oP) :: (L + 1 + 1 + 1 + 1, oO) :: (Do, listOf ovs.toArray cO) :: (Dp, listOf (tlp.map fun p => Value.ref p.1).toArray cD) :: (S, listOf nvs.toArray cS) :: (D, oD) :: (tlp ++ Z)) B F9 X (news_sub N9 ?_) T XB TB hC hcs hap (by omega) (by omega) ?_
  · intro q hq
    rcases List.mem_append.mp hq with hq | hq
    · refine List.mem_cons_of_mem _ (List.mem_cons_of_mem _ (List.mem_cons_of_mem _ (List.mem_cons_of_mem _ (List.mem_cons_of_mem _ (List.mem_cons_of_mem _ (List.mem_cons_of_mem _ ?_))))))
      rcases List.mem_append.mp hq with hq | hq
      · exact List.mem_append_left _ hq
      · exact List.mem_append_right _ (List.mem_append_left _ hq)
    · simp only [List.mem_cons, List.mem_append] at hq ⊢
      rcases hq with hq | hq | hq | hq | hq | hq | hq | hq
      · exact .inl hq
      · exact .inr (.inl hq)
      · exact .inr (.inr (.inl hq))
      · exact .inr (.inr (.inr (.inl hq)))
      · exact .inr (.inr (.inr (.inr (.inl hq))))
      · exact .inr (.inr (.inr (.inr (.inr (.inl hq)))))
      · exact .inr (.inr (.inr (.inr (.inr (.inr (.inl hq))))))
      · exact .inr (.inr (.inr (.inr (.inr (.inr (.inr (.inr (.inr hq))))))))
  intro r mine2 hA tkA FA NA apA hpost
  obtain ⟨sv2, cl2, chl2, rfl, hci2, hch2, -, hsv2, rfl⟩ := hpost
  have hbad : (St.deed room ⟨[], [], []⟩ 6 0 (.int 0)).2 = false := rfl
  have hdr2 : (St.deed room ⟨[], [], []⟩ 6 0 (.int 0)).1.dr = [] := rfl
  have hsv3 := hsv2 hbad
  subst hsv3
  rw [hdr2] at hch2
  rw [hbad]
  have NB : News h₀ L hA ((L + 1 + 1, oC) :: (L + 1 + 1 + 1, oP) :: (L + 1 + 1 + 1 + 1, oO) :: (Do, listOf ovs.toArray cO) :: (Dp, listOf (tlp.map fun p => Value.ref p.1).toArray cD) :: (S, listOf nvs.toArray cS) :: (D, oD) :: (cl2 ++ (chl2 ++ (tlp ++ Z)))) := news_sub NA (by
    intro q hq
    simp only [List.mem_cons, List.mem_append] at hq ⊢
    rcases hq with hq | hq | hq | hq | hq | hq | hq | hq | hq | hq
    · exact .inr (.inl hq)
    · exact .inr (.inr (.inl hq))
    · exact .inr (.inr (.inr (.inl hq)))
    · exact .inr (.inr (.inr (.inr (.inl hq))))
    · exact .inr (.inr (.inr (.inr (.inr (.inl hq)))))
    · exact .inr (.inr (.inr (.inr (.inr (.inr (.inl hq))))))
    · exact .inr (.inr (.inr (.inr (.inr (.inr (.inr (.inl hq)))))))
    · exact .inl (.inl hq)
    · exact .inl (.inr hq)
    · exact .inr (.inr (.inr (.inr (.inr (.inr (.inr (.inr hq))))))))
  clear N9 NA F9
  k_steps
  rename Fr h₀ L _ _ => FC
  rename News h₀ L _ _ => NC
  exact hk _ _ cl2 chl2 FC NC hch2 fun z hz q hq => apA z (List.mem_append_right _ hz) q hq
end
end Mine
end
section
open PySem PySem.W PyProof.Rows PySem.Calls PyProof.V
set_option Elab.async false
set_option maxRecDepth 100000
set_option maxHeartbeats 2000000
set_option linter.unusedVariables false
set_option linter.unusedSimpArgs false
namespace Mine
local macro_rules | `(tactic| walk_at "pad 0") => `(tactic| fail)
local macro_rules | `(tactic| walk_at "pad 1") => `(tactic| fail)
local macro_rules | `(tactic| walk_at "pad 2") => `(tactic| fail)
local macro_rules | `(tactic| walk_at "pad 3") => `(tactic| fail)
local macro_rules | `(tactic| walk_at "pad 4") => `(tactic| fail)
local macro_rules | `(tactic| walk_at "pad 5") => `(tactic| fail)
local macro_rules | `(tactic| walk_at "pad 6") => `(tactic| fail)
local macro_rules | `(tactic| walk_at "pad 7") => `(tactic| fail)
local macro_rules | `(tactic| walk_at "pad 8") => `(tactic| fail)
local macro_rules | `(tactic| walk_at "pad 9") => `(tactic| fail)
theorem anew_RRR5 : True := by
  w_top off
  trivial
local macro_rules | `(tactic| k_all) => `(tactic| assumption)
local macro_rules | `(tactic| dict_fit) => `(tactic| omega)
local macro_rules | `(tactic| k_room) => `(tactic| ktr_room)
local macro_rules | `(tactic| walk_at "call ref") => `(tactic| ((with_reducible show wpAny _ _ (call (Value.ref _) _ _) _ _ _); refine halt ?_))
local macro_rules | `(tactic| walk_at "eval Name") => `(tactic| (k_here; k_dflt (refine' nameX_L ?kA1 ?kA2 ?_ ?kA3 ?kA4 ?kA5; (case kA3 => rfl); (case kA4 => rfl); (case kA5 => decide); (case kA1 => k_asm); (case kA2 => ((try dsimp only); (repeat (rw [if_neg (by decide)])); assumption)); k_whole)))
local macro_rules | `(tactic| walk_at "eval ListComp") => `(tactic| ((with_reducible show wpAny _ _ (eval (Expr.ListComp _ _ _ _) _) _ _ _); refine halt ?_))
local macro_rules | `(tactic| walk_at "CompSrc") => `(tactic| ((with_reducible show LCg.CompSrc _ _ _ _ _ _ _ _ _ _ _ _ _ _); refine halt ?_))
local macro_rules | `(tactic| walk_at "CompEnd") => `(tactic| ((with_reducible show LCg.CompEnd _ _ _ _ _ _ _ _ _ _ _ _ _ _); refine halt ?_))
local macro_rules | `(tactic| walk_at "compareOp NotEq ref ref") => `(tactic| ((with_reducible show wpAny _ _ (compareOp _ (Value.ref _) (Value.ref _)) _ _ _); refine halt ?_))
local macro_rules | `(tactic| walk_at "call builtin:sorted") => `(tactic| ((with_reducible show wpAny _ _ (call (Value.builtin "sorted") [Value.ref _]) _ _ _); refine halt ?_))
local macro_rules | `(tactic| walk_at "subscriptTail Name Slice ref ref") => `(tactic| ((with_reducible show wpAny _ _ (subscriptTail _ _ (Value.ref _) (Value.ref _)) _ _ _); refine halt ?_))
def datR (r : List Int) : PySem.W.Dat := .list (r.map .int)
theorem ints_dat {news : List (Addr × Obj)} : ∀ {vs : List Value} {r : List Int}, IntsAre vs r → DatAll news vs (r.map PySem.W.Dat.int)
  | _, _, .nil => .nil
  | _, _, .cons n t h => .cons (.int n t) (ints_dat h)
theorem Rows.dat {l : List (Addr × Obj)} {rs : List (List Int)} (h : Rows l rs) : ∀ (news : List (Addr × Obj)), (∀ q ∈ l, q ∈ news) → DatAll news (l.map fun p => Value.ref p.1) (rs.map datR) := by
  induction h with
  | nil => exact fun _ _ => .nil
  | cons T vs c r h h' ih => exact fun news hs => .cons (.list (hs _ (.head _)) (ints_dat h)) (ih news fun q hq => hs q (.tail _ hq))
theorem datR_ok (rs : List (List Int)) : ∀ d ∈ rs.map datR, kqdOk 8 d = true := by
  intro d hd
  obtain ⟨r, -, rfl⟩ := List.mem_map.mp hd
  show (r.map PySem.W.Dat.int).all (kqdOk 7) = true
  rw [List.all_eq_true]
  intro x hx
  obtain ⟨n, -, rfl⟩ := List.mem_map.mp hx
  rfl
section
variable {prog : Program} {w : World} {p : Program} {loose : List Str} {mean : ExcName → Option Value} {mg mb : Str → Option Value}
theorem rowE {dp un : Nat} {gd : Option (List Code)} {a : Addr} {ccd : Value} {A₀ : Around} {base h₀ : Heap} {L S Do sen : Addr} {mm : Str → Option Value} {s : Shared} {Q : Flow → Shared → Prop} {E : Value → Shared → Prop} {nvs ovs : List Value} {nks ord : List Int} {cS cO cs : Nat} {oO : Obj} {sl Z : List (Addr × Obj)} {srows : List (List Int)} {more : List Stmt}
    (B : Below A₀ base [] h₀) (F : Fr h₀ L s.heap mm) (X : (K w.params).In h₀) (N : News h₀ L s.heap ((L + 1 + 1 + 1 + 1, oO) :: (Do, listOf ovs.toArray cO) :: (S, listOf nvs.toArray cS) :: (sen, listOf (sl.map fun p => Value.ref p.1).toArray cs) :: (sl ++ Z))) (T : Top p loose mean mg mb h₀) (hC : CodeHd base 905 901) (hoO : oO.data = .cell (some (.ref Do))) (hk4 : nks.length ≤ 4) (hnI : IntsAre nvs nks) (hoI : IntsAre ovs ord) (hol : ord.length = nks.length) (hR : Rows sl srows) (hsl : srows.length = nks.length)
    (hsr : ∀ (i : Nat) r, srows[i]? = some r → r.Pairwise (· ≤ ·) ∧ r.Perm (ord.drop i))
    (m1 : mm (Str.ofString "names") = some (.ref S)) (m2 : mm (Str.ofString "seen") = some (.ref sen)) (hd : dp + 200 < recursionLimit) (hu : un + 1600 < cLine)
    (hk : ∀ (hh : Heap) (tk : Nat), Fr h₀ L hh mm → News h₀ L hh ((L + 1 + 1 + 1 + 1, oO) :: (Do, listOf ovs.toArray cO) :: (S, listOf nvs.toArray cS) :: (sen, listOf (sl.map fun p => Value.ref p.1).toArray cs) :: (sl ++ Z)) →
      wpAny (model prog w) (ktrTop dp un gd (Str.ofString "law") lscope L a ccd (lcells L) []) (execs more (envX (Str.ofString "law") lscope L a ccd (lcells L))) Q E { s with heap := hh, toks := tk }) :
    wpAny (model prog w) (ktrTop dp un gd (Str.ofString "law") lscope L a ccd (lcells L) []) (execs (rb 4 :: more) (envX (Str.ofString "law") lscope L a ccd (lcells L))) Q E s := by
  have key : (PySem.Challenge.rw_fc0033_01, Mine.K) = (PySem.Challenge.rw_fc0033_01, Mine.K) := by k_fill; rfl
  clear key
  have hnvl := hnI.length
  have hovl := hoI.length
  change wpAny _ _ (execs (Stmt.If _ _ _ _ :: _) (envX _ ⟨_, _, _, _, _⟩ _ _ _ [_, _, _, _, _])) _ _ _
  k_steps
  refine unhalt ?_
  refine LCg.ListComp_U (F₀ := F) (by with_unfolding_all rfl) (by decide) (by rfl) (by decide) (by rfl) ?_
  k_steps
  refine unhalt ?_
  rename IsRange _ _ _ _ _ _ _ _ => hRg
  rename Fr h₀ L _ _ => F1
  rename News h₀ L _ _ => N1
  have hns : Builtin.Range.rangeSize 0 (nks.length : Int) 1 = ((nks.length : Nat) : Int) := by
    unfold Builtin.Range.rangeSize
    rw [if_pos (by decide)]
    split
    · rw [Int.ediv_one]; omega
    · omega
  refine LCg.CompSrc.range (by rfl) F1 N1 hRg (small_one (by decide) (by decide) (by omega) (by omega)) hns (by rw [PySem.sizeLine_eq]; omega) ?_
  intro g'
  refine rest_ind (fun j ys nw => ∃ (rl : List (Addr × Obj)) (rows : List (List Int)), Rows rl rows ∧ rows.length = j ∧ (∀ (i : Nat) r, rows[i]? = some r → r.Pairwise (· ≤ ·) ∧ r.Perm (ord.drop i)) ∧ ys = rl.map (fun p => Value.ref p.1) ∧ nw = (L + 1 + 1 + 1 + 1, oO) :: (Do, listOf ovs.toArray cO) :: (S, listOf nvs.toArray cS) :: (sen, listOf (sl.map fun p => Value.ref p.1).toArray cs) :: (rl ++ (sl ++ Z))) ?_ ?_ _ 0 [] _ (Nat.zero_add _) ⟨[], [], .nil, rfl, (fun i r h => nomatch h), rfl, rfl⟩
  · rintro j ys nw hj ⟨rl, rows, hRl, hrl, hrr, rfl, rfl⟩ v Ia oI C oC3 D m2 h3 tk3 E3 ⟨tj, rfl⟩ hC3 hm3 F3 N3 off3 ne3
    have off' := off3.mem
    k_steps
    refine unhalt ?_
    rename Fr h₀ L _ _ => F6
    rename News h₀ L _ _ => N6
    dsimp only at F6 N6 ⊢
    refine kmk_slice_ints (s := { s with heap := h3, toks := tk3 }) F6 N6 (kso_isList (vs := ovs) (n := cO) N6 (.tail _ (.tail _ (.tail _ (.tail _ (.head _))))) rfl) (IsPart.int _ _) IsPart.none hoI (kmk_from hoI (by omega)) (List.length_drop ..) ?_ (by rfl) (by kmk_pure) (by rw [List.size_toArray, PySem.sizeLine_eq]; omega)
    intro D7 ws7 h7 F7 N7 l7 hI7 _ _
    k_steps
    refine unhalt ?_
    rename Fr h₀ L _ _ => F7
    rename News h₀ L _ _ => N7
    rename IntsAre _ (List.drop _ _) => hI7
    have hdl7 : (List.drop (0 + (j : Int)).toNat ord).length ≤ 4 := by rw [List.length_drop]; omega
    refine kso_sorted F7 N7 (kso_isList (vs := _) (n := 0) N7 (.head _) rfl) hI7 (by omega) ?_
    intro D8 v8 n8 c8 h8 F8 N8 l8 i8 e8 p8 o8 b8
    k_steps
    refine unhalt ?_
    have z2 := l8 _ (.tail _ (.head _))
    have z3 := l8 _ (.tail _ (.tail _ (.head _)))
    have z4 := l8 _ (.tail _ (.tail _ (.tail _ (.head _))))
    have ej : (0 + (j : Int)).toNat = j := by omega
    rw [ej] at p8
    refine ⟨h8, _, (L + 1 + 1 + 1 + 1, oO) :: (Do, listOf ovs.toArray cO) :: (S, listOf nvs.toArray cS) :: (sen, listOf (sl.map fun p => Value.ref p.1).toArray cs) :: ((rl ++ [(D8, listOf v8.toArray c8)]) ++ (sl ++ Z)), rfl, F8, news_sub N8 ?_, LCg.Off3.of ?_, trivial, rl ++ [(D8, listOf v8.toArray c8)], rows ++ [n8], hRl.snoc _ _ _ _ i8, by rw [List.length_append, hrl]; rfl, ?_, by rw [List.map_append]; rfl, rfl⟩
    · intro q hq
      simp only [List.mem_cons, List.mem_append, List.not_mem_nil, or_false] at hq ⊢
      rcases hq with hq | hq | hq | hq | hq | hq | hq | (hq | hq) | hq
      · exact .inr (.inr (.inl hq))
      · exact .inr (.inr (.inr (.inl hq)))
      · exact .inr (.inr (.inr (.inr (.inl hq))))
      · exact .inr (.inr (.inr (.inr (.inr (.inl hq)))))
      · exact .inr (.inr (.inr (.inr (.inr (.inr (.inl hq))))))
      · exact .inr (.inr (.inr (.inr (.inr (.inr (.inr (.inl hq)))))))
      · exact .inr (.inr (.inr (.inr (.inr (.inr (.inr (.inr (.inl hq))))))))
      · exact .inr (.inr (.inr (.inr (.inr (.inr (.inr (.inr (.inr (.inl hq)))))))))
      · exact .inl hq
      · exact .inr (.inr (.inr (.inr (.inr (.inr (.inr (.inr (.inr (.inr hq)))))))))
    · intro q hq
      have hin : q.1 = D8 ∨ q ∈ (L + 1 + 1 + 1 + 1, oO) :: (Do, listOf ovs.toArray cO) :: (S, listOf nvs.toArray cS) :: (sen, listOf (sl.map fun p => Value.ref p.1).toArray cs) :: (rl ++ (sl ++ Z)) := by
        simp only [List.mem_cons, List.mem_append, List.not_mem_nil, or_false] at hq ⊢
        rcases hq with hq | hq | hq | hq | (hq | hq) | hq
        · exact .inr (.inl hq)
        · exact .inr (.inr (.inl hq))
        · exact .inr (.inr (.inr (.inl hq)))
        · exact .inr (.inr (.inr (.inr (.inl hq))))
        · exact .inr (.inr (.inr (.inr (.inr (.inl hq)))))
        · exact .inl (by rw [hq])
        · exact .inr (.inr (.inr (.inr (.inr (.inr hq)))))
      rcases hin with e | e
      · rw [e]
        exact ⟨Ne.symm (Nat.ne_of_lt z2), Ne.symm (Nat.ne_of_lt z3), Ne.symm (Nat.ne_of_lt z4)⟩
      · exact off' q e
    · intro i r hr
      rcases Nat.lt_or_ge i rows.length with hi | hi
      · exact hrr i r (by rw [List.getElem?_append_left hi] at hr; exact hr)
      · rw [List.getElem?_append_right hi] at hr
        have hi0 : i = j := by
          have := (List.getElem?_eq_some_iff.mp hr).1
          simp only [List.length_singleton] at this
          omega
        subst hi0
        rw [hrl, Nat.sub_self] at hr
        obtain rfl := Option.some.inj hr
        exact ⟨o8, p8⟩
  · rintro ys nw ⟨rl, rows, hRl, hrl, hrr, rfl, rfl⟩
    intro Dq h' tk' F' N' o1'
    have hrw : srows = rows := by
      apply List.ext_getElem?
      intro i
      rcases Nat.lt_or_ge i nks.length with hi | hi
      · have g1 : srows[i]? = some srows[i] := List.getElem?_eq_getElem (by omega)
        have g2 : rows[i]? = some rows[i] := List.getElem?_eq_getElem (by omega)
        rw [g1, g2]
        obtain ⟨a1, a2⟩ := hsr i _ g1
        obtain ⟨b1, b2⟩ := hrr i _ g2
        rw [sorted_eq (a2.trans b2.symm) a1 b1]
      · rw [List.getElem?_eq_none (by omega), List.getElem?_eq_none (by omega)]
    subst hrw
    k_steps
    refine unhalt ?_
    refine kqd_same N' (.tail _ (.tail _ (.tail _ (.tail _ (.head _))))) rfl rfl (hR.dat sl fun q hq => hq) (fun q hq => .tail _ (.tail _ (.tail _ (.tail _ (.tail _ (List.mem_append_right _ (List.mem_append_left _ hq))))))) (.head _) rfl rfl (hRl.dat rl fun q hq => hq) (fun q hq => .tail _ (.tail _ (.tail _ (.tail _ (.tail _ (List.mem_append_left _ hq)))))) (datR_ok _) (by exact (show un + 64 < cLine by omega)) ?_
    have N9 : News h₀ L h' ((L + 1 + 1 + 1 + 1, oO) :: (Do, listOf ovs.toArray cO) :: (S, listOf nvs.toArray cS) :: (sen, listOf (sl.map fun p => Value.ref p.1).toArray cs) :: (sl ++ Z)) := news_sub N' (by
      intro q hq
      simp only [List.mem_cons, List.mem_append] at hq ⊢
      rcases hq with hq | hq | hq | hq | hq
      · exact .inr (.inl hq)
      · exact .inr (.inr (.inl hq))
      · exact .inr (.inr (.inr (.inl hq)))
      · exact .inr (.inr (.inr (.inr (.inl hq))))
      · exact .inr (.inr (.inr (.inr (.inr (.inr hq))))))
    clear N' N1
    k_steps
    rename Fr h₀ L _ _ => FC
    rename News h₀ L _ _ => NC
    exact hk _ _ FC NC
end
end Mine
end
section
open PySem PySem.W PyProof.Rows PySem.Calls PyProof.V
set_option Elab.async false
set_option maxRecDepth 100000
set_option maxHeartbeats 2000000
set_option linter.unusedVariables false
set_option linter.unusedSimpArgs false
namespace Mine
theorem anew_RRR6 : True := by
  w_top off
  trivial
local macro_rules | `(tactic| k_all) => `(tactic| assumption)
local macro_rules | `(tactic| dict_fit) => `(tactic| omega)
local macro_rules | `(tactic| k_room) => `(tactic| ktr_room)
local macro_rules | `(tactic| walk_at "call ref") => `(tactic| ((with_reducible show wpAny _ _ (call (Value.ref _) _ _) _ _ _); refine halt ?_))
local macro_rules | `(tactic| walk_at "eval Name") => `(tactic| (k_here; k_dflt (refine' nameX_L ?kA1 ?kA2 ?_ ?kA3 ?kA4 ?kA5; (case kA3 => rfl); (case kA4 => rfl); (case kA5 => decide); (case kA1 => k_asm); (case kA2 => ((try dsimp only); (repeat (rw [if_neg (by decide)])); assumption)); k_whole)))
local macro_rules | `(tactic| walk_at "call type:tuple") => `(tactic| ((with_reducible show wpAny _ _ (call (Value.type "tuple") [Value.ref _]) _ _ _); refine halt ?_))
local macro_rules | `(tactic| walk_at "call builtin:list.append") => `(tactic| ((with_reducible show wpAny _ _ (call (Value.builtin "list.append") [Value.ref _, _]) _ _ _); refine halt ?_))
section
variable {prog : Program} {w : World} {p : Program} {loose : List Str} {mean : ExcName → Option Value} {mg mb : Str → Option Value}
theorem rowF {dp un : Nat} {gd : Option (List Code)} {a : Addr} {ccd : Value} {A₀ : Around} {base h₀ : Heap} {L Do rd : Addr} {mm : Str → Option Value} {s : Shared} {Q : Flow → Shared → Prop} {E : Value → Shared → Prop} {ovs rvs : List Value} {ord : List Int} {cO cR : Nat} {oO : Obj} {Z : List (Addr × Obj)} {more : List Stmt}
    (B : Below A₀ base [] h₀) (F : Fr h₀ L s.heap mm) (X : (K w.params).In h₀) (N : News h₀ L s.heap ((rd, listOf rvs.toArray cR) :: (L + 1 + 1 + 1 + 1, oO) :: (Do, listOf ovs.toArray cO) :: Z)) (T : Top p loose mean mg mb h₀) (hC : CodeHd base 905 901) (hoO : oO.data = .cell (some (.ref Do))) (hoI : IntsAre ovs ord) (hol : ord.length ≤ 4) (hrl : rvs.length ≤ 100)
    (hap : ∀ q ∈ (L + 1 + 1 + 1 + 1, oO) :: (Do, listOf ovs.toArray cO) :: Z, q.1 ≠ rd)
    (m1 : mm (Str.ofString "orders") = some (.ref rd)) (hd : dp + 200 < recursionLimit) (hu : un + 1600 < cLine)
    (hk : ∀ (hh : Heap) (tk : Nat) (T' : Addr) (cR' : Nat), Fr h₀ L hh mm → News h₀ L hh ((rd, listOf (rvs ++ [Value.ref T']).toArray cR') :: (T', { cls := .type "tuple", data := .seq ovs.toArray 0 }) :: (L + 1 + 1 + 1 + 1, oO) :: (Do, listOf ovs.toArray cO) :: Z) → (∀ q ∈ (rd, listOf rvs.toArray cR) :: (L + 1 + 1 + 1 + 1, oO) :: (Do, listOf ovs.toArray cO) :: Z, @LT.lt Nat _ q.1 T') →
      wpAny (model prog w) (ktrTop dp un gd (Str.ofString "law") lscope L a ccd (lcells L) []) (execs more (envX (Str.ofString "law") lscope L a ccd (lcells L))) Q E { s with heap := hh, toks := tk }) :
    wpAny (model prog w) (ktrTop dp un gd (Str.ofString "law") lscope L a ccd (lcells L) []) (execs (rb 5 :: more) (envX (Str.ofString "law") lscope L a ccd (lcells L))) Q E s := by
  have key : (PySem.Challenge.rw_fc0033_01, Mine.K) = (PySem.Challenge.rw_fc0033_01, Mine.K) := by k_fill; rfl
  clear key
  have hovl := hoI.length
  change wpAny _ _ (execs (Stmt.Expr _ _ :: _) (envX _ ⟨_, _, _, _, _⟩ _ _ _ [_, _, _, _, _])) _ _ _
  k_steps
  refine unhalt ?_
  rename Fr h₀ L _ _ => F0
  rename News h₀ L _ _ => N0
  refine call_tuple_list (kso_isList (vs := ovs) (n := cO) N0 (.tail _ (.tail _ (.head _))) rfl) (fun h1 hk1 => ?_) (by rw [List.size_toArray, PySem.sizeLine_eq]; omega)
  have F1 := F0.keeps hk1
  have N1 := N0.grown hk1
  have lt1 : ∀ q ∈ (rd, listOf rvs.toArray cR) :: (L + 1 + 1 + 1 + 1, oO) :: (Do, listOf ovs.toArray cO) :: Z, @LT.lt Nat _ q.1 h1.objs.size := fun q hq => Heap.lt_size (N1 q hq).1
  have N2 := N1.push F1 { cls := .type "tuple", data := .seq ovs.toArray }
  have F2 := F1.push { cls := .type "tuple", data := .seq ovs.toArray }
  generalize Heap.push h1 _ = h2 at N2 F2 ⊢
  generalize h1.objs.size = T1 at N2 lt1 ⊢
  clear N1 F1 hk1 N0 F0
  have N3 : News h₀ L h2 ((rd, listOf rvs.toArray cR) :: (T1, { cls := .type "tuple", data := .seq ovs.toArray 0 }) :: (L + 1 + 1 + 1 + 1, oO) :: (Do, listOf ovs.toArray cO) :: Z) := news_sub N2 (by
    intro q hq
    simp only [List.mem_cons] at hq ⊢
    rcases hq with hq | hq | hq | hq | hq
    · exact .inr (.inl hq)
    · exact .inl hq
    · exact .inr (.inr (.inl hq))
    · exact .inr (.inr (.inr (.inl hq)))
    · exact .inr (.inr (.inr (.inr hq))))
  clear N2
  k_steps
  refine unhalt ?_
  refine app_any F2 N3 (.head ?_) (by omega) ?_
  · intro q hq
    rcases List.mem_cons.mp hq with rfl | hq
    · exact Ne.symm (Nat.ne_of_lt (lt1 _ (.head _)))
    · exact hap q hq
  intro h3 F3 N4
  clear N3 F2
  k_steps
  rename Fr h₀ L _ _ => FC
  rename News h₀ L _ _ => NC
  exact hk _ _ T1 _ FC NC lt1
end
end Mine
end
section
open PySem PySem.W PyProof.Rows PySem.Calls PyProof.V
set_option Elab.async false
set_option maxRecDepth 100000
set_option maxHeartbeats 2000000
set_option linter.unusedVariables false
set_option linter.unusedSimpArgs false
namespace Mine
section
variable {α : Type} {a1 a2 a3 a4 a5 a6 a7 a8 a9 a10 a11 a12 a13 a14 a15 : α} {l1 l2 l3 l4 l5 l6 : List α}
theorem re1 : ∀ q ∈ a1 :: a2 :: a3 :: a4 :: a5 :: a6 :: a7 :: a8 :: (l1 ++ (a9 :: a10 :: a11 :: a12 :: a13 :: l2)), q ∈ a1 :: a2 :: a3 :: a4 :: a5 :: a6 :: a7 :: a8 :: a9 :: a10 :: a11 :: a12 :: a13 :: (l1 ++ l2) := by
  intro q hq; simp only [List.mem_cons, List.mem_append] at hq ⊢; grind
theorem re2 : ∀ q ∈ a1 :: a11 :: (l3 ++ (l4 ++ (a2 :: a3 :: a4 :: a5 :: a6 :: a9 :: a10 :: a12 :: a13 :: (l1 ++ l2)))), q ∈ a1 :: a2 :: a3 :: a4 :: a5 :: a6 :: (l3 ++ (l4 ++ (l1 ++ (a9 :: a10 :: a11 :: a12 :: a13 :: l2)))) := by
  intro q hq; simp only [List.mem_cons, List.mem_append] at hq ⊢; grind
theorem re2' : ∀ q ∈ a1 :: a11 :: (a2 :: a3 :: a4 :: a5 :: a6 :: a9 :: a10 :: a12 :: a13 :: (l1 ++ l2)), q ∈ a1 :: a2 :: a3 :: a4 :: a5 :: a6 :: (l1 ++ (a9 :: a10 :: a11 :: a12 :: a13 :: l2)) := by
  intro q hq; simp only [List.mem_cons, List.mem_append] at hq ⊢; grind
theorem re3 : ∀ q ∈ a10 :: a7 :: (l5 ++ (a1 :: a11 :: (l3 ++ (l4 ++ (l6 ++ (a2 :: a3 :: a4 :: a5 :: a6 :: a9 :: a12 :: a13 :: (l1 ++ l2))))))), q ∈ a7 :: a1 :: a11 :: (l3 ++ (l4 ++ (l5 ++ (l6 ++ (a2 :: a3 :: a4 :: a5 :: a6 :: a9 :: a10 :: a12 :: a13 :: (l1 ++ l2)))))) := by
  intro q hq; simp only [List.mem_cons, List.mem_append] at hq ⊢; grind
theorem re4 : ∀ q ∈ a1 :: a9 :: a10 :: a8 :: a7 :: a11 :: a12 :: (l3 ++ (l4 ++ (l5 ++ (a2 :: a3 :: a4 :: a5 :: a6 :: a13 :: (l6 ++ (l1 ++ l2)))))), q ∈ a8 :: a10 :: a7 :: (l5 ++ (a1 :: a11 :: (l3 ++ (l4 ++ (l6 ++ (a2 :: a3 :: a4 :: a5 :: a6 :: a9 :: a12 :: a13 :: (l1 ++ l2))))))) := by
  intro q hq; simp only [List.mem_cons, List.mem_append] at hq ⊢; grind
theorem re5 (h1 : a14 ∈ l4) (h2 : a15 ∈ l4) : ∀ q ∈ a10 :: a8 :: a11 :: a15 :: (l6 ++ (a2 :: a14 :: a3 :: a4 :: a5 :: a6 :: a1 :: a9 :: a12 :: a13 :: (l1 ++ l2))), q ∈ a1 :: a9 :: a10 :: a8 :: a7 :: a11 :: a12 :: (l3 ++ (l4 ++ (l5 ++ (a2 :: a3 :: a4 :: a5 :: a6 :: a13 :: (l6 ++ (l1 ++ l2)))))) := by
  intro q hq; simp only [List.mem_cons, List.mem_append] at hq ⊢; grind
theorem re6 : ∀ q ∈ a13 :: a10 :: a8 :: (a2 :: a14 :: a15 :: a3 :: a4 :: a5 :: a6 :: a1 :: a9 :: a11 :: a12 :: (l1 ++ l2)), q ∈ a10 :: a8 :: a11 :: a15 :: (l6 ++ (a2 :: a14 :: a3 :: a4 :: a5 :: a6 :: a1 :: a9 :: a12 :: a13 :: (l1 ++ l2))) := by
  intro q hq; simp only [List.mem_cons, List.mem_append] at hq ⊢; grind
theorem re7 : ∀ q ∈ a2 :: a14 :: a15 :: a3 :: a4 :: a5 :: a6 :: a1 :: a9 :: a10 :: a11 :: a12 :: a13 :: a7 :: (l1 ++ l2), q ∈ a13 :: a7 :: a10 :: a8 :: (a2 :: a14 :: a15 :: a3 :: a4 :: a5 :: a6 :: a1 :: a9 :: a11 :: a12 :: (l1 ++ l2)) := by
  intro q hq; simp only [List.mem_cons, List.mem_append] at hq ⊢; grind
end
section
variable {prog : Program} {w : World} {p : Program} {loose : List Str} {mean : ExcName → Option Value} {mg mb : Str → Option Value}
theorem row_body {dp un : Nat} {gd : Option (List Code)} {a : Addr} {ccd : Value} {A₀ : Around} {base h₀ : Heap} {L S D : Addr} {mm : Str → Option Value} {s : Shared} {Q : Flow → Shared → Prop} {E : Value → Shared → Prop} {drs dls sen cc Tr rd : Addr} {nd nr nsv cr cS cR : Nat} {tr : Tok} {dvs sv rv nvs rvs : List Value} {fs ns nks : List Int} {nN : Nat} {oDe oC oc oP oO oD : Obj} {cvs : Array Value} {ct : Tok} {vO : Option Value} {kvs : List (Int × Value)} {tl Z : List (Addr × Obj)} {more : List Stmt}
    (B : Below A₀ base [] h₀) (F : Fr h₀ L s.heap mm) (X : (K w.params).In h₀) (N : News h₀ L s.heap ((901, tabObj (chTab cc)) :: (cc, oc) :: (sen, listOf sv.toArray nsv) :: (drs, listOf dvs.toArray nr) :: (dls, listOf (tl.map fun p => Value.ref p.1).toArray nd) :: (Tr, listOf rv.toArray cr) :: (L + 1, oDe) :: (L + 1 + 1, oC) :: (L + 1 + 1 + 1, oP) :: (L + 1 + 1 + 1 + 1, oO) :: (S, listOf nvs.toArray cS) :: (D, oD) :: (rd, listOf rvs.toArray cR) :: (tl ++ Z))) (T : Top p loose mean mg mb h₀) (XB : (K w.params).In base) (TB : Top p loose mean mg mb base) (hC : CodeHd base 905 901) (hDe : oDe.data = .cell (some (.ref dls))) {vC : Value} (hoC : oC.data = .cell (some vC)) (hoO : oO.data = .cell vO) (hoP : oP.data = .cell (some (.ref D)))
    (hoc : oc.data = .fields cvs) (hct : cvs[1]? = some (.str (Str.ofString "_law_choice.<locals>.chosen") ct)) (hT : Tups tl (deedsOf ns nN)) (hdv : IntsAre dvs (drawsOf ns nN)) (hn8 : nN ≤ 8) (hfs : IntsAre rv fs) (hsv : sv.length ≤ 80) (hrv : rvs.length ≤ 100)
    (hIs : oD.IsDictOf (intKind prog w) kvs) (SF : St) (hSF : SF = runD (1 + nxt ns 0 4) ⟨[], [], drawsOf ns nN⟩ (deedsOf ns nN)) (hfl : FlatPairs PyData.int kvs (encD SF.kv)) (hkn : SF.ks.Nodup) (hkp : (SF.kv.map (·.1)).Perm SF.ks) (hk4 : SF.ks.length ≤ 4) (hvi : ∀ k pd, look SF.kv k = some pd → ∃ v : Int, pd = .int v) (hfsl : fs.length = SF.ks.length) (hf0 : ∀ d ∈ fs, 0 ≤ d) (hnI : IntsAre nvs nks) (hnp : nks.Perm SF.ks) (hns : nks.Pairwise (· ≤ ·))
    (h901 : @LT.lt Nat _ 901 L) (e1 : @LT.lt Nat _ (L + 1 + 1 + 1 + 1 + 1) dls) (e2 : @LT.lt Nat _ dls drs) (e3 : ∀ q ∈ tl, @LT.lt Nat _ drs q.1 ∧ @LT.lt Nat _ q.1 sen) (e6 : @LT.lt Nat _ drs sen) (e4 : @LT.lt Nat _ sen cc) (e7 : @LT.lt Nat _ cc D) (e8 : @LT.lt Nat _ D S) (e9 : @LT.lt Nat _ S rd)
    (hTr : @Ne Nat Tr 901 ∧ @Ne Nat Tr cc ∧ @Ne Nat Tr drs ∧ @Ne Nat Tr dls ∧ @Ne Nat Tr sen ∧ @Ne Nat Tr (L + 1) ∧ @Ne Nat Tr (L + 1 + 1) ∧ @Ne Nat Tr (L + 1 + 1 + 1) ∧ @Ne Nat Tr (L + 1 + 1 + 1 + 1) ∧ @Ne Nat Tr S ∧ @Ne Nat Tr D ∧ @Ne Nat Tr rd) (hTrt : ∀ q ∈ tl, @Ne Nat q.1 Tr)
    (hZ : ∀ q ∈ Z, (@Ne Nat q.1 901 ∧ @Ne Nat q.1 cc ∧ @Ne Nat q.1 sen ∧ @Ne Nat q.1 drs ∧ @Ne Nat q.1 dls ∧ @Ne Nat q.1 Tr ∧ @Ne Nat q.1 (L + 1 + 1)) ∧ (∀ x ∈ tl, @Ne Nat q.1 x.1) ∧ @Ne Nat q.1 (L + 1 + 1 + 1 + 1) ∧ @Ne Nat q.1 rd)
    (m1 : mm (Str.ofString "draws") = some (.ref drs)) (m2 : mm (Str.ofString "room") = some (.int (1 + nxt ns 0 4) tr)) (m3 : mm (Str.ofString "row") = some (.ref Tr)) (m4 : mm (Str.ofString "seen") = some (.ref sen)) (m5 : mm (Str.ofString "names") = some (.ref S)) (m6 : mm (Str.ofString "orders") = some (.ref rd)) (hd : dp + 200 < recursionLimit) (hu : un + 1600 < cLine)
    (hk : ∀ (hh : Heap) (tk : Nat) (mm' : Str → Option Value) (T' vX : Addr) (cR' nsv' : Nat) (oc' oC' oO' : Obj) (vO' : Option Value) (cvs' : Array Value) (ct' : Tok) (sl' ovs : List Value), Fr h₀ L hh mm' → (∀ y, y ≠ Str.ofString "pairs" → mm' y = mm y) → News h₀ L hh ((901, tabObj (chTab cc)) :: (cc, oc') :: (sen, listOf sl'.toArray nsv') :: (drs, listOf dvs.toArray nr) :: (dls, listOf (tl.map fun p => Value.ref p.1).toArray nd) :: (Tr, listOf rv.toArray cr) :: (L + 1, oDe) :: (L + 1 + 1, oC') :: (L + 1 + 1 + 1, oP) :: (L + 1 + 1 + 1 + 1, oO') :: (S, listOf nvs.toArray cS) :: (D, oD) :: (rd, listOf (rvs ++ [Value.ref T']).toArray cR') :: (T', { cls := .type "tuple", data := .seq ovs.toArray 0 }) :: (tl ++ Z)) → sl'.length ≤ 4 → oc'.data = .fields cvs' → cvs'[1]? = some (.str (Str.ofString "_law_choice.<locals>.chosen") ct') → oC'.data = .cell (some (.ref vX)) → oO'.data = .cell vO' → IntsAre ovs (popKeys SF.ks fs) → (∀ q ∈ Z, @LT.lt Nat _ q.1 T') →
      wpAny (model prog w) (ktrTop dp un gd (Str.ofString "law") lscope L a ccd (lcells L) []) (execs more (envX (Str.ofString "law") lscope L a ccd (lcells L))) Q E { s with heap := hh, toks := tk }) :
    wpAny (model prog w) (ktrTop dp un gd (Str.ofString "law") lscope L a ccd (lcells L) []) (execs (rb 0 :: rb 1 :: rb 2 :: rb 3 :: rb 4 :: rb 5 :: more) (envX (Str.ofString "law") lscope L a ccd (lcells L))) Q E s := by
  obtain ⟨t1, t2, t3, t4, t5, t6, t7, t8, t9, t10, t11, t12⟩ := hTr
  have hr := nxt_range ns 0 4 (by decide)
  have h1D : @LT.lt Nat _ 1 D := by omega
  have hnl := hnp.length_eq
  refine rowA (Z := (L + 1 + 1 + 1, oP) :: (L + 1 + 1 + 1 + 1, oO) :: (S, listOf nvs.toArray cS) :: (D, oD) :: (rd, listOf rvs.toArray cR) :: Z) B F X (news_sub N re1) T XB TB hC hDe hoC hoc hct hT hdv hn8 hfs (by omega) hsv h901 (by omega) e2 e3 e4 ⟨t1, t2, t3, t4, t5, t6, t7⟩ hTrt e6 ?_ m1 m2 m3 m4 hd hu ?_
  · intro q hq
    have small : ∀ z : Nat, (@LT.lt Nat _ (L + 1 + 1) z ∧ @LT.lt Nat _ z dls ∧ @Ne Nat z Tr) ∨ (@LT.lt Nat _ cc z ∧ @Ne Nat z Tr) → (@Ne Nat z 901 ∧ @Ne Nat z cc ∧ @Ne Nat z sen ∧ @Ne Nat z drs ∧ @Ne Nat z dls ∧ @Ne Nat z Tr ∧ @Ne Nat z (L + 1 + 1)) ∧ ∀ x ∈ tl, @Ne Nat z x.1 := by
      intro z hz
      refine ⟨⟨?_, ?_, ?_, ?_, ?_, ?_, ?_⟩, fun x hx => ?_⟩
      · omega
      · omega
      · omega
      · omega
      · omega
      · omega
      · omega
      · have := e3 x hx
        omega
    rcases List.mem_cons.mp hq with rfl | hq
    · exact small _ (.inl ⟨by omega, by omega, Ne.symm t8⟩)
    rcases List.mem_cons.mp hq with rfl | hq
    · exact small _ (.inl ⟨by omega, by omega, Ne.symm t9⟩)
    rcases List.mem_cons.mp hq with rfl | hq
    · exact small _ (.inr ⟨by omega, Ne.symm t10⟩)
    rcases List.mem_cons.mp hq with rfl | hq
    · exact small _ (.inr ⟨by omega, Ne.symm t11⟩)
    rcases List.mem_cons.mp hq with rfl | hq
    · exact small _ (.inr ⟨by omega, Ne.symm t12⟩)
    · exact ⟨(hZ q hq).1, (hZ q hq).2.1⟩
  intro h1 tk1 x y cl chl oC1 F1 N1 hoC1 ox oy hycc hys hxf hfx hci hch ap1
  rw [← hSF] at hci
  obtain ⟨ix, I, hcl⟩ := hci
  refine rowB B F1 X (news_sub N1 re2) T hC hoC1 ox oy hxf hfx I hcl hch hk4 hfsl hf0 hvi hnI hnl (fun z hz q hq => ap1 z hz q (re2' q hq)) m5 hd hu ?_
  intro h2 tk2 Dp cl2 chl2 tlp sl ps srows mm2 F2 mp2 me2 N2 hS ap2 ap3
  have h4Z : ∀ o : Nat, (L + 1 + 1 + 1 + 1, oO) ∈ (L + 1 + 1, oC1) :: (S, listOf nvs.toArray cS) :: ((901, tabObj (chTab cc)) :: (drs, listOf dvs.toArray nr) :: (dls, listOf (tl.map fun p => Value.ref p.1).toArray nd) :: (Tr, listOf rv.toArray cr) :: (L + 1, oDe) :: (L + 1 + 1 + 1, oP) :: (L + 1 + 1 + 1 + 1, oO) :: (D, oD) :: (rd, listOf rvs.toArray cR) :: (tl ++ Z)) := fun _ => by simp
  have hpl := hS.plen
  refine rowC B F2 X (news_sub N2 re3) T hC hoO hS.prs (by omega) ?_ ?_ ?_ mp2 hd hu ?_
  · intro q hq
    rcases List.mem_cons.mp hq with rfl | hq
    · exact (show @Ne Nat _ _ by dsimp only; omega)
    rcases List.mem_cons.mp hq with rfl | hq
    · exact (show @Ne Nat _ _ by dsimp only; omega)
    rcases List.mem_append.mp hq with hq | hq
    · exact Ne.symm (ap2 q (List.mem_append_left _ hq) (L + 1 + 1 + 1 + 1, oO) (by simp))
    rcases List.mem_append.mp hq with hq | hq
    · exact Ne.symm (ap2 q (List.mem_append_right _ hq) (L + 1 + 1 + 1 + 1, oO) (by simp))
    rcases List.mem_append.mp hq with hq | hq
    · exact Ne.symm (ap3 q (.tail _ (List.mem_append_right _ hq)) (L + 1 + 1 + 1 + 1, oO) (h4Z 0))
    rcases List.mem_cons.mp hq with rfl | hq
    · exact (show @Ne Nat _ _ by dsimp only; omega)
    rcases List.mem_cons.mp hq with rfl | hq
    · exact (show @Ne Nat _ _ by dsimp only; omega)
    rcases List.mem_cons.mp hq with rfl | hq
    · exact (show @Ne Nat _ _ by dsimp only; omega)
    rcases List.mem_cons.mp hq with rfl | hq
    · exact (show @Ne Nat _ _ by dsimp only; omega)
    rcases List.mem_cons.mp hq with rfl | hq
    · exact (show @Ne Nat _ _ by dsimp only; omega)
    rcases List.mem_cons.mp hq with rfl | hq
    · exact (show @Ne Nat _ _ by dsimp only; omega)
    rcases List.mem_cons.mp hq with rfl | hq
    · exact (show @Ne Nat _ _ by dsimp only; omega)
    rcases List.mem_cons.mp hq with rfl | hq
    · exact (show @Ne Nat _ _ by dsimp only; omega)
    rcases List.mem_append.mp hq with hq | hq
    · have := e3 q hq
      exact (show @Ne Nat _ _ by omega)
    · exact (hZ q hq).2.2.1
  · exact Ne.symm (ap3 _ (.head _) (L + 1 + 1 + 1 + 1, oO) (h4Z 0))
  · exact fun q hq => Ne.symm (ap3 q (.tail _ (List.mem_append_left _ hq)) (L + 1 + 1 + 1 + 1, oO) (h4Z 0))
  intro h3 tk3 Do oO1 ovs F3 N3 hoO1 hoI apDo
  obtain ⟨kv1, ix1, ks1, hc1, I1, hkl1, hlk1, hh1, hpk1⟩ := hS.st
  have hfd : fs.drop SF.ks.length = [] := List.drop_of_length_le (by omega)
  have hpse : ps.map (·.1) = popKeys SF.ks fs := by rw [← hpk1, hfd]; simp [popKeys]
  rw [hpse] at hoI
  have hrdo : @Ne Nat rd Do := apDo (rd, listOf rvs.toArray cR) (by simp)
  refine rowD (qs := []) B F3 X (news_sub N3 re4) T XB TB hC hoC1 hoO1 hoP hIs hfl h1D ox oy hxf hfx hkn hkp hk4 hfsl hf0 hvi hnI hnp hns hoI (by omega) (by omega) hS ?_ (by rw [me2 _ (by decide)]; exact m5) mp2 hd hu ?_
  · intro z hz q hq
    have hzZ : z ∈ cl2 ++ chl2 := hz
    rcases List.mem_cons.mp hq with rfl | hq
    · exact ap2 z hz _ (.tail _ (.head _))
    rcases List.mem_cons.mp hq with rfl | hq
    · exact ap2 z hz (L + 1 + 1 + 1, oP) (by simp)
    rcases List.mem_cons.mp hq with rfl | hq
    · exact ap2 z hz (L + 1 + 1 + 1 + 1, oO) (by simp)
    rcases List.mem_cons.mp hq with rfl | hq
    · refine Ne.symm (apDo z ?_)
      rcases List.mem_append.mp hz with hz | hz
      · simp [hz]
      · simp [hz]
    rcases List.mem_cons.mp hq with rfl | hq
    · exact ap2 z hz (Dp, listOf (tlp.map fun p => Value.ref p.1).toArray tlp.length) (.head _)
    rcases List.mem_cons.mp hq with rfl | hq
    · exact ap2 z hz (S, listOf nvs.toArray cS) (.tail _ (.tail _ (.head _)))
    rcases List.mem_cons.mp hq with rfl | hq
    · exact ap2 z hz (D, oD) (by simp)
    · refine ap2 z hz q ?_
      simp only [List.mem_cons, List.mem_append] at hq ⊢
      rcases hq with hq | hq | hq | hq | hq | hq | hq | hq | hq | hq
      · exact .inr (.inr (.inr (.inl hq)))
      · exact .inr (.inr (.inr (.inr (.inr (.inl hq)))))
      · exact .inr (.inr (.inr (.inr (.inr (.inr (.inl hq))))))
      · exact .inr (.inr (.inr (.inr (.inr (.inr (.inr (.inl hq)))))))
      · exact .inr (.inr (.inr (.inr (.inr (.inr (.inr (.inr (.inl hq))))))))
      · exact .inr (.inr (.inr (.inr (.inr (.inr (.inr (.inr (.inr (.inl hq)))))))))
      · exact .inr (.inr (.inr (.inr (.inr (.inr (.inr (.inr (.inr (.inr (.inr (.inr (.inr (.inl hq)))))))))))))
      · exact .inr (.inr (.inr (.inr (.inl hq))))
      · exact .inr (.inr (.inr (.inr (.inr (.inr (.inr (.inr (.inr (.inr (.inr (.inr (.inr (.inr (.inl hq))))))))))))))
      · exact .inr (.inr (.inr (.inr (.inr (.inr (.inr (.inr (.inr (.inr (.inr (.inr (.inr (.inr (.inr hq))))))))))))))
  intro h4 tk4 cl3 chl3 F4 N4 hch3 ap4
  obtain ⟨yf, ycc, yc1, yc2, yl, ys⟩ := y
  dsimp only at hycc hys
  subst hycc hys
  obtain ⟨oc', o1', o2', cvs', t', doc, pm, ctv, ls, z1, z2, hoc', hct', hd1, hd2, hLS, rfl⟩ := hch3
  dsimp only at N4 ap4
  have hrl := hS.rows.length
  have hsl := hS.slen
  refine rowE B F4 X (news_sub N4 (re5 (a14 := (ycc, oc')) (a15 := (ys, listOf (sl.map fun p => Value.ref p.1).toArray z2)) (.tail _ (.head _)) (.tail _ (.tail _ (.tail _ (.tail _ (.tail _ (.head _)))))))) T hC hoO1 (by omega) hnI hoI (by rw [popKeys_length]; omega) hS.rows (by omega) hS.srt (by rw [me2 _ (by decide)]; exact m5) (by rw [me2 _ (by decide)]; exact m4) hd hu ?_
  intro h5 tk5 F5 N5
  refine rowF (Do := Do) B F5 X (news_sub N5 re6) T hC hoO1 hoI (by rw [popKeys_length]; omega) hrv ?_ (by rw [me2 _ (by decide)]; exact m6) hd hu ?_
  · intro q hq
    rcases List.mem_cons.mp hq with rfl | hq
    · exact (show @Ne Nat _ _ by dsimp only; omega)
    rcases List.mem_cons.mp hq with rfl | hq
    · exact Ne.symm hrdo
    rcases List.mem_cons.mp hq with rfl | hq
    · exact (show @Ne Nat _ _ by dsimp only; omega)
    rcases List.mem_cons.mp hq with rfl | hq
    · exact (show @Ne Nat _ _ by dsimp only; omega)
    rcases List.mem_cons.mp hq with rfl | hq
    · exact (show @Ne Nat _ _ by dsimp only; omega)
    rcases List.mem_cons.mp hq with rfl | hq
    · exact (show @Ne Nat _ _ by dsimp only; omega)
    rcases List.mem_cons.mp hq with rfl | hq
    · exact (show @Ne Nat _ _ by dsimp only; omega)
    rcases List.mem_cons.mp hq with rfl | hq
    · exact t12
    rcases List.mem_cons.mp hq with rfl | hq
    · exact (show @Ne Nat _ _ by dsimp only; omega)
    rcases List.mem_cons.mp hq with rfl | hq
    · exact (show @Ne Nat _ _ by dsimp only; omega)
    rcases List.mem_cons.mp hq with rfl | hq
    · exact (show @Ne Nat _ _ by dsimp only; omega)
    rcases List.mem_cons.mp hq with rfl | hq
    · exact (show @Ne Nat _ _ by dsimp only; omega)
    rcases List.mem_cons.mp hq with rfl | hq
    · exact (show @Ne Nat _ _ by dsimp only; omega)
    rcases List.mem_append.mp hq with hq | hq
    · have := e3 q hq
      exact (show @Ne Nat _ _ by omega)
    · exact (hZ q hq).2.2.2
  intro h6 tk6 T' cR' F6 N6 lt6
  exact hk h6 tk6 mm2 T' x.c cR' z2 oc' oC1 oO1 _ cvs' t' _ ovs F6 me2 (news_sub N6 re7) (by rw [List.length_map]; omega) hoc' hct' hoC1 hoO1 hoI fun q hq => lt6 q (by simp [hq])
end
end Mine
end
section
open PySem PySem.W PyProof.Rows PySem.Calls PyProof.V
set_option Elab.async false
set_option maxRecDepth 100000
set_option maxHeartbeats 2000000
set_option linter.unusedVariables false
set_option linter.unusedSimpArgs false
namespace Mine
local macro_rules | `(tactic| walk_at "pad 0") => `(tactic| fail)
local macro_rules | `(tactic| walk_at "pad 1") => `(tactic| fail)
local macro_rules | `(tactic| walk_at "pad 2") => `(tactic| fail)
local macro_rules | `(tactic| walk_at "pad 3") => `(tactic| fail)
local macro_rules | `(tactic| walk_at "pad 4") => `(tactic| fail)
local macro_rules | `(tactic| walk_at "pad 5") => `(tactic| fail)
local macro_rules | `(tactic| walk_at "pad 6") => `(tactic| fail)
local macro_rules | `(tactic| walk_at "pad 7") => `(tactic| fail)
local macro_rules | `(tactic| walk_at "pad 8") => `(tactic| fail)
local macro_rules | `(tactic| walk_at "pad 9") => `(tactic| fail)
theorem anew_RRL5 : True := by
  w_top off
  trivial
local macro_rules | `(tactic| k_all) => `(tactic| assumption)
local macro_rules | `(tactic| dict_fit) => `(tactic| omega)
local macro_rules | `(tactic| k_room) => `(tactic| ktr_room)
local macro_rules | `(tactic| walk_at "call ref") => `(tactic| ((with_reducible show wpAny _ _ (call (Value.ref _) _ _) _ _ _); refine halt ?_))
local macro_rules | `(tactic| walk_at "exec For") => `(tactic| ((with_reducible show wpAny _ _ (exec (Stmt.For _ _ _ _ _) _) _ _ _); refine halt ?_))
local macro_rules | `(tactic| walk_at "eval Name") => `(tactic| (k_here; k_dflt (refine' nameX_L ?kA1 ?kA2 ?_ ?kA3 ?kA4 ?kA5; (case kA3 => rfl); (case kA4 => rfl); (case kA5 => decide); (case kA1 => k_asm); (case kA2 => ((try dsimp only); (repeat (rw [if_neg (by decide)])); assumption)); k_whole)))
inductive Tpl : List (Addr × Obj) → List (List Int) → Prop
  | nil : Tpl [] []
  | cons (T : Addr) (vs : List Value) (r : List Int) {l : List (Addr × Obj)} {rs : List (List Int)} (h : IntsAre vs r) (h' : Tpl l rs) : Tpl ((T, { cls := .type "tuple", data := .seq vs.toArray 0 }) :: l) (r :: rs)
theorem Tpl.length {l : List (Addr × Obj)} {rs : List (List Int)} (h : Tpl l rs) : l.length = rs.length := by
  induction h with
  | nil => rfl
  | cons T vs r h h' ih => simp only [List.length_cons, ih]
theorem Tpl.snoc {l : List (Addr × Obj)} {rs : List (List Int)} (h : Tpl l rs) (T : Addr) (vs : List Value) (r : List Int) (hr : IntsAre vs r) : Tpl (l ++ [(T, { cls := .type "tuple", data := .seq vs.toArray 0 })]) (rs ++ [r]) := by
  induction h with
  | nil => exact .cons _ _ _ hr .nil
  | cons T' vs' r' h h' ih => exact .cons _ _ _ h ih
theorem rowsOf_ok : ∀ (k : Nat) (r : List Int), r ∈ rowsOf k → ∀ (i : Nat) d, r[i]? = some d → 0 ≤ d ∧ d < ((k - i : Nat) : Int)
  | 0, r, h => by
    simp only [rowsOf, List.mem_singleton] at h
    subst h
    intro i d hd
    simp at hd
  | k + 1, r, h => by
    simp only [rowsOf, List.mem_flatMap, List.mem_map, List.mem_range] at h
    obtain ⟨j, hj, r', hr', rfl⟩ := h
    intro i d hd
    cases i with
    | zero =>
      obtain rfl : (j : Int) = d := by simpa using hd
      omega
    | succ i =>
      have := rowsOf_ok k r' hr' i d (by simpa using hd)
      rw [show k + 1 - (i + 1) = k - i by omega]
      exact this
theorem rowsOf_len4 : ∀ k, k ≤ 4 → (rowsOf k).length ≤ 24
  | 0, _ => by decide
  | 1, _ => by decide
  | 2, _ => by decide
  | 3, _ => by decide
  | 4, _ => by decide
section
variable {α : Type} {a1 a2 a3 a4 a5 a6 a7 a8 a9 a10 a11 a12 a13 a14 a15 a16 : α} {l1 l2 l3 l4 l5 : List α}
theorem re8 : ∀ q ∈ a2 :: a3 :: a4 :: a5 :: a6 :: a15 :: a7 :: a8 :: a9 :: a10 :: a11 :: a12 :: a13 :: (l3 ++ (a1 :: a14 :: (l1 ++ (l2 ++ (l4 ++ l5))))), q ∈ a1 :: a2 :: a3 :: a4 :: a5 :: a6 :: a7 :: a8 :: a9 :: a10 :: a11 :: a12 :: a13 :: a14 :: (l3 ++ ((l1 ++ a15 :: l2) ++ (l4 ++ l5))) := by
  intro q hq; simp only [List.mem_cons, List.mem_append] at hq ⊢; grind
theorem re9 : ∀ q ∈ a1 :: a2 :: a3 :: a4 :: a5 :: a6 :: a7 :: a8 :: a9 :: a10 :: a11 :: a12 :: a13 :: a14 :: (l3 ++ ((l1 ++ a15 :: l2) ++ ((l4 ++ [a16]) ++ l5))), q ∈ a2 :: a3 :: a4 :: a5 :: a6 :: a15 :: a7 :: a8 :: a9 :: a10 :: a11 :: a12 :: a13 :: a16 :: (l3 ++ (a1 :: a14 :: (l1 ++ (l2 ++ (l4 ++ l5))))) := by
  intro q hq; simp only [List.mem_cons, List.mem_append, List.not_mem_nil, or_false] at hq ⊢; grind
theorem re10 : ∀ q ∈ a13 :: a2 :: a3 :: a4 :: a5 :: a6 :: a7 :: a8 :: a9 :: a10 :: a11 :: a12 :: (l3 ++ (l4 ++ l5)), q ∈ a2 :: a3 :: a4 :: a5 :: a6 :: a7 :: a8 :: a9 :: a10 :: a11 :: a12 :: a13 :: a14 :: (l3 ++ (l1 ++ (l4 ++ l5))) := by
  intro q hq; simp only [List.mem_cons, List.mem_append] at hq ⊢; grind
end
section
variable {prog : Program} {w : World} {p : Program} {loose : List Str} {mean : ExcName → Option Value} {mg mb : Str → Option Value}
theorem law5 {dp un : Nat} {gd : Option (List Code)} {a : Addr} {ccd : Value} {A₀ : Around} {base h₀ : Heap} {L S D : Addr} {mm : Str → Option Value} {s : Shared} {Q : Flow → Shared → Prop} {E : Value → Shared → Prop} {drs dls sen cc : Addr} {nd nr nsv cS : Nat} {tr : Tok} {dvs sv nvs : List Value} {ns nks : List Int} {nN : Nat} {oDe oC oc oP oO oD : Obj} {cvs : Array Value} {ct : Tok} {vO : Option Value} {vC : Value} {kvs : List (Int × Value)} {tl Z0 : List (Addr × Obj)} {more : List Stmt}
    (B : Below A₀ base [] h₀) (F : Fr h₀ L s.heap mm) (X : (K w.params).In h₀) (N : News h₀ L s.heap ((901, tabObj (chTab cc)) :: (cc, oc) :: (sen, listOf sv.toArray nsv) :: (drs, listOf dvs.toArray nr) :: (dls, listOf (tl.map fun p => Value.ref p.1).toArray nd) :: (L + 1, oDe) :: (L + 1 + 1, oC) :: (L + 1 + 1 + 1, oP) :: (L + 1 + 1 + 1 + 1, oO) :: (S, listOf nvs.toArray cS) :: (D, oD) :: (tl ++ Z0))) (T : Top p loose mean mg mb h₀) (XB : (K w.params).In base) (TB : Top p loose mean mg mb base) (hC : CodeHd base 905 901) (hDe : oDe.data = .cell (some (.ref dls))) (hoC : oC.data = .cell (some vC)) (hoO : oO.data = .cell vO) (hoP : oP.data = .cell (some (.ref D)))
    (hoc : oc.data = .fields cvs) (hct : cvs[1]? = some (.str (Str.ofString "_law_choice.<locals>.chosen") ct)) (hT : Tups tl (deedsOf ns nN)) (hdv : IntsAre dvs (drawsOf ns nN)) (hn8 : nN ≤ 8) (hsv : sv.length ≤ 80)
    (hIs : oD.IsDictOf (intKind prog w) kvs) (SF : St) (hSF : SF = runD (1 + nxt ns 0 4) ⟨[], [], drawsOf ns nN⟩ (deedsOf ns nN)) (hfl : FlatPairs PyData.int kvs (encD SF.kv)) (hkn : SF.ks.Nodup) (hkp : (SF.kv.map (·.1)).Perm SF.ks) (hk4 : SF.ks.length ≤ 4) (hvi : ∀ k pd, look SF.kv k = some pd → ∃ v : Int, pd = .int v) (hnI : IntsAre nvs nks) (hnp : nks.Perm SF.ks) (hns : nks.Pairwise (· ≤ ·))
    (h901 : @LT.lt Nat _ 901 L) (e1 : @LT.lt Nat _ (L + 1 + 1 + 1 + 1 + 1) dls) (e2 : @LT.lt Nat _ dls drs) (e3 : ∀ q ∈ tl, @LT.lt Nat _ drs q.1 ∧ @LT.lt Nat _ q.1 sen) (e6 : @LT.lt Nat _ drs sen) (e4 : @LT.lt Nat _ sen cc) (e7 : @LT.lt Nat _ cc D) (e8 : @LT.lt Nat _ D S)
    (hZ0 : ∀ q ∈ Z0, (@Ne Nat q.1 901 ∧ @Ne Nat q.1 cc ∧ @Ne Nat q.1 sen ∧ @Ne Nat q.1 drs ∧ @Ne Nat q.1 dls ∧ @Ne Nat q.1 (L + 1 + 1)) ∧ (∀ x ∈ tl, @Ne Nat q.1 x.1) ∧ @Ne Nat q.1 (L + 1 + 1 + 1 + 1))
    (m1 : mm (Str.ofString "draws") = some (.ref drs)) (m2 : mm (Str.ofString "room") = some (.int (1 + nxt ns 0 4) tr)) (m4 : mm (Str.ofString "seen") = some (.ref sen)) (m5 : mm (Str.ofString "names") = some (.ref S)) (hd : dp + 200 < recursionLimit) (hu : un + 1600 < cLine)
    (hk : ∀ (hh : Heap) (tk : Nat) (mm' : Str → Option Value) (rd : Addr) (cR nsv' : Nat) (oc' oC' oO' : Obj) (vC' : Value) (vO' : Option Value) (cvs' : Array Value) (ct' : Tok) (sv' : List Value) (ot : List (Addr × Obj)), Fr h₀ L hh mm' → (∀ y, y ≠ Str.ofString "pairs" → y ≠ Str.ofString "orders" → y ≠ Str.ofString "row" → mm' y = mm y) → mm' (Str.ofString "orders") = some (.ref rd) → News h₀ L hh ((rd, listOf (ot.map fun p => Value.ref p.1).toArray cR) :: (901, tabObj (chTab cc)) :: (cc, oc') :: (sen, listOf sv'.toArray nsv') :: (drs, listOf dvs.toArray nr) :: (dls, listOf (tl.map fun p => Value.ref p.1).toArray nd) :: (L + 1, oDe) :: (L + 1 + 1, oC') :: (L + 1 + 1 + 1, oP) :: (L + 1 + 1 + 1 + 1, oO') :: (S, listOf nvs.toArray cS) :: (D, oD) :: (tl ++ (ot ++ Z0))) → sv'.length ≤ 80 → oc'.data = .fields cvs' → cvs'[1]? = some (.str (Str.ofString "_law_choice.<locals>.chosen") ct') → oC'.data = .cell (some vC') → oO'.data = .cell vO' → Tpl ot ((rowsOf SF.ks.length).map (popKeys SF.ks)) →
      wpAny (model prog w) (ktrTop dp un gd (Str.ofString "law") lscope L a ccd (lcells L) []) (execs more (envX (Str.ofString "law") lscope L a ccd (lcells L))) Q E { s with heap := hh, toks := tk }) :
    wpAny (model prog w) (ktrTop dp un gd (Str.ofString "law") lscope L a ccd (lcells L) []) (execs (lb 10 :: lb 11 :: more) (envX (Str.ofString "law") lscope L a ccd (lcells L))) Q E s := by
  have key : (PySem.Challenge.rw_fc0033_01, Mine.K) = (PySem.Challenge.rw_fc0033_01, Mine.K) := by k_fill; rfl
  clear key
  have hnvl := hnI.length
  have hnl := hnp.length_eq
  change wpAny _ _ (execs (Stmt.Assign _ _ _ :: Stmt.For _ _ _ _ _ :: _) (envX _ ⟨_, _, _, _, _⟩ _ _ _ [_, _, _, _, _])) _ _ _
  k_steps
  refine unhalt ?_
  refine wpAny_For ?_
  k_steps
  refine unhalt ?_
  rename_i rd _ lx _ F0 N0
  obtain ⟨y1, y2, y3, y4, y5, y6, y7, y8, y9, y10, y11, y12⟩ := lx
  have y12' := ktn_ltOf y12
  obtain ⟨m9, hm9⟩ : ∃ m9, m9 = (fun y => if y = Str.ofString "orders" then some (Value.ref rd) else mm y) := ⟨_, rfl⟩
  rw [← hm9] at F0
  have g0 : m9 (Str.ofString "orders") = some (.ref rd) := by rw [hm9]; rfl
  have gE : ∀ y, y ≠ Str.ofString "orders" → m9 y = mm y := fun y hy => by rw [hm9]; dsimp only; rw [if_neg hy]
  clear hm9
  have hcs : lscope.kind = .function := rfl
  rw [hnl]
  obtain ⟨OLD, hOLD⟩ : ∃ r, r = (rd, listOf ([] : List Value).toArray 0) :: (901, tabObj (chTab cc)) :: (cc, oc) :: (sen, listOf sv.toArray nsv) :: (drs, listOf dvs.toArray nr) :: (dls, listOf (tl.map fun p => Value.ref p.1).toArray nd) :: (L + 1, oDe) :: (L + 1 + 1, oC) :: (L + 1 + 1 + 1, oP) :: (L + 1 + 1 + 1 + 1, oO) :: (S, listOf nvs.toArray cS) :: (D, oD) :: (tl ++ Z0) := ⟨_, rfl⟩
  refine use1 (rows_spec SF.ks.length hk4 _) (pre := []) (rest := OLD) B F0 X (by rw [hOLD]; exact N0) T hC hcs (fun z hz => nomatch hz) (by omega) (by omega) ?_
  intro r mine h1 tk1 F1 N1 ap1 hpost
  obtain ⟨rD, cD, rw, rfl, hRw, hpw, hne, rfl⟩ := hpost
  have hrwl := hRw.length
  have hrw24 := rowsOf_len4 SF.ks.length hk4
  have hmD : (rD, listOf (rw.map fun p => Value.ref p.1).toArray cD) ∈ (rD, listOf (rw.map fun p => Value.ref p.1).toArray cD) :: rw ++ OLD := .head _
  refine wpAny_pyIter_list (items := (rw.map fun p => Value.ref p.1).toArray) ⟨_, (N1 _ hmD).1, rfl, cD, rfl⟩ ?_
  dsimp only
  have N2 := N1.push F1 { cls := .type "list_iterator", data := .fields #[.ref rD, .int 0 0] }
  have F2 := F1.push { cls := .type "list_iterator", data := .fields #[.ref rD, .int 0 0] }
  have ltI : ∀ q ∈ (rD, listOf (rw.map fun p => Value.ref p.1).toArray cD) :: rw ++ OLD, @LT.lt Nat _ q.1 h1.objs.size := fun q hq => Heap.lt_size (N1 q hq).1
  generalize Heap.push h1 _ = h2 at N2 F2 ⊢
  generalize h1.objs.size = I at N2 ltI ⊢
  clear N1 F1 N0 F0
  have hDI : @LT.lt Nat _ rD I := ltI _ (.head _)
  have hrI : ∀ q ∈ rw, @LT.lt Nat _ q.1 I := fun q hq => ltI q (.tail _ (List.mem_append_left _ hq))
  have hOI : ∀ q ∈ OLD, @LT.lt Nat _ q.1 I := fun q hq => ltI q (.tail _ (List.mem_append_right _ hq))
  have hrdI : @LT.lt Nat _ rd I := hOI (rd, listOf ([] : List Value).toArray 0) (by rw [hOLD]; exact .head _)
  have hZI : ∀ q ∈ Z0, @LT.lt Nat _ q.1 I := fun q hq => hOI q (by rw [hOLD]; simp [hq])
  have hZrd : ∀ q ∈ Z0, @LT.lt Nat _ q.1 rd := fun q hq => y12' q (List.mem_append_right _ hq)
  -- what is new is apart from what is old
  have apN : ∀ z ∈ (rD, listOf (rw.map fun p => Value.ref p.1).toArray cD) :: rw, (@Ne Nat z.1 901 ∧ @Ne Nat z.1 cc ∧ @Ne Nat z.1 sen ∧ @Ne Nat z.1 drs ∧ @Ne Nat z.1 dls ∧ @Ne Nat z.1 (L + 1) ∧ @Ne Nat z.1 (L + 1 + 1) ∧ @Ne Nat z.1 (L + 1 + 1 + 1) ∧ @Ne Nat z.1 (L + 1 + 1 + 1 + 1) ∧ @Ne Nat z.1 S ∧ @Ne Nat z.1 D ∧ @Ne Nat z.1 rd) ∧ (∀ q ∈ tl, @Ne Nat q.1 z.1) ∧ (∀ q ∈ Z0, @Ne Nat q.1 z.1) := by
    intro z hz
    have h9 := ap1 z hz
    rw [hOLD] at h9
    refine ⟨⟨?_, ?_, ?_, ?_, ?_, ?_, ?_, ?_, ?_, ?_, ?_, ?_⟩, fun q hq => h9 q (by simp [hq]), fun q hq => h9 q (by simp [hq])⟩
    · exact Ne.symm (h9 (901, tabObj (chTab cc)) (by simp))
    · exact Ne.symm (h9 (cc, oc) (by simp))
    · exact Ne.symm (h9 (sen, listOf sv.toArray nsv) (by simp))
    · exact Ne.symm (h9 (drs, listOf dvs.toArray nr) (by simp))
    · exact Ne.symm (h9 (dls, listOf (tl.map fun p => Value.ref p.1).toArray nd) (by simp))
    · exact Ne.symm (h9 (L + 1, oDe) (by simp))
    · exact Ne.symm (h9 (L + 1 + 1, oC) (by simp))
    · exact Ne.symm (h9 (L + 1 + 1 + 1, oP) (by simp))
    · exact Ne.symm (h9 (L + 1 + 1 + 1 + 1, oO) (by simp))
    · exact Ne.symm (h9 (S, listOf nvs.toArray cS) (by simp))
    · exact Ne.symm (h9 (D, oD) (by simp))
    · exact Ne.symm (h9 (rd, listOf ([] : List Value).toArray 0) (.head _))
  have N3 : News h₀ L h2 ((I, { cls := .type "list_iterator", data := .fields #[.ref rD, .int 0 0] }) :: (901, tabObj (chTab cc)) :: (cc, oc) :: (sen, listOf sv.toArray nsv) :: (drs, listOf dvs.toArray nr) :: (dls, listOf (tl.map fun p => Value.ref p.1).toArray nd) :: (L + 1, oDe) :: (L + 1 + 1, oC) :: (L + 1 + 1 + 1, oP) :: (L + 1 + 1 + 1 + 1, oO) :: (S, listOf nvs.toArray cS) :: (D, oD) :: (rd, listOf ([] : List Value).toArray 0) :: (rD, listOf (rw.map fun p => Value.ref p.1).toArray cD) :: (tl ++ (rw ++ ([] ++ Z0)))) := news_sub N2 (by
    subst hOLD
    intro q hq
    simp only [List.mem_cons, List.mem_append, List.nil_append, List.cons_append] at hq ⊢
    rcases hq with hq | hq | hq | hq | hq | hq | hq | hq | hq | hq | hq | hq | hq | hq | hq | hq | hq <;> simp [hq])
  clear N2 ap1 hOI
  refine loop_own (KTurns.ofWalks (Walks.list (prog := prog) (w := w) (A := ktrTop dp un gd (Str.ofString "law") lscope L a ccd (lcells L) []) rfl I rD (Nat.ne_of_lt hDI) (rw.map fun p => Value.ref p.1).toArray) (fun _ _ _ _ _ _ hQ => wpAny_pure hQ))
    (fun i s' => Held (∃ (hh : Heap) (tk : Nat) (m3 : Str → Option Value) (oI : Obj) (cR nsv' : Nat) (oc' oC' oO' : Obj) (vC' : Value) (vO' : Option Value) (cvs' : Array Value) (ct' : Tok) (sv' : List Value) (ot : List (Addr × Obj)), s' = { s with heap := hh, toks := tk } ∧ Fr h₀ L hh m3 ∧ (∀ y, y ≠ Str.ofString "pairs" → y ≠ Str.ofString "row" → m3 y = m9 y) ∧ (oI.cls = .type "list_iterator" ∧ oI.data = .fields #[.ref rD, .int i 0]) ∧
      News h₀ L hh ((I, oI) :: (901, tabObj (chTab cc)) :: (cc, oc') :: (sen, listOf sv'.toArray nsv') :: (drs, listOf dvs.toArray nr) :: (dls, listOf (tl.map fun p => Value.ref p.1).toArray nd) :: (L + 1, oDe) :: (L + 1 + 1, oC') :: (L + 1 + 1 + 1, oP) :: (L + 1 + 1 + 1 + 1, oO') :: (S, listOf nvs.toArray cS) :: (D, oD) :: (rd, listOf (ot.map fun p => Value.ref p.1).toArray cR) :: (rD, listOf (rw.map fun p => Value.ref p.1).toArray cD) :: (tl ++ (rw ++ (ot ++ Z0)))) ∧ sv'.length ≤ 80 ∧ oc'.data = .fields cvs' ∧ cvs'[1]? = some (.str (Str.ofString "_law_choice.<locals>.chosen") ct') ∧ oC'.data = .cell (some vC') ∧ oO'.data = .cell vO' ∧ Tpl ot (((rowsOf SF.ks.length).take i).map (popKeys SF.ks)) ∧ (∀ q ∈ ot, @LT.lt Nat _ I q.1))) ?h0 ?hst ?step ?hR
  case h0 => exact Held.mk ⟨h2, _, m9, _, 0, nsv, oc, oC, oO, vC, vO, cvs, ct, sv, [], rfl, F2, fun _ _ _ => rfl, ⟨rfl, rfl⟩, N3, hsv, hoc, hct, hoC, hoO, .nil, fun q hq => nomatch hq⟩
  case hst =>
    rintro i s' ⟨hh, tk, m3, oI, cR, nsv', oc', oC', oO', vC', vO', cvs', ct', sv', ot, rfl, FF, -, ⟨i1, i2⟩, NN, -⟩
    exact ⟨⟨oI, (NN _ (.head _)).1, i1, i2⟩, ⟨_, (NN (rD, listOf (rw.map fun p => Value.ref p.1).toArray cD) (by simp)).1, rfl, cD, rfl⟩⟩
  case step =>
    rintro i v s' h3 tk3 hi ⟨hh, tk, m3, oI, cR, nsv', oc', oC', oO', vC', vO', cvs', ct', sv', ot, rfl, FF, hm3, ⟨i1, i2⟩, NN, hsv', hoc', hct', hoC', hoO', hTp, hot⟩ hv ⟨⟨oI', j1, j2, j3⟩, hst2⟩ hk₁
    have hil : i < rw.length := by rw [List.size_toArray, List.length_map] at hi; exact hi
    obtain ⟨Tr, rv, cr, r, e1', e2', e3', e4'⟩ := hRw.at_ i hil
    have hvT : v = .ref Tr := by
      rw [List.getElem?_toArray, e3'] at hv
      exact (Option.some.inj hv).symm
    subst hvT
    have hrm := List.mem_of_getElem? e1'
    have hrl := rowsOf_mem_len _ _ hrm
    have hrok := rowsOf_ok _ _ hrm
    obtain ⟨l1, l2, hsp⟩ := List.append_of_mem e2'
    have hpw' := hpw
    rw [hsp] at hpw'
    obtain ⟨-, pw2, pw3⟩ := List.pairwise_append.mp hpw'
    have hl1 : ∀ q ∈ l1, @LT.lt Nat _ q.1 Tr := fun q hq => pw3 q hq _ (.head _)
    have hl2 : ∀ q ∈ l2, @LT.lt Nat _ Tr q.1 := fun q hq => (List.pairwise_cons.mp pw2).1 q hq
    have hl1r : ∀ q ∈ l1, q ∈ rw := fun q hq => by rw [hsp]; exact List.mem_append_left _ hq
    have hl2r : ∀ q ∈ l2, q ∈ rw := fun q hq => by rw [hsp]; exact List.mem_append_right _ (.tail _ hq)
    have hTrA := apN _ (.tail _ e2')
    obtain ⟨⟨b1, b2, b3, b4, b5, b6, b7, b8, b9, b10, b11, b12⟩, b13, b14⟩ := hTrA
    dsimp only at b1 b2 b3 b4 b5 b6 b7 b8 b9 b10 b11 b12 b13 b14
    have hTrI : @LT.lt Nat _ Tr I := hrI _ e2'
    have hI0 := (NN (I, oI) (.head _)).2
    dsimp only at hI0
    -- behind the iterator's step
    have offI : ∀ q ∈ (901, tabObj (chTab cc)) :: (cc, oc') :: (sen, listOf sv'.toArray nsv') :: (drs, listOf dvs.toArray nr) :: (dls, listOf (tl.map fun p => Value.ref p.1).toArray nd) :: (L + 1, oDe) :: (L + 1 + 1, oC') :: (L + 1 + 1 + 1, oP) :: (L + 1 + 1 + 1 + 1, oO') :: (S, listOf nvs.toArray cS) :: (D, oD) :: (rd, listOf (ot.map fun p => Value.ref p.1).toArray cR) :: (rD, listOf (rw.map fun p => Value.ref p.1).toArray cD) :: (tl ++ (rw ++ (ot ++ Z0))), q.1 ≠ I := by
      intro q hq
      rcases List.mem_cons.mp hq with rfl | hq
      · exact (show @Ne Nat _ _ by dsimp only; omega)
      rcases List.mem_cons.mp hq with rfl | hq
      · exact (show @Ne Nat _ _ by dsimp only; omega)
      rcases List.mem_cons.mp hq with rfl | hq
      · exact (show @Ne Nat _ _ by dsimp only; omega)
      rcases List.mem_cons.mp hq with rfl | hq
      · exact (show @Ne Nat _ _ by dsimp only; omega)
      rcases List.mem_cons.mp hq with rfl | hq
      · exact (show @Ne Nat _ _ by dsimp only; omega)
      rcases List.mem_cons.mp hq with rfl | hq
      · exact (show @Ne Nat _ _ by dsimp only; omega)
      rcases List.mem_cons.mp hq with rfl | hq
      · exact (show @Ne Nat _ _ by dsimp only; omega)
      rcases List.mem_cons.mp hq with rfl | hq
      · exact (show @Ne Nat _ _ by dsimp only; omega)
      rcases List.mem_cons.mp hq with rfl | hq
      · exact (show @Ne Nat _ _ by dsimp only; omega)
      rcases List.mem_cons.mp hq with rfl | hq
      · exact (show @Ne Nat _ _ by dsimp only; omega)
      rcases List.mem_cons.mp hq with rfl | hq
      · exact (show @Ne Nat _ _ by dsimp only; omega)
      rcases List.mem_cons.mp hq with rfl | hq
      · exact (show @Ne Nat _ _ by dsimp only; omega)
      rcases List.mem_cons.mp hq with rfl | hq
      · exact (show @Ne Nat _ _ by dsimp only; omega)
      rcases List.mem_append.mp hq with hq | hq
      · have := e3 q hq
        exact (show @Ne Nat _ _ by omega)
      rcases List.mem_append.mp hq with hq | hq
      · exact Nat.ne_of_lt (hrI q hq)
      rcases List.mem_append.mp hq with hq | hq
      · exact Ne.symm (Nat.ne_of_lt (hot q hq))
      · exact Nat.ne_of_lt (hZI q hq)
    have F1 : Fr h₀ L h3 m3 := LCg.fr_but FF hk₁ (Ne.symm hI0.1) hI0.2
    have N1' := LCg.news_but (fun q hq => NN q (.tail _ hq)) hk₁ offI
    have N1 : News h₀ L h3 ((I, oI') :: (901, tabObj (chTab cc)) :: (cc, oc') :: (sen, listOf sv'.toArray nsv') :: (drs, listOf dvs.toArray nr) :: (dls, listOf (tl.map fun p => Value.ref p.1).toArray nd) :: (L + 1, oDe) :: (L + 1 + 1, oC') :: (L + 1 + 1 + 1, oP) :: (L + 1 + 1 + 1 + 1, oO') :: (S, listOf nvs.toArray cS) :: (D, oD) :: (rd, listOf (ot.map fun p => Value.ref p.1).toArray cR) :: (rD, listOf (rw.map fun p => Value.ref p.1).toArray cD) :: (tl ++ (rw ++ (ot ++ Z0)))) := fun q hq => by
      rcases List.mem_cons.mp hq with rfl | hq
      · exact ⟨j1, hI0⟩
      · exact N1' q hq
    clear N1' NN FF hk₁
    refine wpAny_assign_Name (wpAny_storeName_local rfl F1.ns (fun h4 hn4 hs4 => ?_) (by rfl))
    have hL0 : h₀.get? L = none := Heap.get?_none_of_le F1.above
    have F2 : Fr h₀ L h4 (fun z => if z = Str.ofString "row" then some (.ref Tr) else m3 z) := ⟨hn4, fun b o e => hs4.extBut b o (fun q => by
      have q' : b = L := q
      rw [q', hL0] at e; cases e) (F1.keep b o e), F1.above⟩
    have N2 := fun q hq => (⟨hs4.extBut _ _ (N1 q hq).2.1 (N1 q hq).1, (N1 q hq).2⟩ : h4.get? q.1 = some q.2 ∧ q.1 ≠ L ∧ h₀.get? q.1 = none)
    have N2 : News h₀ L h4 _ := N2
    clear N1 F1
    have hotl := hTp.length
    rw [List.length_map, List.length_take] at hotl
    obtain ⟨m4', hm4'⟩ : ∃ m4', m4' = (fun z => if z = Str.ofString "row" then some (Value.ref Tr) else m3 z) := ⟨_, rfl⟩
    rw [← hm4'] at F2
    have gR : m4' (Str.ofString "row") = some (.ref Tr) := by rw [hm4']; rfl
    have gO : ∀ y, y ≠ Str.ofString "row" → m4' y = m3 y := fun y hy => by rw [hm4']; dsimp only; rw [if_neg hy]
    clear hm4'
    rw [hsp] at N2
    show wpAny _ _ (execs [rb 0, rb 1, rb 2, rb 3, rb 4, rb 5] (envX (Str.ofString "law") lscope L a ccd (lcells L))) _ _ _
    refine row_body (tr := tr) (more := []) (Z := (I, oI') :: (rD, listOf ((l1 ++ (Tr, listOf rv.toArray cr) :: l2).map fun p => Value.ref p.1).toArray cD) :: (l1 ++ (l2 ++ (ot ++ Z0)))) B F2 X (news_sub N2 re8) T XB TB hC hDe hoC' hoO' hoP hoc' hct' hT hdv hn8 e4' hsv' (by rw [List.length_map]; omega) hIs SF hSF hfl hkn hkp hk4 hvi hrl (fun d hd => ?_) hnI hnp hns h901 e1 e2 e3 e6 e4 e7 e8 y10 ⟨b1, b2, b4, b5, b3, b6, b7, b8, b9, b10, b11, b12⟩ (fun q hq => b13 q hq) ?_ ?_ ?_ gR ?_ ?_ ?_ hd hu ?_
    · obtain ⟨j, hj⟩ := List.getElem?_of_mem hd
      exact (hrok j d hj).1
    · intro q hq
      have newer : ∀ z : Nat, @LE.le Nat _ I z → (@Ne Nat z 901 ∧ @Ne Nat z cc ∧ @Ne Nat z sen ∧ @Ne Nat z drs ∧ @Ne Nat z dls ∧ @Ne Nat z Tr ∧ @Ne Nat z (L + 1 + 1)) ∧ (∀ x ∈ tl, @Ne Nat z x.1) ∧ @Ne Nat z (L + 1 + 1 + 1 + 1) ∧ @Ne Nat z rd := by
        intro z hz
        refine ⟨⟨?_, ?_, ?_, ?_, ?_, ?_, ?_⟩, fun x hx => ?_, ?_, ?_⟩
        · omega
        · omega
        · omega
        · omega
        · omega
        · omega
        · omega
        · have := e3 x hx
          omega
        · omega
        · omega
      have ofNew : ∀ z ∈ (rD, listOf (rw.map fun p => Value.ref p.1).toArray cD) :: rw, @Ne Nat z.1 Tr → (@Ne Nat z.1 901 ∧ @Ne Nat z.1 cc ∧ @Ne Nat z.1 sen ∧ @Ne Nat z.1 drs ∧ @Ne Nat z.1 dls ∧ @Ne Nat z.1 Tr ∧ @Ne Nat z.1 (L + 1 + 1)) ∧ (∀ x ∈ tl, @Ne Nat z.1 x.1) ∧ @Ne Nat z.1 (L + 1 + 1 + 1 + 1) ∧ @Ne Nat z.1 rd := by
        intro z hz hzT
        obtain ⟨⟨c1, c2, c3, c4, c5, c6, c7, c8, c9, c10, c11, c12⟩, c13, c14⟩ := apN z hz
        exact ⟨⟨c1, c2, c3, c4, c5, hzT, c7⟩, fun x hx => Ne.symm (c13 x hx), c9, c12⟩
      rcases List.mem_cons.mp hq with rfl | hq
      · exact newer I (Nat.le_refl _)
      rcases List.mem_cons.mp hq with rfl | hq
      · exact ofNew (rD, listOf (rw.map fun p => Value.ref p.1).toArray cD) (.head _) (Ne.symm (hne _ e2'))
      rcases List.mem_append.mp hq with hq | hq
      · exact ofNew q (.tail _ (hl1r q hq)) (Nat.ne_of_lt (hl1 q hq))
      rcases List.mem_append.mp hq with hq | hq
      · exact ofNew q (.tail _ (hl2r q hq)) (Ne.symm (Nat.ne_of_lt (hl2 q hq)))
      rcases List.mem_append.mp hq with hq | hq
      · exact newer q.1 (Nat.le_of_lt (hot q hq))
      · obtain ⟨⟨c1, c2, c3, c4, c5, c6⟩, c7, c8⟩ := hZ0 q hq
        exact ⟨⟨c1, c2, c3, c4, c5, b14 q hq, c6⟩, c7, c8, Nat.ne_of_lt (hZrd q hq)⟩
    · rw [gO _ (by decide), hm3 _ (by decide) (by decide), gE _ (by decide)]; exact m1
    · rw [gO _ (by decide), hm3 _ (by decide) (by decide), gE _ (by decide)]; exact m2
    · rw [gO _ (by decide), hm3 _ (by decide) (by decide), gE _ (by decide)]; exact m4
    · rw [gO _ (by decide), hm3 _ (by decide) (by decide), gE _ (by decide)]; exact m5
    · rw [gO _ (by decide), hm3 _ (by decide) (by decide)]; exact g0
    intro h5 tk5 mm5 T' vX cR5 ns5 oc5 oC5 oO5 vO5 cvs5 ct5 sl5 ovs5 F5 me5 N5 hsl5 hoc5 hct5 hoC5 hoO5 hov5 lt5
    refine wpAny_execs_nil ?_
    refine Held.mk ⟨h5, tk5, mm5, oI', cR5, ns5, oc5, oC5, oO5, _, vO5, cvs5, ct5, sl5, ot ++ [(T', { cls := .type "tuple", data := .seq ovs5.toArray 0 })], rfl, F5, fun y y1 y2 => by rw [me5 y y1, gO y y2]; exact hm3 y y1 y2, ⟨j2, j3⟩, ?_, by omega, hoc5, hct5, hoC5, hoO5, ?_, ?_⟩
    · rw [hsp, List.map_append (l₁ := ot)]
      exact news_sub N5 re9
    · rw [List.take_add_one, e1', List.map_append]
      exact hTp.snoc T' ovs5 _ hov5
    · intro q hq
      rcases List.mem_append.mp hq with hq | hq
      · exact hot q hq
      · obtain rfl := List.mem_singleton.mp hq
        exact lt5 (I, oI') (.head _)
  case hR =>
    rintro s' h3 tk3 ⟨hh, tk, m3, oI, cR, nsv', oc', oC', oO', vC', vO', cvs', ct', sv', ot, rfl, FF, hm3, ⟨i1, i2⟩, NN, hsv', hoc', hct', hoC', hoO', hTp, hot⟩ hk₁
    have hI0 := (NN (I, oI) (.head _)).2
    dsimp only at hI0
    have offI : ∀ q ∈ (901, tabObj (chTab cc)) :: (cc, oc') :: (sen, listOf sv'.toArray nsv') :: (drs, listOf dvs.toArray nr) :: (dls, listOf (tl.map fun p => Value.ref p.1).toArray nd) :: (L + 1, oDe) :: (L + 1 + 1, oC') :: (L + 1 + 1 + 1, oP) :: (L + 1 + 1 + 1 + 1, oO') :: (S, listOf nvs.toArray cS) :: (D, oD) :: (rd, listOf (ot.map fun p => Value.ref p.1).toArray cR) :: (rD, listOf (rw.map fun p => Value.ref p.1).toArray cD) :: (tl ++ (rw ++ (ot ++ Z0))), q.1 ≠ I := by
      intro q hq
      rcases List.mem_cons.mp hq with rfl | hq
      · exact (show @Ne Nat _ _ by dsimp only; omega)
      rcases List.mem_cons.mp hq with rfl | hq
      · exact (show @Ne Nat _ _ by dsimp only; omega)
      rcases List.mem_cons.mp hq with rfl | hq
      · exact (show @Ne Nat _ _ by dsimp only; omega)
      rcases List.mem_cons.mp hq with rfl | hq
      · exact (show @Ne Nat _ _ by dsimp only; omega)
      rcases List.mem_cons.mp hq with rfl | hq
      · exact (show @Ne Nat _ _ by dsimp only; omega)
      rcases List.mem_cons.mp hq with rfl | hq
      · exact (show @Ne Nat _ _ by dsimp only; omega)
      rcases List.mem_cons.mp hq with rfl | hq
      · exact (show @Ne Nat _ _ by dsimp only; omega)
      rcases List.mem_cons.mp hq with rfl | hq
      · exact (show @Ne Nat _ _ by dsimp only; omega)
      rcases List.mem_cons.mp hq with rfl | hq
      · exact (show @Ne Nat _ _ by dsimp only; omega)
      rcases List.mem_cons.mp hq with rfl | hq
      · exact (show @Ne Nat _ _ by dsimp only; omega)
      rcases List.mem_cons.mp hq with rfl | hq
      · exact (show @Ne Nat _ _ by dsimp only; omega)
      rcases List.mem_cons.mp hq with rfl | hq
      · exact (show @Ne Nat _ _ by dsimp only; omega)
      rcases List.mem_cons.mp hq with rfl | hq
      · exact (show @Ne Nat _ _ by dsimp only; omega)
      rcases List.mem_append.mp hq with hq | hq
      · have := e3 q hq
        exact (show @Ne Nat _ _ by omega)
      rcases List.mem_append.mp hq with hq | hq
      · exact Nat.ne_of_lt (hrI q hq)
      rcases List.mem_append.mp hq with hq | hq
      · exact Ne.symm (Nat.ne_of_lt (hot q hq))
      · exact Nat.ne_of_lt (hZI q hq)
    have F1 : Fr h₀ L h3 m3 := LCg.fr_but FF hk₁ (Ne.symm hI0.1) hI0.2
    have N1 := LCg.news_but (fun q hq => NN q (.tail _ hq)) hk₁ offI
    rw [List.size_toArray, List.length_map, hrwl, List.take_of_length_le (Nat.le_refl _)] at hTp
    exact hk h3 tk3 m3 rd cR nsv' oc' oC' oO' vC' vO' cvs' ct' sv' ot F1 (fun y y1 y2 y3 => by rw [hm3 y y1 y3]; exact gE y y2) (by rw [hm3 _ (by decide) (by decide)]; exact g0) (news_sub N1 re10) hsv' hoc' hct' hoC' hoO' hTp
end
end Mine
end
section
open PySem PySem.W PyProof.Rows PySem.Calls PyProof.V
set_option Elab.async false
set_option maxRecDepth 100000
set_option maxHeartbeats 1000000
set_option linter.unusedVariables false
set_option linter.unusedSimpArgs false
namespace Mine
theorem anew_RRF1 : True := by
  w_top off
  trivial
local macro_rules | `(tactic| k_all) => `(tactic| assumption)
local macro_rules | `(tactic| dict_fit) => `(tactic| omega)
local macro_rules | `(tactic| k_room) => `(tactic| ktr_room)
local macro_rules | `(tactic| walk_at "call ref") => `(tactic| ((with_reducible show wpAny _ _ (call (Value.ref _) _ _) _ _ _); refine halt ?_))
local macro_rules | `(tactic| walk_at "eval Name") => `(tactic| (k_here; k_dflt (refine' nameX_L ?kA1 ?kA2 ?_ ?kA3 ?kA4 ?kA5; (case kA3 => rfl); (case kA4 => rfl); (case kA5 => decide); (case kA1 => k_asm); (case kA2 => ((try dsimp only); (repeat (rw [if_neg (by decide)])); assumption)); k_whole)))
def fb (i : Nat) : Stmt := nthS (forBody (lb 14)) i
theorem fbodyL : forBody (lb 14) = [fb 0, fb 1, fb 2, fb 3, fb 4] := rfl
section
variable {prog : Program} {w : World} {p : Program} {loose : List Str} {mean : ExcName → Option Value} {mg mb : Str → Option Value}
theorem finA {dp un : Nat} {gd : Option (List Code)} {a : Addr} {ccd : Value} {A₀ : Around} {base h₀ : Heap} {L : Addr} {mm : Str → Option Value} {s : Shared} {Q : Flow → Shared → Prop} {E : Value → Shared → Prop} {drs dls sen cc : Addr} {nd nr nsv : Nat} {tr : Tok} {dvs sv : List Value} {ns : List Int} {fi : Int} {ti : Tok} {nN : Nat} {oDe oC oc : Obj} {cvs : Array Value} {ct : Tok} {tl Z : List (Addr × Obj)} {more : List Stmt}
    (B : Below A₀ base [] h₀) (F : Fr h₀ L s.heap mm) (X : (K w.params).In h₀) (N : News h₀ L s.heap ((901, tabObj (chTab cc)) :: (cc, oc) :: (sen, listOf sv.toArray nsv) :: (drs, listOf dvs.toArray nr) :: (dls, listOf (tl.map fun p => Value.ref p.1).toArray nd) :: (L + 1, oDe) :: (L + 1 + 1, oC) :: (tl ++ Z))) (T : Top p loose mean mg mb h₀) (XB : (K w.params).In base) (TB : Top p loose mean mg mb base) (hC : CodeHd base 905 901) (hDe : oDe.data = .cell (some (.ref dls))) {vC : Value} (hoC : oC.data = .cell (some vC))
    (hoc : oc.data = .fields cvs) (hct : cvs[1]? = some (.str (Str.ofString "_law_choice.<locals>.chosen") ct)) (hT : Tups tl (deedsOf ns nN)) (hdv : IntsAre dvs (drawsOf ns nN)) (hn8 : nN ≤ 8) (hsv : sv.length ≤ 80)
    (h901 : @LT.lt Nat _ 901 L) (e1 : @LT.lt Nat _ (L + 1 + 1) dls) (e2 : @LT.lt Nat _ dls drs) (e3 : ∀ q ∈ tl, @LT.lt Nat _ drs q.1 ∧ @LT.lt Nat _ q.1 sen) (e4 : @LT.lt Nat _ sen cc) (e6 : @LT.lt Nat _ drs sen)
    (hZ : ∀ q ∈ Z, (@Ne Nat q.1 901 ∧ @Ne Nat q.1 cc ∧ @Ne Nat q.1 sen ∧ @Ne Nat q.1 drs ∧ @Ne Nat q.1 dls ∧ @Ne Nat q.1 (L + 1 + 1)) ∧ ∀ x ∈ tl, @Ne Nat q.1 x.1)
    (m1 : mm (Str.ofString "draws") = some (.ref drs)) (m2 : mm (Str.ofString "room") = some (.int (1 + nxt ns 0 4) tr)) (m3 : mm (Str.ofString "first") = some (.int fi ti)) (m4 : mm (Str.ofString "seen") = some (.ref sen)) (hd : dp + 200 < recursionLimit) (hu : un + 1600 < cLine)
    (hk : ∀ (hh : Heap) (tk : Nat) (Tr : Addr) (x : CA) (y : HA) (cl chl : List (Addr × Obj)) (oC' : Obj), Fr h₀ L hh mm → News h₀ L hh ((L + 1 + 1, oC') :: (901, tabObj (chTab cc)) :: (drs, listOf dvs.toArray nr) :: (dls, listOf (tl.map fun p => Value.ref p.1).toArray nd) :: (Tr, listOf #[Value.int fi ti] 0) :: (L + 1, oDe) :: (cl ++ (chl ++ (tl ++ Z)))) → oC'.data = .cell (some (.ref x.c)) → x.ord → y.ord → y.cc = cc → y.seen = sen → x.f = y.f → @LT.lt Nat _ y.f x.d → CacheI prog w x (1 + nxt ns 0 4) (runD (1 + nxt ns 0 4) ⟨[], [], drawsOf ns nN⟩ (deedsOf ns nN)) cl → ChoiceL y [fi] [] chl →
      (∀ z ∈ cl ++ chl, ∀ q ∈ (L + 1 + 1, oC') :: (901, tabObj (chTab cc)) :: (drs, listOf dvs.toArray nr) :: (dls, listOf (tl.map fun p => Value.ref p.1).toArray nd) :: (Tr, listOf #[Value.int fi ti] 0) :: (L + 1, oDe) :: (tl ++ Z), q.1 ≠ z.1) → (∀ q ∈ tl ++ Z, @LT.lt Nat _ q.1 Tr) → @LT.lt Nat _ cc Tr →
      wpAny (model prog w) (ktrTop dp un gd (Str.ofString "law") lscope L a ccd (lcells L) []) (execs more (envX (Str.ofString "law") lscope L a ccd (lcells L))) Q E { s with heap := hh, toks := tk }) :
    wpAny (model prog w) (ktrTop dp un gd (Str.ofString "law") lscope L a ccd (lcells L) []) (execs (fb 0 :: more) (envX (Str.ofString "law") lscope L a ccd (lcells L))) Q E s := by
  have key : (PySem.Challenge.rw_fc0033_01, Mine.K) = (PySem.Challenge.rw_fc0033_01, Mine.K) := by k_fill; rfl
  clear key
  change wpAny _ _ (execs (Stmt.Assign _ _ _ :: _) (envX _ ⟨_, _, _, _, _⟩ _ _ _ [_, _, _, _, _])) _ _ _
  k_steps
  refine unhalt ?_
  have hcs : lscope.kind = .function := rfl
  rename_i Tr h0 F0 N0 lx
  obtain ⟨g1, g2, g3, g4, g5, g6, g7, g8⟩ := lx
  have g8' := ktn_ltOf g8
  have t1 : @Ne Nat Tr 901 := by omega
  have t2 : @Ne Nat Tr cc := by omega
  have t3 : @Ne Nat Tr drs := by omega
  have t4 : @Ne Nat Tr dls := by omega
  have t5 : @Ne Nat Tr sen := by omega
  have e5' : ∀ q ∈ tl, @Ne Nat q.1 Tr := fun q hq => Nat.ne_of_lt (g8' q (List.mem_append_left _ hq))
  have hfs : IntsAre [Value.int fi ti] [fi] := .cons fi ti .nil
  have hr := nxt_range ns 0 4 (by decide)
  have hdl : (deedsOf ns nN).length = nN := by unfold deedsOf; rw [List.length_map, List.length_range]
  have hdd : (drawsOf ns nN).length = nN := by unfold drawsOf; rw [List.length_map, List.length_range]
  have hd0 : ∀ d ∈ drawsOf ns nN, 0 ≤ d := by
    intro d hd
    obtain ⟨j, -, rfl⟩ := List.mem_map.mp hd
    exact (nxt_range ns _ 4 (by decide)).1
  refine useT0 (made_spec (PC := fun y => y.cc = cc) (tab := [(901, tabObj (chTab cc)), (cc, oc)]) (dll := (dls, listOf (tl.map fun p => Value.ref p.1).toArray nd) :: tl) (sv := sv) (n1 := nr) (n2 := 0) (n3 := nsv) (fvs := [Value.int fi ti]) (fs := [fi])
    (fun left m1 m2 ls sv dr hL q0 q1 => (mkch2_spec hoc hct e4 (q1 (cc, oc) (.tail _ (.head _))) hL q0 (by omega)).mono fun r mine ⟨y, chl, g1, g2, g3, g4, g5, g6, g7⟩ => ⟨y, chl, g1, g2, g3, g4, g5, g6, by rw [g7, g2]⟩) (by omega) ?_ ⟨nd, tl, hT, rfl⟩ hdv hfs (by omega) (by omega) (by omega) (by omega) hd0 (by simp) hsv) (rest := (L + 1, oDe) :: (L + 1 + 1, oC) :: Z) B F0 X (news_sub N0 ?_) T XB TB hC hcs ?_ (by omega) (by omega) ?_
  · refine ⟨?_, ?_, by omega, by omega, by omega, ?_⟩
    · intro x hx
      simp only [List.mem_cons, List.not_mem_nil, or_false] at hx
      rcases hx with rfl | rfl
      · dsimp only
        refine ⟨?_, ?_, ?_⟩ <;> omega
      · dsimp only
        refine ⟨?_, ?_, ?_⟩ <;> omega
    · intro x hx q hq
      have hq2 : @LE.le Nat _ dls q.1 ∧ @LT.lt Nat _ q.1 sen := by
        rcases List.mem_cons.mp hq with rfl | hq
        · dsimp only; omega
        · have := e3 q hq; omega
      simp only [List.mem_cons, List.not_mem_nil, or_false] at hx
      rcases hx with rfl | rfl
      · exact (show @Ne Nat _ _ by dsimp only; omega)
      · exact (show @Ne Nat _ _ by dsimp only; omega)
    · intro q hq
      rcases List.mem_cons.mp hq with rfl | hq
      · dsimp only
        refine ⟨?_, ?_, ?_⟩ <;> omega
      · have h1 := e3 q hq
        have h2 := e5' q hq
        refine ⟨?_, ?_, ?_⟩ <;> omega
  · intro q hq
    simp only [List.mem_cons, List.mem_append, List.cons_append, List.nil_append, List.not_mem_nil, or_false] at hq ⊢
    grind
  · intro x hx q hq
    have hxx : (x.1 = 901 ∨ x.1 = cc ∨ x.1 = drs ∨ x.1 = Tr ∨ x.1 = sen ∨ x.1 = dls) ∨ x ∈ tl := by
      simp only [List.mem_cons, List.mem_append, List.cons_append, List.nil_append, List.not_mem_nil, or_false] at hx
      rcases hx with rfl | rfl | rfl | rfl | rfl | rfl | hx
      · exact .inl (.inl rfl)
      · exact .inl (.inr (.inl rfl))
      · exact .inl (.inr (.inr (.inl rfl)))
      · exact .inl (.inr (.inr (.inr (.inl rfl))))
      · exact .inl (.inr (.inr (.inr (.inr (.inl rfl)))))
      · exact .inl (.inr (.inr (.inr (.inr (.inr rfl)))))
      · exact .inr hx
    have hqq : (q.1 = L + 1 ∨ q.1 = L + 1 + 1) ∨ q ∈ Z := by
      rcases List.mem_cons.mp hq with rfl | hq
      · exact .inl (.inl rfl)
      rcases List.mem_cons.mp hq with rfl | hq
      · exact .inl (.inr rfl)
      · exact .inr hq
    rcases hqq with hqq | hqZ
    · have hql : @LT.lt Nat _ L q.1 ∧ @LT.lt Nat _ q.1 dls := by rcases hqq with e | e <;> rw [e] <;> constructor <;> omega
      rcases hxx with hx | hx
      · exact (show @Ne Nat q.1 x.1 by rcases hqq with e' | e' <;> rcases hx with e | e | e | e | e | e <;> rw [e, e'] <;> omega)
      · have := e3 x hx
        exact (show @Ne Nat q.1 x.1 by omega)
    · have hz := hZ q hqZ
      rcases hxx with hx | hx
      · rcases hx with e | e | e | e | e | e
        · rw [e]; exact hz.1.1
        · rw [e]; exact hz.1.2.1
        · rw [e]; exact hz.1.2.2.2.1
        · rw [e]; exact Nat.ne_of_lt (g8' q (List.mem_append_right _ hqZ))
        · rw [e]; exact hz.1.2.2.1
        · rw [e]; exact hz.1.2.2.2.2.1
      · exact hz.2 x hx
  intro r mine h1 tk1 F2 N2 ap2 hpost
  obtain ⟨x, y, cl, chl, rfl, hycc, ox, oy, hxf, hfx, hys, hci, hch, hap, rfl⟩ := hpost
  rw [hycc] at N2 ap2 hap
  obtain ⟨W1, hW1⟩ : ∃ r, r = (901, tabObj (chTab cc)) :: (drs, listOf dvs.toArray nr) :: (dls, listOf (tl.map fun p => Value.ref p.1).toArray nd) :: (Tr, listOf #[Value.int fi ti] 0) :: (L + 1, oDe) :: (cl ++ (chl ++ (tl ++ Z))) := ⟨_, rfl⟩
  have N3 := news_sub (l' := (L + 1 + 1, oC) :: W1) N2 (by
    subst hW1
    intro q hq
    simp only [List.mem_cons, List.mem_append, List.cons_append, List.nil_append, List.not_mem_nil, or_false] at hq ⊢
    grind)
  have apW1 : ∀ q ∈ W1, q.1 ≠ L + 1 + 1 := by
    intro q hq
    have hin : q.1 = L + 1 ∨ q ∈ (901, tabObj (chTab cc)) :: (drs, listOf dvs.toArray nr) :: (Tr, listOf #[Value.int fi ti] 0) :: (cl ++ (chl ++ ((dls, listOf (tl.map fun p => Value.ref p.1).toArray nd) :: tl))) ∨ q ∈ Z := by
      subst hW1
      simp only [List.mem_cons, List.mem_append] at hq ⊢
      grind
    rcases hin with e | h | h
    · rw [e]; exact (show @Ne Nat _ _ by omega)
    · exact Ne.symm (ap2 q h (L + 1 + 1, oC) (.tail _ (.head _)))
    · exact (hZ q h).1.2.2.2.2.2
  clear N0 F0 N2
  k_steps
  rename Fr h₀ L _ _ => F4
  rename News h₀ L _ _ => N4
  rename_i oC' hoC'
  subst hW1
  refine hk _ _ Tr x y cl chl oC' F4 N4 hoC' ox oy hycc hys hxf hfx hci hch ?_ g8' g2
  intro z hz q hq
  have hzm : z ∈ (901, tabObj (chTab cc)) :: (drs, listOf dvs.toArray nr) :: (Tr, listOf #[Value.int fi ti] 0) :: (cl ++ (chl ++ ((dls, listOf (tl.map fun p => Value.ref p.1).toArray nd) :: tl))) := by
    refine List.mem_cons_of_mem _ (List.mem_cons_of_mem _ (List.mem_cons_of_mem _ ?_))
    rcases List.mem_append.mp hz with hz | hz
    · exact List.mem_append_left _ hz
    · exact List.mem_append_right _ (List.mem_append_left _ hz)
  rcases List.mem_cons.mp hq with rfl | hq
  · exact ap2 z hzm (L + 1 + 1, oC) (.tail _ (.head _))
  rcases List.mem_cons.mp hq with rfl | hq
  · exact hap z hz _ (.head _)
  rcases List.mem_cons.mp hq with rfl | hq
  · exact hap z hz _ (.tail _ (.head _))
  rcases List.mem_cons.mp hq with rfl | hq
  · exact hap z hz _ (.tail _ (.tail _ (.tail _ (.head _))))
  rcases List.mem_cons.mp hq with rfl | hq
  · exact hap z hz _ (.tail _ (.tail _ (.head _)))
  rcases List.mem_cons.mp hq with rfl | hq
  · exact ap2 z hzm (L + 1, oDe) (.head _)
  rcases List.mem_append.mp hq with hq | hq
  · exact hap z hz q (.tail _ (.tail _ (.tail _ (.tail _ hq))))
  · exact ap2 z hzm q (.tail _ (.tail _ hq))
end
end Mine
end
section
open PySem PySem.W PyProof.Rows PySem.Calls PyProof.V
set_option Elab.async false
set_option maxRecDepth 100000
set_option maxHeartbeats 2000000
set_option linter.unusedVariables false
set_option linter.unusedSimpArgs false
namespace Mine
local macro_rules | `(tactic| walk_at "pad 0") => `(tactic| fail)
local macro_rules | `(tactic| walk_at "pad 1") => `(tactic| fail)
local macro_rules | `(tactic| walk_at "pad 2") => `(tactic| fail)
local macro_rules | `(tactic| walk_at "pad 3") => `(tactic| fail)
local macro_rules | `(tactic| walk_at "pad 4") => `(tactic| fail)
local macro_rules | `(tactic| walk_at "pad 5") => `(tactic| fail)
local macro_rules | `(tactic| walk_at "pad 6") => `(tactic| fail)
local macro_rules | `(tactic| walk_at "pad 7") => `(tactic| fail)
local macro_rules | `(tactic| walk_at "pad 8") => `(tactic| fail)
local macro_rules | `(tactic| walk_at "pad 9") => `(tactic| fail)
theorem anew_RRF2 : True := by
  w_top off
  trivial
local macro_rules | `(tactic| k_all) => `(tactic| assumption)
local macro_rules | `(tactic| dict_fit) => `(tactic| omega)
local macro_rules | `(tactic| k_room) => `(tactic| ktr_room)
local macro_rules | `(tactic| walk_at "call ref") => `(tactic| ((with_reducible show wpAny _ _ (call (Value.ref _) _ _) _ _ _); refine halt ?_))
local macro_rules | `(tactic| walk_at "call builtin:sorted") => `(tactic| ((with_reducible show wpAny _ _ (call (Value.builtin "sorted") [Value.ref _]) _ _ _); refine halt ?_))
local macro_rules | `(tactic| walk_at "eval Name") => `(tactic| (k_here; k_dflt (refine' nameX_L ?kA1 ?kA2 ?_ ?kA3 ?kA4 ?kA5; (case kA3 => rfl); (case kA4 => rfl); (case kA5 => decide); (case kA1 => k_asm); (case kA2 => ((try dsimp only); (repeat (rw [if_neg (by decide)])); assumption)); k_whole)))
section
variable {prog : Program} {w : World} {p : Program} {loose : List Str} {mean : ExcName → Option Value} {mg mb : Str → Option Value}
theorem finB {dp un : Nat} {gd : Option (List Code)} {a : Addr} {ccd : Value} {A₀ : Around} {base h₀ : Heap} {L : Addr} {mm : Str → Option Value} {s : Shared} {Q : Flow → Shared → Prop} {E : Value → Shared → Prop} {room fi : Int} {x : CA} {y : HA} {kv ix : KV} {ks : List Int} {oC oL : Obj} {vL : Option Value} {cl chl Z : List (Addr × Obj)} {more : List Stmt}
    (B : Below A₀ base [] h₀) (F : Fr h₀ L s.heap mm) (X : (K w.params).In h₀) (N : News h₀ L s.heap ((L + 1 + 1, oC) :: (L + 1 + 1 + 1 + 1 + 1, oL) :: (cl ++ (chl ++ Z)))) (T : Top p loose mean mg mb h₀) (hC : CodeHd base 905 901) (hoC : oC.data = .cell (some (.ref x.c))) (hoL : oL.data = .cell vL)
    (ox : x.ord) (oy : y.ord) (hxf : x.f = y.f) (hfx : @LT.lt Nat _ y.f x.d) (I : Inv kv ix ks) (hc : CacheL prog w x room kv ix ks cl) (hh : ChoiceL y [fi] [] chl) (h9 : (9 : Int) ∉ ks) (hk0 : 0 < ks.length) (hk4 : ks.length ≤ 4) (hroom : (ks.length : Int) = room) (hf0 : 0 ≤ fi)
    (hap : ∀ z ∈ cl ++ chl, ∀ q ∈ (L + 1 + 1, oC) :: (L + 1 + 1 + 1 + 1 + 1, oL) :: Z, q.1 ≠ z.1) (hZ : ∀ q ∈ Z, q.1 ≠ L + 1 + 1 + 1 + 1 + 1)
    (hd : dp + 200 < recursionLimit) (hu : un + 1600 < cLine)
    (hk : ∀ (hh : Heap) (tk : Nat) (sa Le : Addr) (us lvs : List Value) (uk lns : List Int) (n cL : Nat) (cl' chl' : List (Addr × Obj)) (oL' : Obj) (ix' : KV), Fr h₀ L hh mm → News h₀ L hh ((L + 1 + 1, oC) :: (L + 1 + 1 + 1 + 1 + 1, oL') :: (Le, listOf lvs.toArray cL) :: (sa, listOf us.toArray n) :: (cl' ++ (chl' ++ Z))) → oL'.data = .cell (some (.ref Le)) → IntsAre us uk → uk.Perm ks → uk.Pairwise (· ≤ ·) → CacheL prog w x room (put (del kv (ks.getD (pickOf ks fi) 0)) 9 (.str (Str.ofString "new"))) ix' (swapRem ks (pickOf ks fi) ++ [9]) cl' → ChoiceL y [] [.ref sa] chl' → IntsAre lvs lns → lns.Perm ((put (del kv (ks.getD (pickOf ks fi) 0)) 9 (.str (Str.ofString "new"))).map (·.1)) → lns.Pairwise (· ≤ ·) →
      (∀ z ∈ cl', ∀ q ∈ (L + 1 + 1, oC) :: (L + 1 + 1 + 1 + 1 + 1, oL') :: (Le, listOf lvs.toArray cL) :: (sa, listOf us.toArray n) :: (chl' ++ Z), q.1 ≠ z.1) →
      wpAny (model prog w) (ktrTop dp un gd (Str.ofString "law") lscope L a ccd (lcells L) []) (execs more (envX (Str.ofString "law") lscope L a ccd (lcells L))) Q E { s with heap := hh, toks := tk }) :
    wpAny (model prog w) (ktrTop dp un gd (Str.ofString "law") lscope L a ccd (lcells L) []) (execs (fb 1 :: fb 2 :: more) (envX (Str.ofString "law") lscope L a ccd (lcells L))) Q E s := by
  have key : (PySem.Challenge.rw_fc0033_01, Mine.K) = (PySem.Challenge.rw_fc0033_01, Mine.K) := by k_fill; rfl
  clear key
  have hc2 := hc
  obtain ⟨od, oi, kvs9, ivs, vs, nk, u1, u2, u3, u4, u5, u6, uc, ur, hod, hf9, hoi, hfi, hIv, hcl1⟩ := hc2
  have N0 : News h₀ L s.heap ((L + 1 + 1, oC) :: (x.c, instObj 890 x.d) :: (x.d, dictOf (cEs w.params u1 u2 u3 u4 u5 u6 x.dd ((ks.length : Nat) : Int) uc room ur x.f x.di x.dk) 6) :: (L + 1 + 1 + 1 + 1 + 1, oL) :: (cl ++ (chl ++ Z))) := news_sub N (by
    rw [hcl1]
    intro q hq
    simp only [List.mem_cons, List.mem_append, List.cons_append, List.nil_append] at hq ⊢
    rcases hq with hq | hq | hq | hq | hq <;> simp [hq])
  change wpAny _ _ (execs (Stmt.Assign _ _ _ :: Stmt.Assign _ _ _ :: _) (envX _ ⟨_, _, _, _, _⟩ _ _ _ [_, _, _, _, _])) _ _ _
  clear N
  k_steps
  refine unhalt ?_
  have hcs : lscope.kind = .function := rfl
  rename Fr h₀ L _ _ => F1
  rename News h₀ L _ _ => N1
  have hkvl : kv.length = ks.length := by have := I.data.length_eq; rw [List.length_map] at this; exact this
  refine use1 (setfull_spec (room := room) ox oy hc hh hxf hfx I (Flat.str _ _) h9 hk0 (by omega) hroom hf0 (by simp) (by simp)) (rest := (L + 1 + 1, oC) :: (L + 1 + 1 + 1 + 1 + 1, oL) :: Z) B F1 X (news_sub N1 ?_) T hC hcs hap (by omega) (by omega) ?_
  · intro q hq
    simp only [List.mem_cons, List.mem_append] at hq ⊢
    rcases hq with (hq | hq) | hq | hq | hq <;> simp [hq]
  intro r mine h1 tk1 F2 N2 ap2 hpost
  obtain ⟨sa, us, uk, n, cl1, chl1, hus, hperm, hsort, ⟨o1, o2⟩, hc1, hh1, rfl⟩ := hpost
  have hpk : (Int.fmod fi (ks.length : Int)).toNat = pickOf ks fi := rfl
  rw [hpk] at hc1
  have hpl := pickOf_lt hf0 hk0
  have hc3 := hc1
  obtain ⟨od, oi, kvs9, ivs, vs, nk, u1, u2, u3, u4, u5, u6, uc, ur, hod, hf9, hoi, hfi, hIv, hcl2⟩ := hc3
  have N3 : News h₀ L h1 ((L + 1 + 1, oC) :: (x.c, instObj 890 x.d) :: (x.d, dictOf (cEs w.params u1 u2 u3 u4 u5 u6 x.dd ((((swapRem ks (pickOf ks fi) ++ [9]).length : Nat)) : Int) uc room ur x.f x.di x.dk) 6) :: (L + 1 + 1 + 1 + 1 + 1, oL) :: (sa, listOf us.toArray n) :: (cl1 ++ (chl1 ++ Z))) := news_sub N2 (by
    have x1 : (x.c, instObj 890 x.d) ∈ cl1 := by rw [hcl2]; exact .head _
    have x2 : (x.d, dictOf (cEs w.params u1 u2 u3 u4 u5 u6 x.dd ((((swapRem ks (pickOf ks fi) ++ [9]).length : Nat)) : Int) uc room ur x.f x.di x.dk) 6) ∈ cl1 := by rw [hcl2]; exact .tail _ (.head _)
    intro q hq
    simp only [List.mem_cons, List.mem_append] at hq ⊢
    rcases hq with hq | hq | hq | hq | hq | hq | hq | hq
    · exact .inr (.inl hq)
    · exact .inl (.inr (.inl (by rw [hq]; exact x1)))
    · exact .inl (.inr (.inl (by rw [hq]; exact x2)))
    · exact .inr (.inr (.inl hq))
    · exact .inl (.inl hq)
    · exact .inl (.inr (.inl hq))
    · exact .inl (.inr (.inr hq))
    · exact .inr (.inr (.inr hq)))
  clear N2 N1 F1
  k_steps
  refine unhalt ?_
  rename Fr h₀ L _ _ => F4
  rename News h₀ L _ _ => N4
  have hlp : (put (del kv (ks.getD (pickOf ks fi) 0)) 9 (.str (Str.ofString "new"))).length ≤ 60 := by
    have e := put_keys (del kv (ks.getD (pickOf ks fi) 0)) 9 (.str (Str.ofString "new"))
    have e1 := congrArg List.length e
    rw [List.length_map] at e1
    rw [e1]
    have e2 : ((del kv (ks.getD (pickOf ks fi) 0)).map (·.1)).length ≤ kv.length := by rw [List.length_map]; exact List.length_filter_le ..
    split
    · omega
    · rw [List.length_append, List.length_singleton]; omega
  have hcch : ∀ z ∈ cl1, ∀ q ∈ (sa, listOf us.toArray n) :: (chl1 ++ ((L + 1 + 1, oC) :: (L + 1 + 1 + 1 + 1 + 1, oL) :: Z)), q.1 ≠ z.1 := by
    intro z hz q hq
    rcases List.mem_cons.mp hq with rfl | hq
    · exact Ne.symm (Nat.ne_of_lt (Nat.lt_of_le_of_lt (hc1.le ox z hz) o1))
    rcases List.mem_append.mp hq with hq | hq
    · exact Nat.ne_of_lt (Nat.lt_of_le_of_lt (hh1.le oy q hq) (Nat.lt_of_lt_of_le hfx (hc1.ge ox z hz)))
    · exact ap2 z (.tail _ (List.mem_append_left _ hz)) q hq
  refine sorted_cache ox hc1 hlp (rest := (sa, listOf us.toArray n) :: (chl1 ++ ((L + 1 + 1, oC) :: (L + 1 + 1 + 1 + 1 + 1, oL) :: Z))) B F4 X (news_sub N4 ?_) T hC hcs hcch (by omega) (by omega) ?_
  · intro q hq
    simp only [List.mem_cons, List.mem_append] at hq ⊢
    rcases hq with hq | hq | hq | hq | hq | hq <;> simp [hq]
  intro Le lvs lns cL cl2 h5 tk5 F5 N5 lt5 hlI hlp2 hlo hc5
  have hcch5 : ∀ z ∈ cl2, ∀ q ∈ (sa, listOf us.toArray n) :: (chl1 ++ ((L + 1 + 1, oC) :: (L + 1 + 1 + 1 + 1 + 1, oL) :: Z)), q.1 ≠ z.1 := by
    intro z hz q hq
    obtain ⟨z', hz', ez⟩ := hc1.addrs hc5 z hz
    rw [ez]
    exact hcch z' hz' q hq
  obtain ⟨W1, hW1⟩ : ∃ r, r = (L + 1 + 1, oC) :: (Le, listOf lvs.toArray cL) :: (sa, listOf us.toArray n) :: (cl2 ++ (chl1 ++ Z)) := ⟨_, rfl⟩
  have N6 := news_sub (l' := (L + 1 + 1 + 1 + 1 + 1, oL) :: W1) N5 (by
    subst hW1
    intro q hq
    simp only [List.mem_cons, List.mem_append] at hq ⊢
    rcases hq with hq | hq | hq | hq | hq | hq | hq <;> simp [hq])
  have apW1 : ∀ q ∈ W1, q.1 ≠ L + 1 + 1 + 1 + 1 + 1 := by
    intro q hq
    rw [hW1] at hq
    rcases List.mem_cons.mp hq with rfl | hq
    · exact (show @Ne Nat _ _ by dsimp only; omega)
    rcases List.mem_cons.mp hq with rfl | hq
    · exact Ne.symm (Nat.ne_of_lt (lt5 (L + 1 + 1 + 1 + 1 + 1, oL) (by simp)))
    rcases List.mem_cons.mp hq with rfl | hq
    · exact Ne.symm (ap2 (sa, listOf us.toArray n) (.head _) (L + 1 + 1 + 1 + 1 + 1, oL) (by simp))
    rcases List.mem_append.mp hq with hq | hq
    · exact Ne.symm (hcch5 q hq (L + 1 + 1 + 1 + 1 + 1, oL) (by simp))
    rcases List.mem_append.mp hq with hq | hq
    · exact Ne.symm (ap2 q (.tail _ (List.mem_append_right _ hq)) (L + 1 + 1 + 1 + 1 + 1, oL) (by simp))
    · exact hZ q hq
  clear N5 N4 F4
  k_steps
  rename Fr h₀ L _ _ => F7
  rename News h₀ L _ _ => N7
  rename_i oL' hoL'
  subst hW1
  refine hk _ _ sa Le us lvs uk lns n cL cl2 chl1 oL' _ F7 (news_sub N7 ?_) hoL' hus hperm hsort hc5 hh1 hlI hlp2 hlo ?_
  · intro q hq
    simp only [List.mem_cons, List.mem_append] at hq ⊢
    rcases hq with hq | hq | hq | hq | hq | hq | hq <;> simp [hq]
  · intro z hz q hq
    rcases List.mem_cons.mp hq with rfl | hq
    · exact hcch5 z hz _ (by simp)
    rcases List.mem_cons.mp hq with rfl | hq
    · exact hcch5 z hz (L + 1 + 1 + 1 + 1 + 1, oL) (by simp)
    rcases List.mem_cons.mp hq with rfl | hq
    · exact Ne.symm (Nat.ne_of_lt (lt5 z (List.mem_append_left _ hz)))
    rcases List.mem_cons.mp hq with rfl | hq
    · exact hcch5 z hz _ (.head _)
    rcases List.mem_append.mp hq with hq | hq
    · exact hcch5 z hz q (.tail _ (List.mem_append_left _ hq))
    · exact hcch5 z hz q (.tail _ (List.mem_append_right _ (.tail _ (.tail _ hq))))
end
end Mine
end
section
open PySem PySem.W PyProof.Rows PySem.Calls PyProof.V
set_option Elab.async false
set_option maxRecDepth 100000
set_option maxHeartbeats 2000000
set_option linter.unusedVariables false
set_option linter.unusedSimpArgs false
namespace Mine
theorem anew_RRF3 : True := by
  w_top off
  trivial
local macro_rules | `(tactic| k_all) => `(tactic| assumption)
local macro_rules | `(tactic| dict_fit) => `(tactic| omega)
local macro_rules | `(tactic| k_room) => `(tactic| ktr_room)
local macro_rules | `(tactic| walk_at "call ref") => `(tactic| ((with_reducible show wpAny _ _ (call (Value.ref _) _ _) _ _ _); refine halt ?_))
local macro_rules | `(tactic| walk_at "eval ListComp") => `(tactic| ((with_reducible show wpAny _ _ (eval (Expr.ListComp _ _ _ _) _) _ _ _); refine halt ?_))
local macro_rules | `(tactic| walk_at "binaryOp Add ref ref") => `(tactic| ((with_reducible show wpAny _ _ (binaryOp _ (Value.ref _) (Value.ref _)) _ _ _); refine halt ?_))
local macro_rules | `(tactic| walk_at "eval Name") => `(tactic| (k_here; k_dflt (refine' nameX_L ?kA1 ?kA2 ?_ ?kA3 ?kA4 ?kA5; (case kA3 => rfl); (case kA4 => rfl); (case kA5 => decide); (case kA1 => k_asm); (case kA2 => ((try dsimp only); (repeat (rw [if_neg (by decide)])); assumption)); k_whole)))
section
variable {prog : Program} {w : World} {p : Program} {loose : List Str} {mean : ExcName → Option Value} {mg mb : Str → Option Value}
theorem finC {dp un : Nat} {gd : Option (List Code)} {a : Addr} {ccd : Value} {A₀ : Around} {base h₀ : Heap} {L S Le go : Addr} {mm : Str → Option Value} {s : Shared} {Q : Flow → Shared → Prop} {E : Value → Shared → Prop} {nvs lvs gvs : List Value} {nks lns gns : List Int} {cS cL cG : Nat} {oL : Obj} {Z : List (Addr × Obj)} {more : List Stmt}
    (B : Below A₀ base [] h₀) (F : Fr h₀ L s.heap mm) (X : (K w.params).In h₀) (N : News h₀ L s.heap ((L + 1 + 1 + 1 + 1 + 1, oL) :: (Le, listOf lvs.toArray cL) :: (S, listOf nvs.toArray cS) :: (go, listOf gvs.toArray cG) :: Z)) (T : Top p loose mean mg mb h₀) (hC : CodeHd base 905 901) (hoL : oL.data = .cell (some (.ref Le))) (hnI : IntsAre nvs nks) (hlI : IntsAre lvs lns) (hgI : IntsAre gvs gns) (hn4 : nks.length ≤ 4) (hl5 : lns.length ≤ 5) (hg4 : gns.length ≤ 4)
    (m1 : mm (Str.ofString "names") = some (.ref S)) (m2 : mm (Str.ofString "gone") = some (.ref go)) (hd : dp + 200 < recursionLimit) (hu : un + 1600 < cLine)
    (hk : ∀ (hh : Heap) (tk : Nat) (Dg : Addr) (gvs' : List Value) (mm' : Str → Option Value), Fr h₀ L hh mm' → mm' (Str.ofString "gone") = some (.ref Dg) → (∀ y, y ≠ Str.ofString "gone" → mm' y = mm y) → News h₀ L hh ((Dg, listOf gvs'.toArray 0) :: (L + 1 + 1 + 1 + 1 + 1, oL) :: (Le, listOf lvs.toArray cL) :: (S, listOf nvs.toArray cS) :: Z) → IntsAre gvs' (gns ++ nks.filter fun k => decide (k ∉ lns)) → (∀ q ∈ (L + 1 + 1 + 1 + 1 + 1, oL) :: (Le, listOf lvs.toArray cL) :: (S, listOf nvs.toArray cS) :: Z, @LT.lt Nat _ q.1 Dg) →
      wpAny (model prog w) (ktrTop dp un gd (Str.ofString "law") lscope L a ccd (lcells L) []) (execs more (envX (Str.ofString "law") lscope L a ccd (lcells L))) Q E { s with heap := hh, toks := tk }) :
    wpAny (model prog w) (ktrTop dp un gd (Str.ofString "law") lscope L a ccd (lcells L) []) (execs (fb 3 :: more) (envX (Str.ofString "law") lscope L a ccd (lcells L))) Q E s := by
  have key : (PySem.Challenge.rw_fc0033_01, Mine.K) = (PySem.Challenge.rw_fc0033_01, Mine.K) := by k_fill; rfl
  clear key
  have hnvl := hnI.length
  have hlvl := hlI.length
  have hgvl := hgI.length
  change wpAny _ _ (execs (Stmt.Assign _ _ _ :: _) (envX _ ⟨_, _, _, _, _⟩ _ _ _ [_, _, _, _, _])) _ _ _
  k_steps
  refine unhalt ?_
  refine LCt.ListComp_T (F₀ := F) (by with_unfolding_all rfl) (by decide) (by rfl) (by decide) (by rfl) ?_
  refine nameX_L F m1 ?_ rfl rfl (by decide)
  refine LCt.CompSrcT.ledger (by rfl) F N (.tail _ (.tail _ (.head _))) (by rw [List.size_toArray, PySem.sizeLine_eq]; omega) ?_
  intro g'
  refine restT_ind (fun j zs nw => nw = (L + 1 + 1 + 1 + 1 + 1, oL) :: (Le, listOf lvs.toArray cL) :: (S, listOf nvs.toArray cS) :: (go, listOf gvs.toArray cG) :: Z ∧ IntsAre zs ((nks.take j).filter fun k => decide (k ∉ lns))) ?_ ?_ _ 0 [] _ (Nat.zero_add _) ⟨rfl, .nil⟩
  · rintro j zs nw hj ⟨rfl, hzs⟩ v I2 oI2 C3 oC3 D3 m3 h3 tk3 E3 hv3 hC3 hm3 F4 N4 off4 ne4
    obtain ⟨n, t, rfl, hn⟩ := hnI.at j v (by simpa using hv3)
    have hft : (nks.take (j + 1)).filter (fun k => decide (k ∉ lns)) = (nks.take j).filter (fun k => decide (k ∉ lns)) ++ (if n ∉ lns then [n] else []) := by
      rw [List.take_add_one, hn, List.filter_append]
      by_cases h : n ∈ lns <;> simp [h]
    k_steps
    · rename_i ha
      have hin : n ∈ lns := by
        obtain ⟨x, hx, he⟩ := List.any_eq_true.mp ha
        rw [← beq_iff_eq.mp he]; exact hx
      refine ⟨_, _, _, rfl, F4, N4, off4, .inr ⟨_, .tail _ (.tail _ (.head _)), rfl, _, rfl⟩, rfl, ?_⟩
      rw [hft, if_neg (by simpa using hin), List.append_nil]
      exact hzs
    · rename_i ha
      have hin : n ∉ lns := fun hx => by
        have := List.any_eq_false.mp ha n hx
        simp at this
      refine ⟨_, _, _, rfl, F4, N4, off4, .inr ⟨_, .tail _ (.tail _ (.head _)), rfl, _, rfl⟩, rfl, ?_⟩
      rw [hft, if_pos hin]
      exact hzs.append (.cons n t .nil)
  · rintro ys nw ⟨rfl, hys⟩
    intro Dq h' tk' F' N' o1'
    rw [List.size_toArray, hnvl, List.take_of_length_le (Nat.le_refl _)] at hys
    k_steps
    refine unhalt ?_
    have hfl : (nks.filter fun k => decide (k ∉ lns)).length ≤ 4 := Nat.le_trans (List.length_filter_le ..) hn4
    refine kmk_add_ints F' N' (kso_isList (vs := gvs) (n := cG) N' (.tail _ (.tail _ (.tail _ (.tail _ (.head _))))) rfl) (kso_isList (vs := ys) (n := ys.length) N' (.head _) rfl) hgI hys ?_ (by rw [PySem.sizeLine_eq]; omega)
    intro Dg us h8 F8 N8 l8 hus
    have N9 : News h₀ L h8 ((Dg, listOf us.toArray 0) :: (L + 1 + 1 + 1 + 1 + 1, oL) :: (Le, listOf lvs.toArray cL) :: (S, listOf nvs.toArray cS) :: Z) := news_sub N8 (by
      intro q hq
      simp only [List.mem_cons] at hq ⊢
      rcases hq with hq | hq | hq | hq | hq
      · exact .inl hq
      · exact .inr (.inr (.inl hq))
      · exact .inr (.inr (.inr (.inl hq)))
      · exact .inr (.inr (.inr (.inr (.inl hq))))
      · exact .inr (.inr (.inr (.inr (.inr (.inr hq))))))
    clear N8 N' F'
    k_steps
    rename Fr h₀ L _ _ => FC
    rename News h₀ L _ _ => NC
    refine hk _ _ Dg us _ FC (by rfl) (fun y hy => by rw [if_neg hy]) NC hus fun q hq => l8 q ?_
    simp only [List.mem_cons] at hq ⊢
    rcases hq with hq | hq | hq | hq
    · exact .inr (.inl hq)
    · exact .inr (.inr (.inl hq))
    · exact .inr (.inr (.inr (.inl hq)))
    · exact .inr (.inr (.inr (.inr (.inr hq))))
end
end Mine
end
section
open PySem PySem.W PyProof.Rows PySem.Calls PyProof.V
set_option Elab.async false
set_option maxRecDepth 100000
set_option maxHeartbeats 3000000
set_option linter.unusedVariables false
set_option linter.unusedSimpArgs false
namespace Mine
local macro_rules | `(tactic| walk_at "pad 0") => `(tactic| fail)
local macro_rules | `(tactic| walk_at "pad 1") => `(tactic| fail)
local macro_rules | `(tactic| walk_at "pad 2") => `(tactic| fail)
local macro_rules | `(tactic| walk_at "pad 3") => `(tactic| fail)
local macro_rules | `(tactic| walk_at "pad 4") => `(tactic| fail)
local macro_rules | `(tactic| walk_at "pad 5") => `(tactic| fail)
local macro_rules | `(tactic| walk_at "pad 6") => `(tactic| fail)
local macro_rules | `(tactic| walk_at "pad 7") => `(tactic| fail)
local macro_rules | `(tactic| walk_at "pad 8") => `(tactic| fail)
local macro_rules | `(tactic| walk_at "pad 9") => `(tactic| fail)
theorem anew_RRF4 : True := by
  w_top off
  trivial
local macro_rules | `(tactic| k_all) => `(tactic| assumption)
local macro_rules | `(tactic| dict_fit) => `(tactic| omega)
local macro_rules | `(tactic| k_room) => `(tactic| ktr_room)
local macro_rules | `(tactic| walk_at "call ref") => `(tactic| ((with_reducible show wpAny _ _ (call (Value.ref _) _ _) _ _ _); refine halt ?_))
local macro_rules | `(tactic| walk_at "eval ListComp") => `(tactic| ((with_reducible show wpAny _ _ (eval (Expr.ListComp _ _ _ _) _) _ _ _); refine halt ?_))
local macro_rules | `(tactic| walk_at "compareOp NotEq ref ref") => `(tactic| ((with_reducible show wpAny _ _ (compareOp _ (Value.ref _) (Value.ref _)) _ _ _); refine halt ?_))
local macro_rules | `(tactic| walk_at "CompSrc") => `(tactic| ((with_reducible show LCg.CompSrc _ _ _ _ _ _ _ _ _ _ _ _ _ _); refine halt ?_))
local macro_rules | `(tactic| walk_at "CompEnd") => `(tactic| ((with_reducible show LCg.CompEnd _ _ _ _ _ _ _ _ _ _ _ _ _ _); refine halt ?_))
local macro_rules | `(tactic| walk_at "subscriptTail Name Slice ref ref") => `(tactic| ((with_reducible show wpAny _ _ (subscriptTail _ _ (Value.ref _) (Value.ref _)) _ _ _); refine halt ?_))
local macro_rules | `(tactic| walk_at "eval Name") => `(tactic| (k_here; k_dflt (refine' nameX_L ?kA1 ?kA2 ?_ ?kA3 ?kA4 ?kA5; (case kA3 => rfl); (case kA4 => rfl); (case kA5 => decide); (case kA1 => k_asm); (case kA2 => ((try dsimp only); (repeat (rw [if_neg (by decide)])); assumption)); k_whole)))
section
variable {α : Type} {a0 a1 a2 a3 a4 a5 a6 a7 a8 b1 b2 b3 c1 c2 : α} {l1 l2 l3 : List α}
theorem re11 (h1 : c1 ∈ l1) (h2 : c2 ∈ l1) : ∀ q ∈ b1 :: b2 :: b3 :: a6 :: c1 :: c2 :: (a0 :: a1 :: a2 :: a3 :: a4 :: a5 :: a7 :: a8 :: (l1 ++ l2)), q ∈ b1 :: b2 :: b3 :: a0 :: a1 :: a2 :: a3 :: a4 :: a5 :: a6 :: a7 :: a8 :: (l1 ++ l2) := by
  intro q hq; simp only [List.mem_cons, List.mem_append] at hq ⊢; grind
theorem re12 : ∀ q ∈ l1 ++ (b1 :: b2 :: b3 :: a0 :: a1 :: a2 :: a3 :: a4 :: a5 :: a6 :: a7 :: a8 :: l2), q ∈ b1 :: b2 :: b3 :: a0 :: a1 :: a2 :: a3 :: a4 :: a5 :: a6 :: a7 :: a8 :: (l1 ++ l2) := by
  intro q hq; simp only [List.mem_cons, List.mem_append] at hq ⊢; grind
theorem re13 : ∀ q ∈ b1 :: b2 :: b3 :: a0 :: a1 :: a2 :: a3 :: a4 :: a5 :: a6 :: a7 :: a8 :: (l1 ++ l2), q ∈ l1 ++ (b1 :: b2 :: b3 :: a0 :: a1 :: a2 :: a3 :: a4 :: a5 :: a6 :: a7 :: a8 :: l2) := by
  intro q hq; simp only [List.mem_cons, List.mem_append] at hq ⊢; grind
end
section
variable {prog : Program} {w : World} {p : Program} {loose : List Str} {mean : ExcName → Option Value} {mg mb : Str → Option Value}
theorem finD {dp un : Nat} {gd : Option (List Code)} {a : Addr} {ccd : Value} {A₀ : Around} {base h₀ : Heap} {L S Le sen sa D : Addr} {mm : Str → Option Value} {s : Shared} {Q : Flow → Shared → Prop} {E : Value → Shared → Prop} {room : Int} {x : CA} {kv kv1 ix1 : KV} {ks1 : List Int} {nvs lvs us : List Value} {nks lns : List Int} {cS cL cs cu : Nat} {oL oC oP oD : Obj} {kvs : List (Int × Value)} {val : Int → Int} {cl Z : List (Addr × Obj)} {more : List Stmt}
    (B : Below A₀ base [] h₀) (F : Fr h₀ L s.heap mm) (X : (K w.params).In h₀) (N : News h₀ L s.heap ((L + 1 + 1 + 1 + 1 + 1, oL) :: (Le, listOf lvs.toArray cL) :: (sen, listOf #[Value.ref sa] cs) :: (sa, listOf us.toArray cu) :: (S, listOf nvs.toArray cS) :: (L + 1 + 1, oC) :: (L + 1 + 1 + 1, oP) :: (D, oD) :: (cl ++ Z))) (T : Top p loose mean mg mb h₀) (hC : CodeHd base 905 901) (hoL : oL.data = .cell (some (.ref Le))) (hoC : oC.data = .cell (some (.ref x.c))) (hoP : oP.data = .cell (some (.ref D))) (hIs : oD.IsDictOf (intKind prog w) kvs) (hfl : FlatPairs PyData.int kvs (encD kv)) (h1D : @LT.lt Nat _ 1 D) (hkl : kv.length ≤ 4)
    (hnI : IntsAre nvs nks) (huI : IntsAre us nks) (hlI : IntsAre lvs (lns ++ [9])) (hn4 : nks.length ≤ 4) (hl4 : lns.length ≤ 4) (ox : x.ord) (hc : CacheL prog w x room kv1 ix1 ks1 cl) (hkv1 : kv1.length ≤ 64) (hv1 : ∀ k ∈ lns, look kv1 k = some (.int (val k))) (hv2 : ∀ k ∈ lns, look kv k = some (.int (val k)))
    (hap : ∀ z ∈ cl, ∀ q ∈ (L + 1 + 1 + 1 + 1 + 1, oL) :: (Le, listOf lvs.toArray cL) :: (sen, listOf #[Value.ref sa] cs) :: (sa, listOf us.toArray cu) :: (S, listOf nvs.toArray cS) :: (L + 1 + 1, oC) :: (L + 1 + 1 + 1, oP) :: (D, oD) :: Z, q.1 ≠ z.1)
    (m1 : mm (Str.ofString "names") = some (.ref S)) (m2 : mm (Str.ofString "seen") = some (.ref sen)) (hd : dp + 200 < recursionLimit) (hu : un + 1600 < cLine)
    (hk : ∀ (hh : Heap) (tk : Nat) (cl' : List (Addr × Obj)), Fr h₀ L hh mm → News h₀ L hh ((L + 1 + 1 + 1 + 1 + 1, oL) :: (Le, listOf lvs.toArray cL) :: (sen, listOf #[Value.ref sa] cs) :: (sa, listOf us.toArray cu) :: (S, listOf nvs.toArray cS) :: (L + 1 + 1, oC) :: (L + 1 + 1 + 1, oP) :: (D, oD) :: (cl' ++ Z)) →
      wpAny (model prog w) (ktrTop dp un gd (Str.ofString "law") lscope L a ccd (lcells L) []) (execs more (envX (Str.ofString "law") lscope L a ccd (lcells L))) Q E { s with heap := hh, toks := tk }) :
    wpAny (model prog w) (ktrTop dp un gd (Str.ofString "law") lscope L a ccd (lcells L) []) (execs (fb 4 :: more) (envX (Str.ofString "law") lscope L a ccd (lcells L))) Q E s := by
  have key : (PySem.Challenge.rw_fc0033_01, Mine.K) = (PySem.Challenge.rw_fc0033_01, Mine.K) := by k_fill; rfl
  clear key
  have hnvl := hnI.length
  have hlvl := hlI.length
  rw [List.length_append, List.length_singleton] at hlvl
  have hDD : (D == sysModules) = false := modules_ne h1D
  have hkl2 : (encD kv).length ≤ 64 := by rw [encD_length]; omega
  change wpAny _ _ (execs (Stmt.If _ _ _ _ :: _) (envX _ ⟨_, _, _, _, _⟩ _ _ _ [_, _, _, _, _])) _ _ _
  k_steps
  refine unhalt ?_
  rename Fr h₀ L _ _ => F1
  rename News h₀ L _ _ => N1
  refine kqd_same (n₁ := [(sa, listOf us.toArray cu)]) (n₂ := [(S, listOf nvs.toArray cS)]) (xs := [Value.ref sa]) (ys := [Value.ref S]) (ds := [datR nks]) N1 (.tail _ (.tail _ (.tail _ (.head _)))) rfl rfl (.cons (.list (.head _) (ints_dat huI)) .nil) (fun q hq => by rw [List.mem_singleton.mp hq]; exact .tail _ (.tail _ (.tail _ (.tail _ (.head _))))) (.head _) rfl rfl (.cons (.list (.head _) (ints_dat hnI)) .nil) (fun q hq => by rw [List.mem_singleton.mp hq]; exact .tail _ (.tail _ (.tail _ (.tail _ (.tail _ (.head _)))))) (fun d hd => by rw [List.mem_singleton.mp hd]; exact datR_ok [nks] _ (.head _)) (by exact (show un + 64 < cLine by omega)) ?_
  have N2 := news_sub (l' := (L + 1 + 1 + 1 + 1 + 1, oL) :: (Le, listOf lvs.toArray cL) :: (sen, listOf #[Value.ref sa] cs) :: (sa, listOf us.toArray cu) :: (S, listOf nvs.toArray cS) :: (L + 1 + 1, oC) :: (L + 1 + 1 + 1, oP) :: (D, oD) :: (cl ++ Z)) N1 fun q hq => .tail _ hq
  clear N1
  k_steps
  refine unhalt ?_
  rename Fr h₀ L _ _ => F2
  rename News h₀ L _ _ => N3
  refine LCg.ListComp_U (F₀ := F2) (by with_unfolding_all rfl) (by decide) (by rfl) (by decide) (by rfl) ?_
  k_steps
  refine unhalt ?_
  have hsl : IntsAre (slicePick lvs.toArray none (some (-1)) none).toList lns := by
    have h := kmk_upto_neg hlI (y := -1) (by decide)
    have e : (lns ++ [(9 : Int)]).take ((lns ++ [(9 : Int)]).length - (-(-1) : Int).toNat) = lns := by
      rw [List.length_append, List.length_singleton, show (-(-1) : Int).toNat = 1 by decide, Nat.add_sub_cancel, List.take_left']
      rfl
    rw [e] at h
    exact h
  rename Fr h₀ L _ _ => F4
  rename News h₀ L _ _ => N4
  obtain ⟨PRE, hPRE⟩ : ∃ r, r = ((L + 1 + 1 + 1 + 1 + 1, oL) :: (Le, listOf lvs.toArray cL) :: (sen, listOf #[Value.ref sa] cs) :: (sa, listOf us.toArray cu) :: (S, listOf nvs.toArray cS) :: (L + 1 + 1, oC) :: (L + 1 + 1 + 1, oP) :: (D, oD) :: (cl ++ Z)) := ⟨_, rfl⟩
  dsimp only at F4 N4 ⊢
  refine kmk_slice_ints (s := { s with heap := _, toks := _ }) F4 N4 (kso_isList (vs := lvs) (n := cL) N4 (.tail _ (.head _)) rfl) IsPart.none (IsPart.int _ _) hlI hsl rfl ?_ (by rfl) (by kmk_pure) (by rw [List.size_toArray, PySem.sizeLine_eq]; omega)
  intro D7 ws7 h7 F7 N7 l7 hI7 _ _
  have hws := hI7.length
  have l7c : ∀ z ∈ cl, @LT.lt Nat _ z.1 D7 := fun z hz => l7 z (by simp [hz])
  clear N4 F4
  refine LCg.CompSrc.ledger (by rfl) F7 N7 (.head _) (by rw [List.size_toArray, PySem.sizeLine_eq]; omega) ?_
  intro g'
  refine rest_ind (fun j ys nw => ∃ cl' : List (Addr × Obj), CacheL prog w x room kv1 ix1 ks1 cl' ∧ IntsAre ys ((lns.take j).map val) ∧ nw = (D7, listOf ws7.toArray 0) :: (L + 1 + 1 + 1 + 1 + 1, oL) :: (Le, listOf lvs.toArray cL) :: (sen, listOf #[Value.ref sa] cs) :: (sa, listOf us.toArray cu) :: (S, listOf nvs.toArray cS) :: (L + 1 + 1, oC) :: (L + 1 + 1 + 1, oP) :: (D, oD) :: (cl' ++ Z) ∧ (∀ z ∈ cl', ∀ q ∈ (D7, listOf ws7.toArray 0) :: (L + 1 + 1 + 1 + 1 + 1, oL) :: (Le, listOf lvs.toArray cL) :: (sen, listOf #[Value.ref sa] cs) :: (sa, listOf us.toArray cu) :: (S, listOf nvs.toArray cS) :: (L + 1 + 1, oC) :: (L + 1 + 1 + 1, oP) :: (D, oD) :: Z, q.1 ≠ z.1)) ?_ ?_ _ 0 [] _ (Nat.zero_add _) ⟨cl, hc, .nil, rfl, fun z hz q hq => by
    rcases List.mem_cons.mp hq with rfl | hq
    · exact Ne.symm (Nat.ne_of_lt (l7c z hz))
    · exact hap z hz q hq⟩
  · rintro j ys nw hj ⟨cl1, hc1, hys, rfl, hap1⟩ v Ia oI C oC3 Dq m3 h3 tk3 E3 hv3 hC3 hm3 F8 N8 off3 ne3
    have off' := off3.mem
    obtain ⟨n, t, rfl, hn⟩ := hI7.at j v (by simpa using hv3)
    have hnm := List.mem_of_getElem? hn
    have hc2 := hc1
    obtain ⟨od, oi, kvs9, ivs, vs, nk, u1, u2, u3, u4, u5, u6, uc, ur, hod, hf9, hoi, hfi, hIv, hcl1⟩ := hc2
    have N9 : News h₀ L h3 ((Ia, oI) :: (C, oC3) :: (Dq, LCg.lst ys) :: (L + 1 + 1, oC) :: (x.c, instObj 890 x.d) :: (x.d, dictOf (cEs w.params u1 u2 u3 u4 u5 u6 x.dd (ks1.length : Int) uc room ur x.f x.di x.dk) 6) :: ((D7, listOf ws7.toArray 0) :: (L + 1 + 1 + 1 + 1 + 1, oL) :: (Le, listOf lvs.toArray cL) :: (sen, listOf #[Value.ref sa] cs) :: (sa, listOf us.toArray cu) :: (S, listOf nvs.toArray cS) :: (L + 1 + 1 + 1, oP) :: (D, oD) :: (cl1 ++ Z))) := news_sub N8 (by
      have x1 : (x.c, instObj 890 x.d) ∈ cl1 := by rw [hcl1]; exact .head _
      have x2 : (x.d, dictOf (cEs w.params u1 u2 u3 u4 u5 u6 x.dd (ks1.length : Int) uc room ur x.f x.di x.dk) 6) ∈ cl1 := by rw [hcl1]; exact .tail _ (.head _)
      exact re11 x1 x2)
    clear N7 F7
    k_steps
    refine unhalt ?_
    rename Fr h₀ L _ _ => FA
    rename News h₀ L _ _ => NA
    refine use1 (getitem_spec ox hc1 (hv1 n hnm) hkv1) (rest := (Ia, oI) :: (C, oC3) :: (Dq, LCg.lst ys) :: (D7, listOf ws7.toArray 0) :: (L + 1 + 1 + 1 + 1 + 1, oL) :: (Le, listOf lvs.toArray cL) :: (sen, listOf #[Value.ref sa] cs) :: (sa, listOf us.toArray cu) :: (S, listOf nvs.toArray cS) :: (L + 1 + 1, oC) :: (L + 1 + 1 + 1, oP) :: (D, oD) :: Z) B FA X (news_sub N8 re12) T hC (by exact rfl) ?_ (by exact (show dp + 5 < recursionLimit by omega)) (by exact (show un + 1 + 60 < cLine by omega)) ?_
    · intro z hz q hq
      have hzo := off' z (by simp [hz])
      rcases List.mem_cons.mp hq with rfl | hq
      · exact Ne.symm hzo.1
      rcases List.mem_cons.mp hq with rfl | hq
      · exact Ne.symm hzo.2.1
      rcases List.mem_cons.mp hq with rfl | hq
      · exact Ne.symm hzo.2.2
      · exact hap1 z hz q hq
    intro r mine hB tkB FB NB apB hpost
    obtain ⟨hfv, hcm⟩ := hpost
    obtain ⟨u, rfl⟩ := Flat.int_inv hfv
    refine ⟨hB, tkB, (D7, listOf ws7.toArray 0) :: (L + 1 + 1 + 1 + 1 + 1, oL) :: (Le, listOf lvs.toArray cL) :: (sen, listOf #[Value.ref sa] cs) :: (sa, listOf us.toArray cu) :: (S, listOf nvs.toArray cS) :: (L + 1 + 1, oC) :: (L + 1 + 1 + 1, oP) :: (D, oD) :: (mine ++ Z), rfl, FB, news_sub NB re13, LCg.Off3.of ?_, .inr ⟨_, .head _, rfl, _, rfl⟩, mine, hcm, ?_, rfl, fun z hz q hq => apB z hz q (.tail _ (.tail _ (.tail _ hq)))⟩
    · intro q hq
      have hin : q ∈ mine ∨ q ∈ (D7, listOf ws7.toArray 0) :: (L + 1 + 1 + 1 + 1 + 1, oL) :: (Le, listOf lvs.toArray cL) :: (sen, listOf #[Value.ref sa] cs) :: (sa, listOf us.toArray cu) :: (S, listOf nvs.toArray cS) :: (L + 1 + 1, oC) :: (L + 1 + 1 + 1, oP) :: (D, oD) :: (cl1 ++ Z) := by
        simp only [List.mem_cons, List.mem_append] at hq ⊢
        rcases hq with hq | hq | hq | hq | hq | hq | hq | hq | hq | hq | hq <;> simp [hq]
      rcases hin with hq | hq
      · exact ⟨Ne.symm (apB q hq _ (.head _)), Ne.symm (apB q hq _ (.tail _ (.head _))), Ne.symm (apB q hq _ (.tail _ (.tail _ (.head _))))⟩
      · exact off' q hq
    · rw [List.take_add_one, hn, List.map_append]
      exact hys.append (.cons (val n) u .nil)
  · rintro ys nw ⟨cl1, hc1, hys, rfl, hap1⟩
    intro Dq hB tkB FB NB o1'
    rw [List.size_toArray, hws, List.take_of_length_le (Nat.le_refl _)] at hys
    have NC := news_sub (l' := (Dq, LCg.lst ys) :: (L + 1 + 1 + 1 + 1 + 1, oL) :: (Le, listOf lvs.toArray cL) :: (sen, listOf #[Value.ref sa] cs) :: (sa, listOf us.toArray cu) :: (S, listOf nvs.toArray cS) :: (L + 1 + 1, oC) :: (L + 1 + 1 + 1, oP) :: (D, oD) :: (cl1 ++ Z)) NB (by
      intro q hq
      rcases List.mem_cons.mp hq with hq | hq
      · rw [hq]; exact .head _
      · exact .tail _ (.tail _ hq))
    clear NB F7 N7
    k_steps
    refine unhalt ?_
    rename Fr h₀ L _ _ => FC
    rename News h₀ L _ _ => NC
    refine LCg.ListComp_U (F₀ := FC) (by with_unfolding_all rfl) (by decide) (by rfl) (by decide) (by rfl) ?_
    k_steps
    refine unhalt ?_
    rename Fr h₀ L _ _ => FD
    rename News h₀ L _ _ => ND
    dsimp only at FD ND ⊢
    refine kmk_slice_ints (s := { s with heap := _, toks := _ }) FD ND (kso_isList (vs := lvs) (n := cL) ND (.tail _ (.tail _ (.head _))) rfl) IsPart.none (IsPart.int _ _) hlI hsl rfl ?_ (by rfl) (by kmk_pure) (by rw [List.size_toArray, PySem.sizeLine_eq]; omega)
    intro D8 ws8 h8 F8 N8 l8 hI8 _ _
    have hws8 := hI8.length
    clear ND FD
    refine LCg.CompSrc.ledger (by rfl) F8 N8 (.head _) (by rw [List.size_toArray, PySem.sizeLine_eq]; omega) ?_
    intro g2
    refine rest_ind (fun j zs nw => IntsAre zs ((lns.take j).map val) ∧ nw = (D8, listOf ws8.toArray 0) :: (Dq, LCg.lst ys) :: (L + 1 + 1 + 1 + 1 + 1, oL) :: (Le, listOf lvs.toArray cL) :: (sen, listOf #[Value.ref sa] cs) :: (sa, listOf us.toArray cu) :: (S, listOf nvs.toArray cS) :: (L + 1 + 1, oC) :: (L + 1 + 1 + 1, oP) :: (D, oD) :: (cl1 ++ Z)) ?_ ?_ _ 0 [] _ (Nat.zero_add _) ⟨.nil, rfl⟩
    · rintro j zs nw hj ⟨hzs, rfl⟩ v Ia oI C oC3 De m3 h3 tk3 E3 hv3 hC3 hm3 F9 N9 off3 ne3
      obtain ⟨n, t, rfl, hn⟩ := hI8.at j v (by simpa using hv3)
      have hnm := List.mem_of_getElem? hn
      have hl : PySem.Spec.lookup (PyData.int n) (encD kv) = some (.int (val n)) := by rw [lookup_encD]; exact hv2 n hnm
      clear N8 F8
      k_steps
      refine unhalt ?_
      refine ⟨_, _, _, rfl, F9, N9, off3, .inr ⟨_, .head _, rfl, _, rfl⟩, ?_, rfl⟩
      rw [List.take_add_one, hn, List.map_append]
      exact hzs.append (.cons (val n) _ .nil)
    · rintro zs nw ⟨hzs, rfl⟩
      intro Df hE tkE FE NE o2'
      rw [List.size_toArray, hws8, List.take_of_length_le (Nat.le_refl _)] at hzs
      k_steps
      refine unhalt ?_
      refine ke_ne_ints (kso_isList (vs := ys) (n := ys.length) NE (.tail _ (.tail _ (.head _))) rfl) (kso_isList (vs := zs) (n := zs.length) NE (.head _) rfl) hys hzs (by exact (show un + 64 < cLine by omega)) ?_
      rw [decide_eq_true rfl]
      have NF := news_sub (l' := (L + 1 + 1 + 1 + 1 + 1, oL) :: (Le, listOf lvs.toArray cL) :: (sen, listOf #[Value.ref sa] cs) :: (sa, listOf us.toArray cu) :: (S, listOf nvs.toArray cS) :: (L + 1 + 1, oC) :: (L + 1 + 1 + 1, oP) :: (D, oD) :: (cl1 ++ Z)) NE fun q hq => .tail _ (.tail _ (.tail _ hq))
      clear NE
      k_steps
      rename Fr h₀ L _ _ => FG
      rename News h₀ L _ _ => NG
      exact hk _ _ cl1 FG NG
end
end Mine
end
section
open PySem PySem.W PyProof.Rows PySem.Calls PyProof.V
set_option Elab.async false
set_option maxRecDepth 100000
set_option maxHeartbeats 2000000
set_option linter.unusedVariables false
set_option linter.unusedSimpArgs false
namespace Mine
theorem left_eq {kv : KV} {ks nks lns : List Int} {g : Int} {v : PyData} (hkp : (kv.map (·.1)).Perm ks) (hnp : nks.Perm ks) (hns : nks.Pairwise (· ≤ ·)) (h9 : ∀ k ∈ ks, k < 9) (hl : lns.Perm ((put (del kv g) 9 v).map (·.1))) (hls : lns.Pairwise (· ≤ ·)) : lns = (nks.filter fun k => decide (k ≠ g)) ++ [9] := by
  have h9' : (9 : Int) ∉ (del kv g).map (·.1) := by
    rw [del_keys]
    intro h
    have h1 := (List.mem_filter.mp h).1
    have := h9 9 (hkp.mem_iff.mp h1)
    omega
  refine sorted_eq (hl.trans ?_) hls ?_
  · rw [put_keys, if_neg h9', del_keys]
    exact ((hkp.trans hnp.symm).filter _).append_right _
  · refine List.pairwise_append.mpr ⟨hns.filter _, List.pairwise_singleton .., fun a ha b hb => ?_⟩
    rw [List.mem_singleton.mp hb]
    exact Int.le_of_lt (h9 a (hnp.mem_iff.mp (List.mem_filter.mp ha).1))
theorem gone_eq {ks nks : List Int} {g : Int} (hn : ks.Nodup) (hnp : nks.Perm ks) (hg : g ∈ ks) (h9 : ∀ k ∈ ks, k < 9) : (nks.filter fun k => decide (k ∉ (nks.filter fun k => decide (k ≠ g)) ++ [9])) = [g] := by
  have hnn : nks.Nodup := hnp.nodup_iff.mpr hn
  have hgn : g ∈ nks := hnp.mem_iff.mpr hg
  have e : (nks.filter fun k => decide (k ∉ (nks.filter fun k => decide (k ≠ g)) ++ [9])) = nks.filter fun k => decide (k = g) := by
    refine List.filter_congr fun k hk => ?_
    have := h9 k (hnp.mem_iff.mp hk)
    have h1 : k ≠ 9 := by omega
    by_cases h : k = g
    · subst h
      have : ¬ (k ∈ (nks.filter fun k' => decide (k' ≠ k)) ++ [9]) := by
        rw [List.mem_append, List.mem_filter, List.mem_singleton]
        rintro (⟨-, a⟩ | a)
        · exact of_decide_eq_true a rfl
        · exact h1 a
      exact decide_eq_decide.mpr ⟨fun _ => rfl, fun _ => this⟩
    · have : k ∈ (nks.filter fun k' => decide (k' ≠ g)) ++ [9] := by
        simp [hk, h]
      simp only [decide_eq_decide]
      exact ⟨fun a => absurd this a, fun a => absurd a h⟩
  rw [e]
  clear e hnp h9 hn hg
  induction nks with
  | nil => cases hgn
  | cons x r ih =>
    rw [List.nodup_cons] at hnn
    by_cases h : x = g
    · subst h
      rw [List.filter_cons_of_pos (by simp)]
      congr 1
      rw [List.filter_eq_nil_iff]
      intro a ha e
      have : a = x := of_decide_eq_true e
      exact hnn.1 (this ▸ ha)
    · rw [List.filter_cons_of_neg (by simpa using h)]
      exact ih hnn.2 ((List.mem_cons.mp hgn).resolve_left fun e => h e.symm)
def valOf (kv : KV) (k : Int) : Int := match look kv k with
  | some (.int v) => v
  | _ => 0
section
variable {α : Type} {a1 a2 a3 a4 a5 a6 a7 a8 a9 a10 a11 a12 a13 a14 a15 a16 a17 : α} {l1 l2 l3 l4 : List α}
theorem rf1 : ∀ q ∈ a1 :: a2 :: a3 :: a4 :: a5 :: a6 :: a7 :: (l1 ++ (a8 :: a9 :: a10 :: a11 :: a12 :: l2)), q ∈ a1 :: a2 :: a3 :: a4 :: a5 :: a6 :: a7 :: a8 :: a9 :: a10 :: a11 :: a12 :: (l1 ++ l2) := by
  intro q hq; simp only [List.mem_cons, List.mem_append] at hq ⊢; grind
theorem rf2 : ∀ q ∈ a7 :: a9 :: (l3 ++ (l4 ++ (a1 :: a4 :: a5 :: a13 :: a6 :: a8 :: a10 :: a11 :: a12 :: (l1 ++ l2)))), q ∈ a7 :: a1 :: a4 :: a5 :: a13 :: a6 :: (l3 ++ (l4 ++ (l1 ++ (a8 :: a9 :: a10 :: a11 :: a12 :: l2)))) := by
  intro q hq; simp only [List.mem_cons, List.mem_append] at hq ⊢; grind
theorem rf2' : ∀ q ∈ a7 :: a9 :: (a1 :: a4 :: a5 :: a13 :: a6 :: a8 :: a10 :: a11 :: a12 :: (l1 ++ l2)), q ∈ a7 :: a1 :: a4 :: a5 :: a13 :: a6 :: (l1 ++ (a8 :: a9 :: a10 :: a11 :: a12 :: l2)) := by
  intro q hq; simp only [List.mem_cons, List.mem_append] at hq ⊢; grind
theorem rf3 : ∀ q ∈ a9 :: a14 :: a10 :: a12 :: (a7 :: a15 :: (l3 ++ (l4 ++ (a1 :: a4 :: a5 :: a13 :: a6 :: a8 :: a11 :: (l1 ++ l2))))), q ∈ a7 :: a9 :: a14 :: a15 :: (l3 ++ (l4 ++ (a1 :: a4 :: a5 :: a13 :: a6 :: a8 :: a10 :: a11 :: a12 :: (l1 ++ l2)))) := by
  intro q hq; simp only [List.mem_cons, List.mem_append] at hq ⊢; grind
theorem rf4 (h1 : a16 ∈ l4) (h2 : a17 ∈ l4) : ∀ q ∈ a9 :: a14 :: a17 :: a15 :: a10 :: a7 :: a8 :: a11 :: (l3 ++ (a16 :: a12 :: a1 :: a4 :: a5 :: a6 :: (l1 ++ l2))), q ∈ a12 :: a9 :: a14 :: a10 :: (a7 :: a15 :: (l3 ++ (l4 ++ (a1 :: a4 :: a5 :: a13 :: a6 :: a8 :: a11 :: (l1 ++ l2))))) := by
  intro q hq; simp only [List.mem_cons, List.mem_append] at hq ⊢; grind
theorem rf5 : ∀ q ∈ a1 :: a16 :: a17 :: a4 :: a5 :: a6 :: a7 :: a8 :: a9 :: a10 :: a11 :: a12 :: (l1 ++ l2), q ∈ a9 :: a14 :: a17 :: a15 :: a10 :: a7 :: a8 :: a11 :: (l3 ++ (a16 :: a12 :: a1 :: a4 :: a5 :: a6 :: (l1 ++ l2))) := by
  intro q hq; simp only [List.mem_cons, List.mem_append] at hq ⊢; grind
end
section
variable {prog : Program} {w : World} {p : Program} {loose : List Str} {mean : ExcName → Option Value} {mg mb : Str → Option Value}
theorem fin_body {dp un : Nat} {gd : Option (List Code)} {a : Addr} {ccd : Value} {A₀ : Around} {base h₀ : Heap} {L S D : Addr} {mm : Str → Option Value} {s : Shared} {Q : Flow → Shared → Prop} {E : Value → Shared → Prop} {drs dls sen cc go : Addr} {nd nr nsv cS cG : Nat} {tr ti : Tok} {dvs sv nvs gvs : List Value} {ns nks gns : List Int} {fi : Int} {nN : Nat} {oDe oC oc oP oL oD : Obj} {cvs : Array Value} {ct : Tok} {vL : Option Value} {vC : Value} {kvs : List (Int × Value)} {tl Z : List (Addr × Obj)} {more : List Stmt}
    (B : Below A₀ base [] h₀) (F : Fr h₀ L s.heap mm) (X : (K w.params).In h₀) (N : News h₀ L s.heap ((901, tabObj (chTab cc)) :: (cc, oc) :: (sen, listOf sv.toArray nsv) :: (drs, listOf dvs.toArray nr) :: (dls, listOf (tl.map fun p => Value.ref p.1).toArray nd) :: (L + 1, oDe) :: (L + 1 + 1, oC) :: (L + 1 + 1 + 1, oP) :: (L + 1 + 1 + 1 + 1 + 1, oL) :: (S, listOf nvs.toArray cS) :: (D, oD) :: (go, listOf gvs.toArray cG) :: (tl ++ Z))) (T : Top p loose mean mg mb h₀) (XB : (K w.params).In base) (TB : Top p loose mean mg mb base) (hC : CodeHd base 905 901) (hDe : oDe.data = .cell (some (.ref dls))) (hoC : oC.data = .cell (some vC)) (hoL : oL.data = .cell vL) (hoP : oP.data = .cell (some (.ref D)))
    (hoc : oc.data = .fields cvs) (hct : cvs[1]? = some (.str (Str.ofString "_law_choice.<locals>.chosen") ct)) (hT : Tups tl (deedsOf ns nN)) (hdv : IntsAre dvs (drawsOf ns nN)) (hn8 : nN ≤ 8) (hsv : sv.length ≤ 80)
    (hIs : oD.IsDictOf (intKind prog w) kvs) (SF : St) (hSF : SF = runD (1 + nxt ns 0 4) ⟨[], [], drawsOf ns nN⟩ (deedsOf ns nN)) (hfl : FlatPairs PyData.int kvs (encD SF.kv)) (hkn : SF.ks.Nodup) (hkp : (SF.kv.map (·.1)).Perm SF.ks) (hk4 : SF.ks.length ≤ 4) (hvi : ∀ k pd, look SF.kv k = some pd → ∃ v : Int, pd = .int v) (h9 : ∀ k ∈ SF.ks, k < 9) (hnI : IntsAre nvs nks) (hnp : nks.Perm SF.ks) (hns : nks.Pairwise (· ≤ ·)) (hgI : IntsAre gvs gns) (hg4 : gns.length ≤ 4) (hfull : (SF.ks.length : Int) = 1 + nxt ns 0 4) (hf0 : 0 ≤ fi)
    (h901 : @LT.lt Nat _ 901 L) (e1 : @LT.lt Nat _ (L + 1 + 1 + 1 + 1 + 1) dls) (e2 : @LT.lt Nat _ dls drs) (e3 : ∀ q ∈ tl, @LT.lt Nat _ drs q.1 ∧ @LT.lt Nat _ q.1 sen) (e6 : @LT.lt Nat _ drs sen) (e4 : @LT.lt Nat _ sen cc) (e7 : @LT.lt Nat _ cc D) (e8 : @LT.lt Nat _ D S) (e9 : @LT.lt Nat _ S go)
    (hZ : ∀ q ∈ Z, (@Ne Nat q.1 901 ∧ @Ne Nat q.1 cc ∧ @Ne Nat q.1 sen ∧ @Ne Nat q.1 drs ∧ @Ne Nat q.1 dls ∧ @Ne Nat q.1 (L + 1 + 1)) ∧ (∀ x ∈ tl, @Ne Nat q.1 x.1) ∧ @Ne Nat q.1 (L + 1 + 1 + 1 + 1 + 1))
    (m1 : mm (Str.ofString "draws") = some (.ref drs)) (m2 : mm (Str.ofString "room") = some (.int (1 + nxt ns 0 4) tr)) (m3 : mm (Str.ofString "first") = some (.int fi ti)) (m4 : mm (Str.ofString "seen") = some (.ref sen)) (m5 : mm (Str.ofString "names") = some (.ref S)) (m6 : mm (Str.ofString "gone") = some (.ref go)) (hd : dp + 200 < recursionLimit) (hu : un + 1600 < cLine)
    (hk : ∀ (hh : Heap) (tk : Nat) (mm' : Str → Option Value) (Dg vX vY : Addr) (nsv' : Nat) (oc' oC' oL' : Obj) (cvs' : Array Value) (ct' : Tok) (sv' gvs' : List Value), Fr h₀ L hh mm' → mm' (Str.ofString "gone") = some (.ref Dg) → (∀ y, y ≠ Str.ofString "gone" → mm' y = mm y) → News h₀ L hh ((901, tabObj (chTab cc)) :: (cc, oc') :: (sen, listOf sv'.toArray nsv') :: (drs, listOf dvs.toArray nr) :: (dls, listOf (tl.map fun p => Value.ref p.1).toArray nd) :: (L + 1, oDe) :: (L + 1 + 1, oC') :: (L + 1 + 1 + 1, oP) :: (L + 1 + 1 + 1 + 1 + 1, oL') :: (S, listOf nvs.toArray cS) :: (D, oD) :: (Dg, listOf gvs'.toArray 0) :: (tl ++ Z)) → sv'.length ≤ 4 → oc'.data = .fields cvs' → cvs'[1]? = some (.str (Str.ofString "_law_choice.<locals>.chosen") ct') → oC'.data = .cell (some (.ref vX)) → oL'.data = .cell (some (.ref vY)) → IntsAre gvs' (gns ++ [SF.ks.getD (pickOf SF.ks fi) 0]) → @LT.lt Nat _ S Dg → (∀ q ∈ tl ++ Z, @LT.lt Nat _ q.1 Dg) →
      wpAny (model prog w) (ktrTop dp un gd (Str.ofString "law") lscope L a ccd (lcells L) []) (execs more (envX (Str.ofString "law") lscope L a ccd (lcells L))) Q E { s with heap := hh, toks := tk }) :
    wpAny (model prog w) (ktrTop dp un gd (Str.ofString "law") lscope L a ccd (lcells L) []) (execs (fb 0 :: fb 1 :: fb 2 :: fb 3 :: fb 4 :: more) (envX (Str.ofString "law") lscope L a ccd (lcells L))) Q E s := by
  have hr := nxt_range ns 0 4 (by decide)
  have h1D : @LT.lt Nat _ 1 D := by omega
  have hnl := hnp.length_eq
  have hk0 : 0 < SF.ks.length := by omega
  have h9m : (9 : Int) ∉ SF.ks := fun h => by have := h9 9 h; omega
  have hkvl : SF.kv.length = SF.ks.length := by have := hkp.length_eq; rw [List.length_map] at this; exact this
  have hkvn : (SF.kv.map (·.1)).Nodup := hkp.nodup_iff.mpr hkn
  refine finA (Z := (L + 1 + 1 + 1, oP) :: (L + 1 + 1 + 1 + 1 + 1, oL) :: (S, listOf nvs.toArray cS) :: (D, oD) :: (go, listOf gvs.toArray cG) :: Z) B F X (news_sub N rf1) T XB TB hC hDe hoC hoc hct hT hdv hn8 hsv h901 (by omega) e2 e3 e4 e6 ?_ m1 m2 m3 m4 hd hu ?_
  · intro q hq
    have small : ∀ z : Nat, (@LT.lt Nat _ (L + 1 + 1) z ∧ @LT.lt Nat _ z dls) ∨ (@LT.lt Nat _ cc z) → (@Ne Nat z 901 ∧ @Ne Nat z cc ∧ @Ne Nat z sen ∧ @Ne Nat z drs ∧ @Ne Nat z dls ∧ @Ne Nat z (L + 1 + 1)) ∧ ∀ x ∈ tl, @Ne Nat z x.1 := by
      intro z hz
      refine ⟨⟨?_, ?_, ?_, ?_, ?_, ?_⟩, fun x hx => ?_⟩
      · omega
      · omega
      · omega
      · omega
      · omega
      · omega
      · have := e3 x hx
        omega
    rcases List.mem_cons.mp hq with rfl | hq
    · exact small _ (.inl ⟨by omega, by omega⟩)
    rcases List.mem_cons.mp hq with rfl | hq
    · exact small _ (.inl ⟨by omega, by omega⟩)
    rcases List.mem_cons.mp hq with rfl | hq
    · exact small _ (.inr (by omega))
    rcases List.mem_cons.mp hq with rfl | hq
    · exact small _ (.inr (by omega))
    rcases List.mem_cons.mp hq with rfl | hq
    · exact small _ (.inr (by omega))
    · exact ⟨(hZ q hq).1, (hZ q hq).2.1⟩
  intro h1 tk1 Tr x y cl chl oC1 F1 N1 hoC1 ox oy hycc hys hxf hfx hci hch ap1 ltT ccT
  rw [← hSF] at hci
  obtain ⟨ix, I, hcl⟩ := hci
  have hTL5 : @LT.lt Nat _ (L + 1 + 1 + 1 + 1 + 1) Tr := ltT (L + 1 + 1 + 1 + 1 + 1, oL) (by simp)
  refine finB B F1 X (news_sub N1 rf2) T hC hoC1 hoL ox oy hxf hfx I hcl hch h9m hk0 hk4 hfull hf0 (fun z hz q hq => ap1 z hz q (rf2' q hq)) ?_ hd hu ?_
  · intro q hq
    rcases List.mem_cons.mp hq with rfl | hq
    · exact (show @Ne Nat _ _ by dsimp only; omega)
    rcases List.mem_cons.mp hq with rfl | hq
    · exact (show @Ne Nat _ _ by dsimp only; omega)
    rcases List.mem_cons.mp hq with rfl | hq
    · exact (show @Ne Nat _ _ by dsimp only; omega)
    rcases List.mem_cons.mp hq with rfl | hq
    · exact (show @Ne Nat _ _ by dsimp only; omega)
    rcases List.mem_cons.mp hq with rfl | hq
    · exact (show @Ne Nat _ _ by dsimp only; omega)
    rcases List.mem_cons.mp hq with rfl | hq
    · exact (show @Ne Nat _ _ by dsimp only; omega)
    rcases List.mem_cons.mp hq with rfl | hq
    · exact (show @Ne Nat _ _ by dsimp only; omega)
    rcases List.mem_cons.mp hq with rfl | hq
    · exact (show @Ne Nat _ _ by dsimp only; omega)
    rcases List.mem_cons.mp hq with rfl | hq
    · exact (show @Ne Nat _ _ by dsimp only; omega)
    rcases List.mem_append.mp hq with hq | hq
    · have := e3 q hq
      exact (show @Ne Nat _ _ by omega)
    · exact (hZ q hq).2.2
  intro h2 tk2 sa Le us lvs uk lns n cL cl2 chl2 oL1 ix2 F2 N2 hoL1 hus hukp huks hc2 hch2 hlI hlp hlo ap2
  obtain ⟨g, hg⟩ : ∃ g, g = SF.ks.getD (pickOf SF.ks fi) 0 := ⟨_, rfl⟩
  have hgm : g ∈ SF.ks := by rw [hg]; exact getD_mem (pickOf_lt hf0 hk0)
  rw [← hg] at hc2 hlp hk
  have hlns := left_eq hkp hnp hns h9 hlp hlo
  subst hlns
  have hukn : uk = nks := sorted_eq (hukp.trans hnp.symm) huks hns
  subst hukn
  have hinl : (uk.filter fun k => decide (k ≠ g)).length ≤ 4 := Nat.le_trans (List.length_filter_le ..) (by omega)
  refine finC B F2 X (news_sub N2 rf3) T hC hoL1 hnI hlI hgI (by omega) (by rw [List.length_append, List.length_singleton]; omega) hg4 m5 m6 hd hu ?_
  intro h3 tk3 Dg gvs' mm3 F3 mg3 me3 N3 hgI' ltD
  rw [gone_eq hkn hnp hgm h9] at hgI'
  obtain ⟨yf, ycc, yc1, yc2, yl, ys⟩ := y
  dsimp only at hycc hys
  subst hycc hys
  obtain ⟨oc', o1', o2', cvs', t', doc, pm, ctv, ls, z1, z2, hoc', hct', hd1, hd2, hLS, rfl⟩ := hch2
  dsimp only at N3 N2 ap2 ltD
  have hv : ∀ k ∈ uk.filter (fun k => decide (k ≠ g)), look SF.kv k = some (.int (valOf SF.kv k)) := by
    intro k hk
    have hkk := hnp.mem_iff.mp (List.mem_filter.mp hk).1
    obtain ⟨pd, hpd⟩ := Option.isSome_iff_exists.mp (by rw [look_isSome]; exact decide_eq_true (hkp.mem_iff.mpr hkk))
    obtain ⟨v, rfl⟩ := hvi k pd hpd
    unfold valOf
    rw [hpd]
  have hlen1 : (put (del SF.kv g) 9 (.str (Str.ofString "new"))).length ≤ 64 := by
    have := hlp.length_eq
    rw [List.length_append, List.length_singleton, List.length_map] at this
    omega
  refine finD (val := valOf SF.kv) B F3 X (news_sub N3 (rf4 (a16 := (ycc, oc')) (a17 := (ys, listOf #[Value.ref sa] z2)) (.tail _ (.head _)) (.tail _ (.tail _ (.tail _ (.tail _ (.tail _ (.head _)))))))) T hC hoL1 hoC1 hoP hIs hfl h1D (by omega) hnI hus hlI (by omega) hinl ox hc2 hlen1 ?_ hv ?_ (by rw [me3 _ (by decide)]; exact m5) (by rw [me3 _ (by decide)]; exact m4) hd hu ?_
  · intro k hk
    have h1 := List.mem_filter.mp hk
    have h2 : k ≠ g := by simpa using h1.2
    have h3 := h9 k (hnp.mem_iff.mp h1.1)
    rw [look_put, if_neg (by omega), look_del, if_neg h2]
    exact hv k hk
  · intro z hz q hq
    have hzD : @LT.lt Nat _ z.1 Dg := ltD z (by simp [hz])
    simp only [List.mem_cons, List.mem_append] at hq
    rcases hq with hq | hq | hq | hq | hq | hq | hq | hq | hq | hq | hq | hq | hq | hq | hq | hq
    · exact ap2 z hz q (by simp [hq])
    · exact ap2 z hz q (by simp [hq])
    · exact ap2 z hz q (by simp [hq])
    · exact ap2 z hz q (by simp [hq])
    · exact ap2 z hz q (by simp [hq])
    · exact ap2 z hz q (by simp [hq])
    · exact ap2 z hz q (by simp [hq])
    · exact ap2 z hz q (by simp [hq])
    · exact ap2 z hz q (by simp [hq])
    · rw [hq]; exact Ne.symm (Nat.ne_of_lt hzD)
    · exact ap2 z hz q (by simp [hq])
    · exact ap2 z hz q (by simp [hq])
    · exact ap2 z hz q (by simp [hq])
    · exact ap2 z hz q (by simp [hq])
    · exact ap2 z hz q (by simp [hq])
    · exact ap2 z hz q (by simp [hq])
  intro h4 tk4 cl4 F4 N4
  exact hk h4 tk4 mm3 Dg x.c Le z2 oc' oC1 oL1 cvs' t' [Value.ref sa] gvs' F4 mg3 me3 (news_sub N4 rf5) (by simp) hoc' hct' hoC1 hoL1 hgI' (ltD (S, listOf nvs.toArray cS) (by simp)) fun q hq => ltD q (by
    rcases List.mem_append.mp hq with hq | hq <;> simp [hq])
end
end Mine
end
section
open PySem PySem.W PyProof.Rows PySem.Calls PyProof.V
set_option Elab.async false
set_option maxRecDepth 100000
set_option maxHeartbeats 2000000
set_option linter.unusedVariables false
set_option linter.unusedSimpArgs false
namespace Mine
theorem anew_RRF6 : True := by
  w_top off
  trivial
local macro_rules | `(tactic| k_all) => `(tactic| assumption)
local macro_rules | `(tactic| dict_fit) => `(tactic| omega)
local macro_rules | `(tactic| k_room) => `(tactic| ktr_room)
local macro_rules | `(tactic| walk_at "call ref") => `(tactic| ((with_reducible show wpAny _ _ (call (Value.ref _) _ _) _ _ _); refine halt ?_))
local macro_rules | `(tactic| walk_at "exec For") => `(tactic| ((with_reducible show wpAny _ _ (exec (Stmt.For _ _ _ _ _) _) _ _ _); refine halt ?_))
local macro_rules | `(tactic| walk_at "call builtin:sorted") => `(tactic| ((with_reducible show wpAny _ _ (call (Value.builtin "sorted") [Value.ref _]) _ _ _); refine halt ?_))
local macro_rules | `(tactic| walk_at "compareOp Eq ref ref") => `(tactic| ((with_reducible show wpAny _ _ (compareOp _ (Value.ref _) (Value.ref _)) _ _ _); refine halt ?_))
local macro_rules | `(tactic| walk_at "eval Name") => `(tactic| (k_here; k_dflt (refine' nameX_L ?kA1 ?kA2 ?_ ?kA3 ?kA4 ?kA5; (case kA3 => rfl); (case kA4 => rfl); (case kA5 => decide); (case kA1 => k_asm); (case kA2 => ((try dsimp only); (repeat (rw [if_neg (by decide)])); assumption)); k_whole)))
theorem range_nat (n : Nat) : Builtin.Range.rangeSize 0 (n : Int) 1 = (n : Int) := by
  unfold Builtin.Range.rangeSize
  rw [if_pos (by decide)]
  split
  · rw [Int.ediv_one]; omega
  · omega
theorem pickOf_small {ks : List Int} {i : Nat} (h : i < ks.length) : pickOf ks (i : Int) = i := by
  unfold pickOf
  rw [Int.fmod_eq_emod_of_nonneg _ (by omega), Int.emod_eq_of_lt (by omega) (by omega)]
  rfl
section
variable {α : Type} {a1 a2 a3 a4 a5 a6 a7 a8 a9 a10 a11 a12 b c : α} {l1 l2 : List α}
theorem rf6 : ∀ q ∈ a1 :: a2 :: a3 :: a4 :: a5 :: a6 :: a7 :: a8 :: a9 :: a10 :: a11 :: a12 :: (l1 ++ l2), q ∈ a1 :: a2 :: a3 :: a4 :: a5 :: a6 :: a7 :: a8 :: a9 :: a10 :: a11 :: a12 :: (l1 ++ b :: l2) := by
  intro q hq; simp only [List.mem_cons, List.mem_append] at hq ⊢; grind
theorem rf7 : ∀ q ∈ a1 :: a2 :: a3 :: a4 :: a5 :: a6 :: a7 :: a8 :: a9 :: a10 :: a11 :: a12 :: (l1 ++ b :: l2), q = b ∨ q ∈ a1 :: a2 :: a3 :: a4 :: a5 :: a6 :: a7 :: a8 :: a9 :: a10 :: a11 :: a12 :: (l1 ++ l2) := by
  intro q hq; simp only [List.mem_cons, List.mem_append] at hq ⊢; grind
theorem rf9 : b ∈ a1 :: a2 :: a3 :: a4 :: a5 :: a6 :: a7 :: a8 :: a9 :: a10 :: a11 :: a12 :: (l1 ++ b :: l2) := by
  simp only [List.mem_cons, List.mem_append]; grind
theorem rf11 : ∀ q ∈ a1 :: a2 :: a3 :: a4 :: a5 :: a6 :: a7 :: a8 :: a9 :: a10 :: a11 :: a12 :: (l1 ++ b :: l2), q ∈ b :: a12 :: a1 :: a2 :: a3 :: a4 :: a5 :: a6 :: a7 :: a8 :: a9 :: a10 :: a11 :: (l1 ++ l2) := by
  intro q hq; simp only [List.mem_cons, List.mem_append] at hq ⊢; grind
theorem rf8 : ∀ q ∈ [a12, a10, a1], q ∈ a1 :: a2 :: a3 :: a4 :: a5 :: a6 :: a7 :: a8 :: a9 :: a10 :: a11 :: a12 :: l1 := by
  intro q hq; simp only [List.mem_cons, List.mem_append] at hq ⊢; grind
end
section
variable {prog : Program} {w : World} {p : Program} {loose : List Str} {mean : ExcName → Option Value} {mg mb : Str → Option Value}
theorem fin_loop {dp un : Nat} {gd : Option (List Code)} {a : Addr} {ccd : Value} {A₀ : Around} {base h₀ : Heap} {L S D go0 I : Addr} {mm : Str → Option Value} {s : Shared} {R : Result → Shared → Prop} {drs dls sen cc : Addr} {nd nr nsv cS nT : Nat} {tr : Tok} {dvs sv nvs : List Value} {ns nks : List Int} {nN : Nat} {oDe oC oc oP oL oD oI : Obj} {cvs : Array Value} {ct : Tok} {vL : Option Value} {vC : Value} {kvs : List (Int × Value)} {tl Z : List (Addr × Obj)} {pos : Pos}
    (B : Below A₀ base [] h₀) (F : Fr h₀ L s.heap mm) (X : (K w.params).In h₀) (N : News h₀ L s.heap ((901, tabObj (chTab cc)) :: (cc, oc) :: (sen, listOf sv.toArray nsv) :: (drs, listOf dvs.toArray nr) :: (dls, listOf (tl.map fun p => Value.ref p.1).toArray nd) :: (L + 1, oDe) :: (L + 1 + 1, oC) :: (L + 1 + 1 + 1, oP) :: (L + 1 + 1 + 1 + 1 + 1, oL) :: (S, listOf nvs.toArray cS) :: (D, oD) :: (go0, listOf ([] : List Value).toArray 0) :: (tl ++ ((I, oI) :: Z)))) (hoI : oI = { cls := .type "range_iterator", data := .fields #[rawInt (0 + ((0 : Nat) : Int) * 1), rawInt ((nT : Int) - ((0 : Nat) : Int)), rawInt 1] })
    (T : Top p loose mean mg mb h₀) (XB : (K w.params).In base) (TB : Top p loose mean mg mb base) (hC : CodeHd base 905 901) (hDe : oDe.data = .cell (some (.ref dls))) (hoC : oC.data = .cell (some vC)) (hoL : oL.data = .cell vL) (hoP : oP.data = .cell (some (.ref D)))
    (hoc : oc.data = .fields cvs) (hct : cvs[1]? = some (.str (Str.ofString "_law_choice.<locals>.chosen") ct)) (hT : Tups tl (deedsOf ns nN)) (hdv : IntsAre dvs (drawsOf ns nN)) (hn8 : nN ≤ 8) (hsv : sv.length ≤ 80)
    (hIs : oD.IsDictOf (intKind prog w) kvs) (SF : St) (hSF : SF = runD (1 + nxt ns 0 4) ⟨[], [], drawsOf ns nN⟩ (deedsOf ns nN)) (hfl : FlatPairs PyData.int kvs (encD SF.kv)) (hkn : SF.ks.Nodup) (hkp : (SF.kv.map (·.1)).Perm SF.ks) (hk4 : SF.ks.length ≤ 4) (hvi : ∀ k pd, look SF.kv k = some pd → ∃ v : Int, pd = .int v) (h9 : ∀ k ∈ SF.ks, k < 9) (hnI : IntsAre nvs nks) (hnp : nks.Perm SF.ks) (hns : nks.Pairwise (· ≤ ·))
    (h901 : @LT.lt Nat _ 901 L) (e1 : @LT.lt Nat _ (L + 1 + 1 + 1 + 1 + 1) dls) (e2 : @LT.lt Nat _ dls drs) (e3 : ∀ q ∈ tl, @LT.lt Nat _ drs q.1 ∧ @LT.lt Nat _ q.1 sen) (e6 : @LT.lt Nat _ drs sen) (e4 : @LT.lt Nat _ sen cc) (e7 : @LT.lt Nat _ cc D) (e8 : @LT.lt Nat _ D S)
    (hZ : ∀ q ∈ Z, (@Ne Nat q.1 901 ∧ @Ne Nat q.1 cc ∧ @Ne Nat q.1 sen ∧ @Ne Nat q.1 drs ∧ @Ne Nat q.1 dls ∧ @Ne Nat q.1 (L + 1 + 1)) ∧ (∀ x ∈ tl, @Ne Nat q.1 x.1) ∧ @Ne Nat q.1 (L + 1 + 1 + 1 + 1 + 1))
    (hZI : ∀ q ∈ Z, @Ne Nat q.1 I) (e9 : @LT.lt Nat _ S go0) (e10 : @LT.lt Nat _ go0 I) (hnT : nT = 0 ∨ (nT = SF.ks.length ∧ (SF.ks.length : Int) = 1 + nxt ns 0 4))
    (m1 : mm (Str.ofString "draws") = some (.ref drs)) (m2 : mm (Str.ofString "room") = some (.int (1 + nxt ns 0 4) tr)) (m4 : mm (Str.ofString "seen") = some (.ref sen)) (m5 : mm (Str.ofString "names") = some (.ref S)) (m6 : mm (Str.ofString "gone") = some (.ref go0)) (hd : dp + 200 < recursionLimit) (hu : un + 1600 < cLine)
    (hR : ∀ (hh : Heap) (tk : Nat) (m3 : Str → Option Value) (go : Addr) (gvs : List Value), Fr h₀ L hh m3 → m3 (Str.ofString "gone") = some (.ref go) → m3 (Str.ofString "room") = mm (Str.ofString "room") → m3 (Str.ofString "names") = some (.ref S) → News h₀ L hh ((go, listOf gvs.toArray 0) :: (S, listOf nvs.toArray cS) :: [(901, tabObj (chTab cc))]) → IntsAre gvs (SF.ks.take nT) → R (.ok .next) { s with heap := hh, toks := tk }) :
    codeAny (model prog w) (ktrTop dp un gd (Str.ofString "law") lscope L a ccd (lcells L) []) (.forLoop (Expr.Name (Str.ofString "first") pos) (.ref I) [fb 0, fb 1, fb 2, fb 3, fb 4] [] (envX (Str.ofString "law") lscope L a ccd (lcells L))) R s := by
  have hr := nxt_range ns 0 4 (by decide)
  refine loop_own (KTurns.ofWalks (Walks.range (A := ktrTop dp un gd (Str.ofString "law") lscope L a ccd (lcells L) []) rfl I 0 1 nT) (fun _ _ _ _ _ _ hQ => wpAny_pure hQ))
    (fun i s' => Held (∃ (hh : Heap) (tk : Nat) (m3 : Str → Option Value) (oI : Obj) (go : Addr) (nsv' : Nat) (oc' oC' oL' : Obj) (vC' : Value) (vL' : Option Value) (cvs' : Array Value) (ct' : Tok) (sv' gvs : List Value), s' = { s with heap := hh, toks := tk } ∧ Fr h₀ L hh m3 ∧ (∀ y, y ≠ Str.ofString "gone" → y ≠ Str.ofString "first" → m3 y = mm y) ∧ m3 (Str.ofString "gone") = some (.ref go) ∧ oI = { cls := .type "range_iterator", data := .fields #[rawInt (0 + (i : Nat) * 1), rawInt ((nT : Int) - (i : Nat)), rawInt 1] } ∧
      News h₀ L hh ((901, tabObj (chTab cc)) :: (cc, oc') :: (sen, listOf sv'.toArray nsv') :: (drs, listOf dvs.toArray nr) :: (dls, listOf (tl.map fun p => Value.ref p.1).toArray nd) :: (L + 1, oDe) :: (L + 1 + 1, oC') :: (L + 1 + 1 + 1, oP) :: (L + 1 + 1 + 1 + 1 + 1, oL') :: (S, listOf nvs.toArray cS) :: (D, oD) :: (go, listOf gvs.toArray 0) :: (tl ++ ((I, oI) :: Z))) ∧ sv'.length ≤ 80 ∧ oc'.data = .fields cvs' ∧ cvs'[1]? = some (.str (Str.ofString "_law_choice.<locals>.chosen") ct') ∧ oC'.data = .cell (some vC') ∧ oL'.data = .cell vL' ∧ IntsAre gvs (SF.ks.take i) ∧ @LT.lt Nat _ S go ∧ @Ne Nat go I)) ?h0 ?hst ?step ?hR
  case h0 =>
    exact Held.mk ⟨s.heap, s.toks, mm, oI, go0, nsv, oc, oC, oL, vC, vL, cvs, ct, sv, [], rfl, F, fun _ _ _ => rfl, m6, hoI, N, hsv, hoc, hct, hoC, hoL, .nil, e9, Nat.ne_of_lt e10⟩
  case hst =>
    rintro i s' ⟨hh, tk, m3, oI, go, nsv', oc', oC', oL', vC', vL', cvs', ct', sv', gvs, rfl, FF, hm3, hgo, rfl, NN, -⟩
    exact (NN (I, _) rf9).1
  case step =>
    rintro i v s' h₁ tk₁ hi ⟨hh, tk, m3, oI, go, nsv', oc', oC', oL', vC', vL', cvs', ct', sv', gvs, rfl, FF, hm3, hgo, rfl, NN, hsv', hoc', hct', hoC', hoL', hgv, hSg, hgI⟩ ⟨tv, rfl⟩ hst₁ hk₁
    obtain ⟨hTk, hfull⟩ : nT = SF.ks.length ∧ (SF.ks.length : Int) = 1 + nxt ns 0 4 := hnT.resolve_left (by omega)
    have hI0 := (NN (I, _) rf9).2
    dsimp only at hI0
    have offI : ∀ q ∈ (901, tabObj (chTab cc)) :: (cc, oc') :: (sen, listOf sv'.toArray nsv') :: (drs, listOf dvs.toArray nr) :: (dls, listOf (tl.map fun p => Value.ref p.1).toArray nd) :: (L + 1, oDe) :: (L + 1 + 1, oC') :: (L + 1 + 1 + 1, oP) :: (L + 1 + 1 + 1 + 1 + 1, oL') :: (S, listOf nvs.toArray cS) :: (D, oD) :: (go, listOf gvs.toArray 0) :: (tl ++ Z), q.1 ≠ I := by
      intro q hq
      rcases List.mem_cons.mp hq with rfl | hq
      · exact (show @Ne Nat _ _ by dsimp only; omega)
      rcases List.mem_cons.mp hq with rfl | hq
      · exact (show @Ne Nat _ _ by dsimp only; omega)
      rcases List.mem_cons.mp hq with rfl | hq
      · exact (show @Ne Nat _ _ by dsimp only; omega)
      rcases List.mem_cons.mp hq with rfl | hq
      · exact (show @Ne Nat _ _ by dsimp only; omega)
      rcases List.mem_cons.mp hq with rfl | hq
      · exact (show @Ne Nat _ _ by dsimp only; omega)
      rcases List.mem_cons.mp hq with rfl | hq
      · exact (show @Ne Nat _ _ by dsimp only; omega)
      rcases List.mem_cons.mp hq with rfl | hq
      · exact (show @Ne Nat _ _ by dsimp only; omega)
      rcases List.mem_cons.mp hq with rfl | hq
      · exact (show @Ne Nat _ _ by dsimp only; omega)
      rcases List.mem_cons.mp hq with rfl | hq
      · exact (show @Ne Nat _ _ by dsimp only; omega)
      rcases List.mem_cons.mp hq with rfl | hq
      · exact (show @Ne Nat _ _ by dsimp only; omega)
      rcases List.mem_cons.mp hq with rfl | hq
      · exact (show @Ne Nat _ _ by dsimp only; omega)
      rcases List.mem_cons.mp hq with rfl | hq
      · exact hgI
      rcases List.mem_append.mp hq with hq | hq
      · have := e3 q hq
        exact (show @Ne Nat _ _ by omega)
      · exact hZI q hq
    have F1 : Fr h₀ L h₁ m3 := LCg.fr_but FF hk₁ (Ne.symm hI0.1) hI0.2
    have N1' := LCg.news_but (news_sub NN rf6) hk₁ offI
    obtain ⟨oI', hoI'⟩ : ∃ o : Obj, o = { cls := .type "range_iterator", data := .fields #[rawInt (0 + ((i + 1 : Nat) : Int) * 1), rawInt ((nT : Int) - ((i + 1 : Nat) : Int)), rawInt 1] } := ⟨_, rfl⟩
    have N1 : News h₀ L h₁ ((901, tabObj (chTab cc)) :: (cc, oc') :: (sen, listOf sv'.toArray nsv') :: (drs, listOf dvs.toArray nr) :: (dls, listOf (tl.map fun p => Value.ref p.1).toArray nd) :: (L + 1, oDe) :: (L + 1 + 1, oC') :: (L + 1 + 1 + 1, oP) :: (L + 1 + 1 + 1 + 1 + 1, oL') :: (S, listOf nvs.toArray cS) :: (D, oD) :: (go, listOf gvs.toArray 0) :: (tl ++ ((I, oI') :: Z))) := fun q hq => by
      rcases rf7 q hq with rfl | hq
      · exact ⟨by rw [hoI']; exact hst₁, hI0⟩
      · exact N1' q hq
    clear N1' NN FF hk₁
    refine wpAny_assign_Name (wpAny_storeName_local rfl F1.ns (fun h4 hn4 hs4 => ?_) (by rfl))
    have hL0 : h₀.get? L = none := Heap.get?_none_of_le F1.above
    have F2 : Fr h₀ L h4 (fun z => if z = Str.ofString "first" then some (.int (0 + (i : Int) * 1) tv) else m3 z) := ⟨hn4, fun b o e => hs4.extBut b o (fun q => by
      have q' : b = L := q
      rw [q', hL0] at e; cases e) (F1.keep b o e), F1.above⟩
    have N2 := fun q hq => (⟨hs4.extBut _ _ (N1 q hq).2.1 (N1 q hq).1, (N1 q hq).2⟩ : h4.get? q.1 = some q.2 ∧ q.1 ≠ L ∧ h₀.get? q.1 = none)
    have N2 : News h₀ L h4 _ := N2
    clear N1 F1
    have hgvl := hgv.length
    rw [List.length_take] at hgvl
    obtain ⟨m4', hm4'⟩ : ∃ m4', m4' = (fun z => if z = Str.ofString "first" then some (Value.int (0 + (i : Int) * 1) tv) else m3 z) := ⟨_, rfl⟩
    rw [← hm4'] at F2
    have gR : m4' (Str.ofString "first") = some (.int (0 + (i : Int) * 1) tv) := by rw [hm4']; rfl
    have gO : ∀ y, y ≠ Str.ofString "first" → m4' y = m3 y := fun y hy => by rw [hm4']; dsimp only; rw [if_neg hy]
    clear hm4'
    have hfi : (0 : Int) + (i : Int) * 1 = (i : Int) := by omega
    rw [hfi] at gR
    refine fin_body (tr := tr) (fi := (i : Int)) (more := []) (Z := (I, oI') :: Z) (gns := SF.ks.take i) B F2 X N2 T XB TB hC hDe hoC' hoL' hoP hoc' hct' hT hdv hn8 hsv' hIs SF hSF hfl hkn hkp hk4 hvi h9 hnI hnp hns hgv (by rw [List.length_take]; omega) hfull (by omega) h901 e1 e2 e3 e6 e4 e7 e8 hSg ?_ ?_ ?_ gR ?_ ?_ ?_ hd hu ?_
    · intro q hq
      rcases List.mem_cons.mp hq with rfl | hq
      · dsimp only
        refine ⟨⟨?_, ?_, ?_, ?_, ?_, ?_⟩, fun x hx => ?_, ?_⟩
        · omega
        · omega
        · omega
        · omega
        · omega
        · omega
        · have := e3 x hx
          omega
        · omega
      · exact hZ q hq
    · rw [gO _ (by decide), hm3 _ (by decide) (by decide)]; exact m1
    · rw [gO _ (by decide), hm3 _ (by decide) (by decide)]; exact m2
    · rw [gO _ (by decide), hm3 _ (by decide) (by decide)]; exact m4
    · rw [gO _ (by decide), hm3 _ (by decide) (by decide)]; exact m5
    · rw [gO _ (by decide)]; exact hgo
    intro h5 tk5 mm5 Dg vX vY nsv5 oc5 oC5 oL5 cvs5 ct5 sv5 gvs5 F5 mg5 me5 N5 hsv5 hoc5 hct5 hoC5 hoL5 hgv5 hSD hlt5
    refine wpAny_execs_nil ?_
    refine Held.mk ⟨h5, tk5, mm5, oI', Dg, nsv5, oc5, oC5, oL5, _, _, cvs5, ct5, sv5, gvs5, rfl, F5, fun y y1 y2 => by rw [me5 y y1, gO y y2]; exact hm3 y y1 y2, mg5, hoI', N5, by omega, hoc5, hct5, hoC5, hoL5, ?_, hSD, ?_⟩
    · rw [pickOf_small (by omega)] at hgv5
      have e : SF.ks.take (i + 1) = SF.ks.take i ++ [SF.ks.getD i 0] := by
        rw [List.take_add_one, List.getElem?_eq_getElem (by omega), List.getD_eq_getElem?_getD, List.getElem?_eq_getElem (by omega)]
        rfl
      rw [e]
      exact hgv5
    · exact Ne.symm (Nat.ne_of_lt (hlt5 (I, oI') (by simp)))
  case hR =>
    rintro s' h₁ tk₁ ⟨hh, tk, m3, oI, go, nsv', oc', oC', oL', vC', vL', cvs', ct', sv', gvs, rfl, FF, hm3, hgo, rfl, NN, hsv', hoc', hct', hoC', hoL', hgv, hSg, hgI⟩ hk₁
    have hI0 := (NN (I, _) rf9).2
    dsimp only at hI0
    have F1 : Fr h₀ L h₁ m3 := LCg.fr_but FF hk₁ (Ne.symm hI0.1) hI0.2
    have N1 : News h₀ L h₁ ((go, listOf gvs.toArray 0) :: (S, listOf nvs.toArray cS) :: [(901, tabObj (chTab cc))]) := LCg.news_but (news_sub NN rf8) hk₁ (by
      intro q hq
      rcases List.mem_cons.mp hq with rfl | hq
      · exact hgI
      rcases List.mem_cons.mp hq with rfl | hq
      · exact (show @Ne Nat _ _ by dsimp only; omega)
      rcases List.mem_cons.mp hq with rfl | hq
      · exact (show @Ne Nat _ _ by dsimp only; omega)
      · exact nomatch hq)
    exact hR h₁ tk₁ m3 go gvs F1 hgo (hm3 _ (by decide) (by decide)) (by rw [hm3 _ (by decide) (by decide)]; exact m5) N1 hgv
theorem fin_ret {dp un : Nat} {gd : Option (List Code)} {a : Addr} {ccd : Value} {A₀ : Around} {base h₀ : Heap} {L S go cc : Addr} {mm : Str → Option Value} {s : Shared} {Q : Flow → Shared → Prop} {E : Value → Shared → Prop} {nT cS : Nat} {tr : Tok} {nvs gvs : List Value} {ns nks ks : List Int}
    (B : Below A₀ base [] h₀) (F : Fr h₀ L s.heap mm) (X : (K w.params).In h₀) (N : News h₀ L s.heap ((go, listOf gvs.toArray 0) :: (S, listOf nvs.toArray cS) :: [(901, tabObj (chTab cc))])) (T : Top p loose mean mg mb h₀) (hC : CodeHd base 905 901)
    (hk4 : ks.length ≤ 4) (hnI : IntsAre nvs nks) (hnp : nks.Perm ks) (hns : nks.Pairwise (· ≤ ·)) (hgI : IntsAre gvs (ks.take nT)) (hnT : (nT = 0 ∧ (ks.length : Int) ≠ 1 + nxt ns 0 4) ∨ (nT = ks.length ∧ (ks.length : Int) = 1 + nxt ns 0 4))
    (m2 : mm (Str.ofString "room") = some (.int (1 + nxt ns 0 4) tr)) (m5 : mm (Str.ofString "names") = some (.ref S)) (m6 : mm (Str.ofString "gone") = some (.ref go)) (hd : dp + 200 < recursionLimit) (hu : un + 1600 < cLine)
    (hQ : ∀ (hh : Heap) (tk : Nat) (mm' : Str → Option Value), Fr h₀ L hh mm' → News h₀ L hh [(901, tabObj (chTab cc))] → Q (.ret (.bool true)) { s with heap := hh, toks := tk }) :
    wpAny (model prog w) (ktrTop dp un gd (Str.ofString "law") lscope L a ccd (lcells L) []) (execs [lb 15] (envX (Str.ofString "law") lscope L a ccd (lcells L))) Q E s := by
  have key : (PySem.Challenge.rw_fc0033_01, Mine.K) = (PySem.Challenge.rw_fc0033_01, Mine.K) := by k_fill; rfl
  clear key
  have hnvl := hnI.length
  have hnl := hnp.length_eq
  have hgvl := hgI.length
  have htl : (ks.take nT).length ≤ 4 := by rw [List.length_take]; omega
  change wpAny _ _ (execs (Stmt.Return _ _ :: _) (envX _ ⟨_, _, _, _, _⟩ _ _ _ [_, _, _, _, _])) _ _ _
  k_steps
  refine unhalt ?_
  refine kso_sorted F N (kso_isList (vs := gvs) (n := 0) N (.head _) rfl) hgI (by omega) ?_
  intro D1 vs1 ns1 c1 h1 F1 N1 lt1 hI1 hlen1 hp1 ho1 _
  k_steps
  all_goals refine unhalt ?_
  · rename_i hc
    have hT : nT = ks.length := by
      rcases hnT with ⟨-, h⟩ | ⟨h, -⟩
      · exact absurd (by rw [← hnl]; exact hc) h
      · exact h
    rw [hT, List.take_of_length_le (Nat.le_refl _)] at hp1
    have hns1 : ns1 = nks := sorted_eq (hp1.trans hnp.symm) ho1 hns
    subst hns1
    refine ke_eq_ints (kso_isList (vs := vs1) (n := c1) N1 (.head _) rfl) (kso_isList (vs := nvs) (n := cS) N1 (.tail _ (.tail _ (.head _))) rfl) hI1 hnI (by exact (show un + 64 < cLine by omega)) ?_
    rw [decide_eq_true rfl]
    exact hQ _ _ _ F1 (news_sub N1 fun q hq => by rw [List.mem_singleton.mp hq]; simp)
  · rename_i hc l9 _ F9 N9 _
    have hT : nT = 0 := by
      rcases hnT with ⟨h, -⟩ | ⟨-, h⟩
      · exact h
      · exact absurd (by rw [hnl]; exact h) hc
    rw [hT, List.take_zero] at hp1
    have hns1 : ns1 = [] := List.perm_nil.mp hp1
    subst hns1
    refine ke_eq_ints (kso_isList (vs := vs1) (n := c1) N9 (.tail _ (.head _)) rfl) (kso_isList (vs := []) (n := 0) N9 (.head _) rfl) hI1 .nil (by exact (show un + 64 < cLine by omega)) ?_
    rw [decide_eq_true rfl]
    exact hQ _ _ _ F9 (news_sub N9 fun q hq => by rw [List.mem_singleton.mp hq]; simp)
theorem law14 {dp un : Nat} {gd : Option (List Code)} {a : Addr} {ccd : Value} {A₀ : Around} {base h₀ : Heap} {L S D : Addr} {mm : Str → Option Value} {s : Shared} {Q : Flow → Shared → Prop} {E : Value → Shared → Prop} {drs dls sen cc : Addr} {nd nr nsv cS : Nat} {tr : Tok} {dvs sv nvs : List Value} {ns nks : List Int} {nN : Nat} {oDe oC oc oP oL oD : Obj} {cvs : Array Value} {ct : Tok} {vL : Option Value} {vC : Value} {kvs : List (Int × Value)} {tl Z : List (Addr × Obj)}
    (B : Below A₀ base [] h₀) (F : Fr h₀ L s.heap mm) (X : (K w.params).In h₀) (N : News h₀ L s.heap ((901, tabObj (chTab cc)) :: (cc, oc) :: (sen, listOf sv.toArray nsv) :: (drs, listOf dvs.toArray nr) :: (dls, listOf (tl.map fun p => Value.ref p.1).toArray nd) :: (L + 1, oDe) :: (L + 1 + 1, oC) :: (L + 1 + 1 + 1, oP) :: (L + 1 + 1 + 1 + 1 + 1, oL) :: (S, listOf nvs.toArray cS) :: (D, oD) :: (tl ++ Z))) (T : Top p loose mean mg mb h₀) (XB : (K w.params).In base) (TB : Top p loose mean mg mb base) (hC : CodeHd base 905 901) (hDe : oDe.data = .cell (some (.ref dls))) (hoC : oC.data = .cell (some vC)) (hoL : oL.data = .cell vL) (hoP : oP.data = .cell (some (.ref D)))
    (hoc : oc.data = .fields cvs) (hct : cvs[1]? = some (.str (Str.ofString "_law_choice.<locals>.chosen") ct)) (hT : Tups tl (deedsOf ns nN)) (hdv : IntsAre dvs (drawsOf ns nN)) (hn8 : nN ≤ 8) (hsv : sv.length ≤ 80)
    (hIs : oD.IsDictOf (intKind prog w) kvs) (SF : St) (hSF : SF = runD (1 + nxt ns 0 4) ⟨[], [], drawsOf ns nN⟩ (deedsOf ns nN)) (hfl : FlatPairs PyData.int kvs (encD SF.kv)) (hkn : SF.ks.Nodup) (hkp : (SF.kv.map (·.1)).Perm SF.ks) (hk4 : SF.ks.length ≤ 4) (hvi : ∀ k pd, look SF.kv k = some pd → ∃ v : Int, pd = .int v) (h9 : ∀ k ∈ SF.ks, k < 9) (hnI : IntsAre nvs nks) (hnp : nks.Perm SF.ks) (hns : nks.Pairwise (· ≤ ·))
    (h901 : @LT.lt Nat _ 901 L) (e1 : @LT.lt Nat _ (L + 1 + 1 + 1 + 1 + 1) dls) (e2 : @LT.lt Nat _ dls drs) (e3 : ∀ q ∈ tl, @LT.lt Nat _ drs q.1 ∧ @LT.lt Nat _ q.1 sen) (e6 : @LT.lt Nat _ drs sen) (e4 : @LT.lt Nat _ sen cc) (e7 : @LT.lt Nat _ cc D) (e8 : @LT.lt Nat _ D S)
    (hZ : ∀ q ∈ Z, (@Ne Nat q.1 901 ∧ @Ne Nat q.1 cc ∧ @Ne Nat q.1 sen ∧ @Ne Nat q.1 drs ∧ @Ne Nat q.1 dls ∧ @Ne Nat q.1 (L + 1 + 1)) ∧ (∀ x ∈ tl, @Ne Nat q.1 x.1) ∧ @Ne Nat q.1 (L + 1 + 1 + 1 + 1 + 1))
    (m1 : mm (Str.ofString "draws") = some (.ref drs)) (m2 : mm (Str.ofString "room") = some (.int (1 + nxt ns 0 4) tr)) (m4 : mm (Str.ofString "seen") = some (.ref sen)) (m5 : mm (Str.ofString "names") = some (.ref S)) (hd : dp + 200 < recursionLimit) (hu : un + 1600 < cLine)
    (hQ : ∀ (hh : Heap) (tk : Nat) (mm' : Str → Option Value), Fr h₀ L hh mm' → News h₀ L hh [(901, tabObj (chTab cc))] → Q (.ret (.bool true)) { s with heap := hh, toks := tk }) :
    wpAny (model prog w) (ktrTop dp un gd (Str.ofString "law") lscope L a ccd (lcells L) []) (execs [lb 13, lb 14, lb 15] (envX (Str.ofString "law") lscope L a ccd (lcells L))) Q E s := by
  have key : (PySem.Challenge.rw_fc0033_01, Mine.K) = (PySem.Challenge.rw_fc0033_01, Mine.K) := by k_fill; rfl
  clear key
  have hnvl := hnI.length
  have hnl := hnp.length_eq
  have hr := nxt_range ns 0 4 (by decide)
  change wpAny _ _ (execs (Stmt.Assign _ _ _ :: Stmt.For _ _ _ _ _ :: _) (envX _ ⟨_, _, _, _, _⟩ _ _ _ [_, _, _, _, _])) _ _ _
  k_steps
  refine unhalt ?_
  refine wpAny_For ?_
  k_steps
  · rename_i go0 _ lx hx1 F1 N1 nkd hx tk4 t1 t2 t3 hR9 F4 N4 hext
    obtain ⟨g1, g2, g3, g4, g5, g6, g7, g8, g9, g10, g11, g12⟩ := lx
    have g12' := ktn_ltOf g12
    refine wpAny_pyIter_range hR9 (small_one (by decide) (by decide) (by omega) (by omega)) ?_
    rw [range_nat nks.length]
    have N5 := N4.push F4 { cls := .type "range_iterator", data := .fields #[rawInt 0, rawInt (nks.length : Int), rawInt 1] }
    have F5 := F4.push { cls := .type "range_iterator", data := .fields #[rawInt 0, rawInt (nks.length : Int), rawInt 1] }
    have ltI := fun q hq => Heap.lt_size (N4 q hq).1
    have hgI : @LT.lt Nat _ go0 hx.objs.size := ltI (go0, listOf #[] 0) (.head _)
    have hZI : ∀ q ∈ Z, @Ne Nat q.1 hx.objs.size := fun q hq => Nat.ne_of_lt (ltI q (by simp [hq]))
    obtain ⟨m9, hm9⟩ : ∃ m9, m9 = (fun y => if y = Str.ofString "gone" then some (Value.ref go0) else mm y) := ⟨_, rfl⟩
    rw [← hm9] at F5
    have gG : m9 (Str.ofString "gone") = some (.ref go0) := by rw [hm9]; rfl
    have gE : ∀ y, y ≠ Str.ofString "gone" → m9 y = mm y := fun y hy => by rw [hm9]; dsimp only; rw [if_neg hy]
    clear hm9
    refine fin_loop (nT := nks.length) (go0 := go0) B F5 X (news_sub N5 rf11) (by simp) T XB TB hC hDe hoC hoL hoP hoc hct hT hdv hn8 hsv hIs SF hSF hfl hkn hkp hk4 hvi h9 hnI hnp hns h901 e1 e2 e3 e6 e4 e7 e8 hZ hZI g10 hgI (.inr ⟨hnl, by rw [← hnl]; exact nkd⟩) (by rw [gE _ (by decide)]; exact m1) (by rw [gE _ (by decide)]; exact m2) (by rw [gE _ (by decide)]; exact m4) (by rw [gE _ (by decide)]; exact m5) gG hd hu ?_
    intro h7 tk7 m7 go gvs F7 p1 p2 p3 N7 hgv
    exact fin_ret (nT := nks.length) B F7 X N7 T hC hk4 hnI hnp hns hgv (.inr ⟨hnl, by rw [← hnl]; exact nkd⟩) (by rw [p2, gE _ (by decide)]; exact m2) p3 p1 hd hu fun hh tk mm' Fm Nm => hQ hh tk mm' Fm Nm
  · rename_i go0 _ lx hx1 F1 N1 nkd hx tk4 t1 t2 t3 hR9 F4 N4 hext
    obtain ⟨g1, g2, g3, g4, g5, g6, g7, g8, g9, g10, g11, g12⟩ := lx
    have g12' := ktn_ltOf g12
    refine wpAny_pyIter_range hR9 (small_one (by decide) (by decide) (by omega) (by omega)) ?_
    rw [show Builtin.Range.rangeSize 0 0 1 = ((0 : Nat) : Int) from range_nat 0]
    have N5 := N4.push F4 { cls := .type "range_iterator", data := .fields #[rawInt 0, rawInt ((0 : Nat) : Int), rawInt 1] }
    have F5 := F4.push { cls := .type "range_iterator", data := .fields #[rawInt 0, rawInt ((0 : Nat) : Int), rawInt 1] }
    have ltI := fun q hq => Heap.lt_size (N4 q hq).1
    have hgI : @LT.lt Nat _ go0 hx.objs.size := ltI (go0, listOf #[] 0) (.head _)
    have hZI : ∀ q ∈ Z, @Ne Nat q.1 hx.objs.size := fun q hq => Nat.ne_of_lt (ltI q (by simp [hq]))
    obtain ⟨m9, hm9⟩ : ∃ m9, m9 = (fun y => if y = Str.ofString "gone" then some (Value.ref go0) else mm y) := ⟨_, rfl⟩
    rw [← hm9] at F5
    have gG : m9 (Str.ofString "gone") = some (.ref go0) := by rw [hm9]; rfl
    have gE : ∀ y, y ≠ Str.ofString "gone" → m9 y = mm y := fun y hy => by rw [hm9]; dsimp only; rw [if_neg hy]
    clear hm9
    refine fin_loop (nT := 0) (go0 := go0) B F5 X (news_sub N5 rf11) (by simp) T XB TB hC hDe hoC hoL hoP hoc hct hT hdv hn8 hsv hIs SF hSF hfl hkn hkp hk4 hvi h9 hnI hnp hns h901 e1 e2 e3 e6 e4 e7 e8 hZ hZI g10 hgI (.inl rfl) (by rw [gE _ (by decide)]; exact m1) (by rw [gE _ (by decide)]; exact m2) (by rw [gE _ (by decide)]; exact m4) (by rw [gE _ (by decide)]; exact m5) gG hd hu ?_
    intro h7 tk7 m7 go gvs F7 p1 p2 p3 N7 hgv
    exact fin_ret (nT := 0) B F7 X N7 T hC hk4 hnI hnp hns hgv (.inl ⟨rfl, by rw [← hnl]; exact nkd⟩) (by rw [p2, gE _ (by decide)]; exact m2) p3 p1 hd hu fun hh tk mm' Fm Nm => hQ hh tk mm' Fm Nm
end
end Mine
end
section
open PySem
set_option Elab.async false
set_option maxRecDepth 100000
set_option maxHeartbeats 1000000
set_option linter.unusedVariables false
set_option linter.unusedSimpArgs false
namespace Mine
def jmp (M i : Nat) : Nat := (i * 5 + 1) % (M + 1)
def jmpN (M : Nat) : Nat → Nat → Nat
  | 0, i => i
  | n + 1, i => jmpN M n (jmp M i)
theorem jmpN_add (M : Nat) : ∀ a b i, jmpN M (a + b) i = jmpN M b (jmpN M a i)
  | 0, b, i => by rw [Nat.zero_add]; rfl
  | a + 1, b, i => by rw [Nat.add_right_comm]; exact jmpN_add M a b (jmp M i)
def Mask (M : Nat) : Prop := M = 7 ∨ M = 31 ∨ M = 127
theorem jmp_all7 : ∀ y, y < 8 → ∃ k, k < 8 ∧ jmpN 7 k 0 = y := by decide +kernel
theorem jmp_all31 : ∀ y, y < 32 → ∃ k, k < 32 ∧ jmpN 31 k 0 = y := by decide +kernel
theorem jmp_all127 : ∀ y, y < 128 → ∃ k, k < 128 ∧ jmpN 127 k 0 = y := by decide +kernel
theorem jmp_from0 {M : Nat} (h : Mask M) {y : Nat} (hy : y ≤ M) : ∃ k, k ≤ M ∧ jmpN M k 0 = y := by
  rcases h with rfl | rfl | rfl
  · obtain ⟨k, h1, h2⟩ := jmp_all7 y (by omega)
    exact ⟨k, by omega, h2⟩
  · obtain ⟨k, h1, h2⟩ := jmp_all31 y (by omega)
    exact ⟨k, by omega, h2⟩
  · obtain ⟨k, h1, h2⟩ := jmp_all127 y (by omega)
    exact ⟨k, by omega, h2⟩
theorem jmp_round {M : Nat} (h : Mask M) : jmpN M (M + 1) 0 = 0 := by
  rcases h with rfl | rfl | rfl <;> decide +kernel
theorem jmp_all {M : Nat} (h : Mask M) {x y : Nat} (hx : x ≤ M) (hy : y ≤ M) : ∃ k, k ≤ M ∧ jmpN M k x = y := by
  obtain ⟨a, ha, rfl⟩ := jmp_from0 h hx
  obtain ⟨b, hb, rfl⟩ := jmp_from0 h hy
  by_cases hab : a ≤ b
  · exact ⟨b - a, by omega, by rw [← jmpN_add, show a + (b - a) = b by omega]⟩
  · refine ⟨b + (M + 1) - a, by omega, ?_⟩
    rw [← jmpN_add, show a + (b + (M + 1) - a) = (M + 1) + b by omega, jmpN_add, jmp_round h]
def blk (M : Nat) : Nat → Nat × Nat → Nat × Nat
  | 0, p => p
  | n + 1, p => blk M n (SetTable.leap M p.1 p.2)
theorem blk_add (M : Nat) : ∀ a b p, blk M (a + b) p = blk M b (blk M a p)
  | 0, b, p => by rw [Nat.zero_add]; rfl
  | a + 1, b, p => by rw [Nat.add_right_comm]; exact blk_add M a b _
theorem blk_snd (M : Nat) : ∀ n i p, (blk M n (i, p)).2 = p / 32 ^ n
  | 0, i, p => by simp [blk]
  | n + 1, i, p => by
    show (blk M n (SetTable.leap M i p)).2 = _
    unfold SetTable.leap
    rw [blk_snd M n, Nat.pow_succ, Nat.mul_comm, Nat.div_div_eq_div_mul]
theorem blk_fst (M : Nat) : ∀ n i p, p < 32 → (blk M n (i, p)).1 = jmpN M n i
  | 0, i, p, _ => rfl
  | n + 1, i, p, h => by
    show (blk M n (SetTable.leap M i p)).1 = jmpN M n (jmp M i)
    unfold SetTable.leap
    have h0 : p / 32 = 0 := Nat.div_eq_of_lt h
    rw [h0, blk_fst M n _ 0 (by decide)]
    rfl
theorem blk_le (M : Nat) (n i p : Nat) (h : i ≤ M) : (blk M n (i, p)).1 ≤ M := by
  induction n generalizing i p with
  | zero => exact h
  | succ n ih =>
    show (blk M n (SetTable.leap M i p)).1 ≤ M
    unfold SetTable.leap
    exact ih _ _ (Nat.lt_succ_iff.mp (Nat.mod_lt _ (Nat.succ_pos M)))
theorem blk_all {M : Nat} (h : Mask M) {i p y : Nat} (hi : i ≤ M) (hp : p < 2 ^ 64) (hy : y ≤ M) : ∃ n, n ≤ M + 12 ∧ (blk M n (i, p)).1 = y := by
  have h1 : (blk M 12 (i, p)).2 < 32 := by
    rw [blk_snd]
    have : (32 : Nat) ^ 12 = 1152921504606846976 := by decide
    rw [this]
    omega
  obtain ⟨k, hk, e⟩ := jmp_all h (blk_le M 12 i p hi) hy
  refine ⟨12 + k, by omega, ?_⟩
  rw [blk_add]
  obtain ⟨q, hq⟩ : ∃ q, q = blk M 12 (i, p) := ⟨_, rfl⟩
  rw [← hq] at h1 e ⊢
  obtain ⟨q1, q2⟩ := q
  rw [blk_fst M k q1 q2 h1]
  exact e
theorem bits_lt (h : Int) : SetTable.bits h < 2 ^ 64 := by
  unfold SetTable.bits
  have h1 := Int.emod_nonneg h (show (2 ^ 64 : Int) ≠ 0 by decide)
  have h2 := Int.emod_lt_of_pos h (show (0 : Int) < 2 ^ 64 by decide)
  omega
def Meets (t : SetTable) : Nat → SetTable.Probe → Prop
  | 0, p => t.slot p.j = .empty
  | n + 1, p => t.slot p.j = .empty ∨ Meets t n (t.advance p)
theorem Meets.mono {t : SetTable} : ∀ {n m : Nat} {p : SetTable.Probe}, Meets t n p → n ≤ m → Meets t m p
  | 0, 0, p, h, _ => h
  | 0, m + 1, p, h, _ => .inl h
  | n + 1, m + 1, p, h, hm => h.imp id fun h => h.mono (Nat.le_of_succ_le_succ hm)
theorem Meets.block {t : SetTable} {n : Nat} {i pt : Nat} {d : Option Nat} : ∀ (more j : Nat), Meets t n (let q := SetTable.leap t.mask i pt; { j := q.1, more := SetTable.runEnd t.mask q.1 - q.1, i := q.1, perturb := q.2, dummy := d }) → Meets t (n + more + 1) { j := j, more := more, i := i, perturb := pt, dummy := d }
  | 0, j, h => .inr (by unfold SetTable.advance; rw [if_neg (by simp)]; exact h)
  | more + 1, j, h => .inr (by
      have e : t.advance { j := j, more := more + 1, i := i, perturb := pt, dummy := d } = { j := j + 1, more := more, i := i, perturb := pt, dummy := d } := by
        unfold SetTable.advance; rw [if_pos (by simp)]; rfl
      rw [e]
      exact Meets.block more (j + 1) h)
theorem runEnd_le (M i : Nat) : SetTable.runEnd M i - i ≤ 9 := by
  unfold SetTable.runEnd; split <;> omega
theorem Meets.blocks {t : SetTable} : ∀ (n : Nat) (q : Nat × Nat), t.slot (blk t.mask n q).1 = .empty → Meets t (10 * n) { j := q.1, more := SetTable.runEnd t.mask q.1 - q.1, i := q.1, perturb := q.2, dummy := none }
  | 0, q, h => h
  | n + 1, q, h => by
    have ih := Meets.blocks n (SetTable.leap t.mask q.1 q.2) h
    have := Meets.block (d := none) (SetTable.runEnd t.mask q.1 - q.1) q.1 (show Meets t (10 * n) _ from ih)
    exact this.mono (by have := runEnd_le t.mask q.1; omega)
theorem meets_start {t : SetTable} (hM : Mask t.mask) {y : Nat} (hy : y ≤ t.mask) (he : t.slot y = .empty) (h : Int) : Meets t (10 * (t.mask + 12)) (t.probeStart h) := by
  have hi : SetTable.bits h % (t.mask + 1) ≤ t.mask := Nat.lt_succ_iff.mp (Nat.mod_lt _ (Nat.succ_pos _))
  obtain ⟨n, hn, e⟩ := blk_all hM hi (bits_lt h) hy
  exact (Meets.blocks n (SetTable.bits h % (t.mask + 1), SetTable.bits h) (by rw [e]; exact he)).mono (by omega)
theorem slot_clean {t : SetTable} (hd : t.dummies = #[]) (j : Nat) : t.slot j = .empty ∨ ∃ i, t.slot j = .live i := by
  unfold SetTable.slot
  dsimp only
  split
  · exact .inr ⟨_, rfl⟩
  · rw [hd]
    left
    rw [if_neg]
    unfold SetTable.has
    simp
theorem slot_empty {t : SetTable} (hd : t.dummies = #[]) {j : Nat} (h : j ∉ t.place.toList) : t.slot j = .empty := by
  rcases slot_clean hd j with e | ⟨i, e⟩
  · exact e
  · exfalso
    unfold SetTable.slot at e
    dsimp only at e
    split at e
    · rename_i hb
      have := eq_of_beq hb
      exact h (Array.mem_toList_iff.mpr (Array.mem_of_getElem? this))
    · split at e <;> cases e
theorem go_meets {t : SetTable} (hd : t.dummies = #[]) (hashAt : Nat → Int) (h : Int) : ∀ (n fuel : Nat) (p : SetTable.Probe), n < fuel → Meets t n p → p.dummy = none →
    (∃ j, SetTable.probe.go t hashAt h fuel p = some (.empty j none)) ∨ ∃ j i next n', SetTable.probe.go t hashAt h fuel p = some (.candidate j i next) ∧ hashAt i = h ∧ t.slot j = .live i ∧ n' < n ∧ Meets t n' next ∧ next.dummy = none := by
  intro n
  induction n with
  | zero =>
    intro fuel p hf hm hdn
    obtain ⟨fuel, rfl⟩ : ∃ f, fuel = f + 1 := ⟨fuel - 1, by omega⟩
    have hm' : t.slot p.j = .empty := hm
    left
    unfold SetTable.probe.go
    rw [hm', hdn]
    exact ⟨_, rfl⟩
  | succ n ih =>
    intro fuel p hf hm hdn
    obtain ⟨fuel, rfl⟩ : ∃ f, fuel = f + 1 := ⟨fuel - 1, by omega⟩
    unfold SetTable.probe.go
    rcases slot_clean hd p.j with e | ⟨i, e⟩
    · rw [e, hdn]
      exact .inl ⟨_, rfl⟩
    · have hm2 : Meets t n (t.advance p) := by
        rcases hm with hm | hm
        · rw [e] at hm; cases hm
        · exact hm
      have hd2 : (t.advance p).dummy = none := by
        unfold SetTable.advance
        split
        · exact hdn
        · exact hdn
      rw [e]
      dsimp only
      by_cases hh : (hashAt i == h) = true
      · rw [if_pos hh]
        exact .inr ⟨p.j, i, _, n, rfl, eq_of_beq hh, e, Nat.lt_succ_self _, hm2, hd2⟩
      · rw [if_neg hh]
        rcases ih fuel _ (by omega) hm2 hd2 with h1 | ⟨j, i', next, n', h1, h2, h3, h4, h5⟩
        · exact .inl h1
        · exact .inr ⟨j, i', next, n', h1, h2, h3, by omega, h5⟩
theorem left_out {l : List Nat} {M : Nat} (h : l.length ≤ M) : ∃ y, y ≤ M ∧ y ∉ l := by
  apply Classical.byContradiction
  intro hc
  have h1 : ∀ y, y ≤ M → y ∈ l := fun y hy => Classical.byContradiction fun hn => hc ⟨y, hy, hn⟩
  have h2 : (List.range (M + 1)).length ≤ l.length := by
    exact List.Nodup.length_le_of_subset List.nodup_range fun y hy => h1 y (by have := List.mem_range.mp hy; omega)
  rw [List.length_range] at h2
  omega
theorem insertAt_size {α : Type} (xs : Array α) (p : Nat) (x : α) : (SetTable.insertAt xs p x).size = xs.size + 1 := by
  unfold SetTable.insertAt
  simp only [Array.size_append, Array.size_push, Array.size_extract]
  omega
theorem insertAt_mem {α : Type} {xs : Array α} {p : Nat} {x e : α} (h : e ∈ (SetTable.insertAt xs p x).toList) : e ∈ xs.toList ∨ e = x := by
  unfold SetTable.insertAt at h
  simp only [Array.toList_append, Array.toList_push, Array.toList_extract, List.mem_append, List.mem_singleton] at h
  rcases h with (h | h) | h
  · exact .inl (List.mem_of_mem_drop (List.mem_of_mem_take h))
  · exact .inr h
  · exact .inl (List.mem_of_mem_drop (List.mem_of_mem_take h))
theorem free_meets {M : Nat} {owner : Array (Option Nat)} : ∀ (n fuel : Nat) (q : Nat × Nat), n < fuel → owner.getD (blk M n q).1 (some 0) = none →
    ∃ j, SetTable.layClean.free M owner fuel q.1 q.2 = some j ∧ owner.getD j (some 0) = none := by
  intro n
  induction n with
  | zero =>
    intro fuel q hf he
    obtain ⟨fuel, rfl⟩ : ∃ f, fuel = f + 1 := ⟨fuel - 1, by omega⟩
    unfold SetTable.layClean.free
    cases hr : (List.range (SetTable.runEnd M q.1 + 1 - q.1)).find? fun k => (owner.getD (q.1 + k) (some 0)).isNone with
    | some k =>
      have hs := List.find?_some hr
      exact ⟨_, rfl, Option.isNone_iff_eq_none.mp hs⟩
    | none =>
      exfalso
      have h0 : 0 ∈ List.range (SetTable.runEnd M q.1 + 1 - q.1) := by
        rw [List.mem_range]
        unfold SetTable.runEnd
        split <;> omega
      have := List.find?_eq_none.mp hr 0 h0
      have he' : owner.getD q.1 (some 0) = none := he
      rw [Nat.add_zero, he'] at this
      exact this rfl
  | succ n ih =>
    intro fuel q hf he
    obtain ⟨fuel, rfl⟩ : ∃ f, fuel = f + 1 := ⟨fuel - 1, by omega⟩
    unfold SetTable.layClean.free
    cases hr : (List.range (SetTable.runEnd M q.1 + 1 - q.1)).find? fun k => (owner.getD (q.1 + k) (some 0)).isNone with
    | some k =>
      have hs := List.find?_some hr
      exact ⟨_, rfl, Option.isNone_iff_eq_none.mp hs⟩
    | none => exact ih fuel (SetTable.leap M q.1 q.2) (by omega) he
def Own (M k : Nat) (owner : Array (Option Nat)) : Prop := owner.size = M + 1 ∧ owner.toList.countP (·.isSome) = k ∧ ∀ i, some i ∈ owner.toList → i < k
theorem own_free {M k : Nat} {owner : Array (Option Nat)} (h : Own M k owner) (hk : k ≤ M) : ∃ y, y ≤ M ∧ owner.getD y (some 0) = none := by
  apply Classical.byContradiction
  intro hc
  have hall : ∀ x ∈ owner.toList, x.isSome = true := by
    intro x hx
    obtain ⟨y, hy, rfl⟩ := List.getElem_of_mem hx
    rw [Array.length_toList] at hy
    cases hv : owner.toList[y] with
    | some v => rfl
    | none =>
      refine absurd ⟨y, by have := h.1; omega, ?_⟩ hc
      rw [Array.getElem_toList] at hv
      rw [Array.getD_eq_getD_getElem?, Array.getElem?_eq_getElem hy, hv]
      rfl
  have h1 := List.countP_eq_length.mpr hall
  rw [h.2.1, Array.length_toList, h.1] at h1
  omega
theorem own_put {M k j : Nat} {owner : Array (Option Nat)} (h : Own M k owner) (hj : owner.getD j (some 0) = none) : Own M (k + 1) (owner.setIfInBounds j (some k)) := by
  have hlt : j < owner.size := by
    apply Classical.byContradiction
    intro hc
    rw [Array.getD_eq_getD_getElem?, Array.getElem?_eq_none (by omega)] at hj
    cases hj
  have hv : owner.toList[j]'(by rw [Array.length_toList]; exact hlt) = none := by
    rw [Array.getElem_toList]
    rw [Array.getD_eq_getD_getElem?, Array.getElem?_eq_getElem hlt] at hj
    exact hj
  have hl : (owner.setIfInBounds j (some k)).toList = owner.toList.set j (some k) := Array.toList_setIfInBounds ..
  refine ⟨by rw [Array.size_setIfInBounds]; exact h.1, ?_, ?_⟩
  · rw [hl, List.countP_set (by rw [Array.length_toList]; exact hlt), hv, h.2.1]
    rfl
  · intro i hi
    rw [hl] at hi
    rcases List.mem_or_eq_of_mem_set hi with hi | hi
    · exact Nat.lt_succ_of_lt (h.2.2 i hi)
    · cases hi; exact Nat.lt_succ_self _
theorem layClean_fold {M : Nat} (hM : Mask M) : ∀ (hs : List Int) (k : Nat) (owner : Array (Option Nat)), Own M k owner → k + hs.length ≤ M →
    ∃ owner', (hs.foldl (fun (acc : Option (Array (Option Nat) × Nat)) h => do
      let (owner, k) ← acc
      let j ← SetTable.layClean.free M owner (SetTable.turns M) (SetTable.bits h % (M + 1)) (SetTable.bits h)
      pure (owner.setIfInBounds j (some k), k + 1)) (some (owner, k))) = some (owner', k + hs.length) ∧ Own M (k + hs.length) owner'
  | [], k, owner, h, _ => ⟨owner, rfl, h⟩
  | x :: hs, k, owner, h, hl => by
    rw [List.length_cons] at hl
    obtain ⟨y, hy, he⟩ := own_free h (by omega)
    obtain ⟨n, hn, e⟩ := blk_all hM (i := SetTable.bits x % (M + 1)) (Nat.lt_succ_iff.mp (Nat.mod_lt _ (Nat.succ_pos _))) (bits_lt x) hy
    obtain ⟨j, h1, h2⟩ := free_meets n (SetTable.turns M) (SetTable.bits x % (M + 1), SetTable.bits x) (by unfold SetTable.turns; omega) (by rw [e]; exact he)
    obtain ⟨owner', h3, h4⟩ := layClean_fold hM hs (k + 1) _ (own_put h h2) (by omega)
    refine ⟨owner', ?_, ?_⟩
    · rw [List.foldl_cons]
      dsimp only at h1
      simp only [Option.bind_eq_bind, Option.bind_some, h1, Option.pure_def] at h3 ⊢
      rw [h3, List.length_cons]
      congr 2
      omega
    · rw [List.length_cons, show k + (hs.length + 1) = k + 1 + hs.length by omega]
      exact h4
theorem own_start (M : Nat) : Own M 0 (Array.replicate (M + 1) none) := by
  refine ⟨Array.size_replicate, ?_, ?_⟩
  · rw [Array.toList_replicate, List.countP_replicate]; rfl
  · intro i hi
    rw [Array.toList_replicate] at hi
    have := List.eq_of_mem_replicate hi
    cases this
theorem live_len {M k : Nat} {owner : Array (Option Nat)} (h : Own M k owner) : ((List.range (M + 1)).filterMap fun j => (owner.getD j none).map (j, ·)).length = k := by
  have e : owner.toList = (List.range (M + 1)).map fun j => owner.getD j none := by
    refine List.ext_getElem (by rw [Array.length_toList, h.1, List.length_map, List.length_range]) fun i h1 h2 => ?_
    rw [List.getElem_map, List.getElem_range, Array.getElem_toList, Array.getD_eq_getD_getElem?, Array.getElem?_eq_getElem (by rw [Array.length_toList] at h1; exact h1)]
    rfl
  have h2 := h.2.1
  rw [e, List.countP_map] at h2
  rw [List.length_filterMap_eq_countP, ← h2]
  refine List.countP_congr fun j _ => ?_
  show _ ↔ (owner.getD j none).isSome = true
  cases owner.getD j none <;> simp
theorem live_lt {M k : Nat} {owner : Array (Option Nat)} (h : Own M k owner) : ∀ i ∈ ((List.range (M + 1)).filterMap fun j => (owner.getD j none).map (j, ·)).map (·.2), i < k := by
  intro i hi
  obtain ⟨⟨j, i'⟩, hq, rfl⟩ := List.mem_map.mp hi
  obtain ⟨j', hj', e⟩ := List.mem_filterMap.mp hq
  cases hv : owner.getD j' none with
  | none => rw [hv] at e; cases e
  | some v =>
    rw [hv] at e
    obtain ⟨rfl, rfl⟩ : j' = j ∧ v = i' := by simpa using e
    refine h.2.2 v ?_
    rw [Array.getD_eq_getD_getElem?] at hv
    cases hg : owner[j']? with
    | none => rw [hg] at hv; cases hv
    | some z =>
      rw [hg] at hv
      have : z = some v := hv
      subst this
      exact Array.mem_toList_iff.mpr (Array.mem_of_getElem? hg)
theorem laid_ok {M : Nat} (hM : Mask M) (fi mv : Nat) (led pl : Bool) (hs : Array Int) (hl : hs.size ≤ M) :
    ∃ t order, SetTable.laid M fi mv led pl hs = some (t, order) ∧ t.mask = M ∧ t.dummies = #[] ∧ t.place.size = hs.size ∧ order.size = hs.size ∧ ∀ i ∈ order.toList, i < hs.size := by
  obtain ⟨owner, h1, h2⟩ := layClean_fold hM hs.toList 0 _ (own_start M) (by rw [Array.length_toList]; omega)
  rw [Nat.zero_add] at h1 h2
  rw [Array.length_toList] at h2
  have e : SetTable.layClean M hs = some owner := by
    unfold SetTable.layClean
    rw [← Array.foldl_toList, h1]
    rfl
  unfold SetTable.laid
  rw [e]
  refine ⟨_, _, rfl, rfl, rfl, ?_, ?_, ?_⟩
  · rw [List.size_toArray, List.length_map]; exact live_len h2
  · rw [List.size_toArray, List.length_map]; exact live_len h2
  · exact live_lt h2
end Mine
end
section
open PySem PySem.W PyProof.Rows PySem.Calls PyProof.V
set_option Elab.async false
set_option maxRecDepth 100000
set_option maxHeartbeats 1000000
set_option linter.unusedVariables false
set_option linter.unusedSimpArgs false
namespace Mine
section
variable {prog : Program} {w : World} {A : Around} {E : Value → Shared → Prop} {s : Shared}
theorem hbv_int (n : Nat) {k : Int} {v : Value} (h : (intKind prog w).is k v = true) : hashByValue n v = pure true := by
  cases v with
  | int i t => cases n <;> rfl
  | bool b => cases n <;> rfl
  | _ => cases h
theorem oac_int (n : Nat) {k : Int} {v : Value} (h : (intKind prog w).is k v = true) : ofAClassStatement n v = pure false := by
  cases v with
  | int i t => cases n <;> rfl
  | bool b => cases n <;> rfl
  | _ => cases h
theorem items_all {ks : List Int} {vs : List Value} (h : ItemsAre (intKind prog w) ks vs) : ∀ v ∈ vs, ∃ k, (intKind prog w).is k v = true := by
  induction h with
  | nil => intro v hv; cases hv
  | cons h1 _ ih =>
    intro v hv
    rcases List.mem_cons.mp hv with rfl | hv
    · exact ⟨_, h1⟩
    · exact ih v hv
theorem hbv_tuple {ks : List Int} {a : Addr} {Q : Bool → Shared → Prop} (hk : IsTupleKey (intKind prog w) s.heap ks a) (h : Q true s) : wpAny (model prog w) A (hashByValue 8 (.ref a)) Q E s := by
  have hT := hk.typeIs
  obtain ⟨o, items, n, ho, _, hd, hi⟩ := hk
  unfold hashByValue
  refine wpAny_bind (wpAny_specialOf hT F.slot_tuple_hash.lookup ?_)
  dsimp only
  refine wpAny_bind (wpAny_seqItems ho hd ?_)
  refine wpAny_bind ?_
  show wpAny _ _ (forIn items _ _) _ _ s
  rw [← Array.forIn_toList]
  refine wpAny_forIn_list _ (fun rest r s' => r.1 = none ∧ s' = s ∧ ∀ v ∈ rest, ∃ k, (intKind prog w).is k v = true) _ ?_ ?_ _ _ ⟨rfl, rfl, items_all hi⟩
  · rintro v rest r s' ⟨hr, rfl, hall⟩
    obtain ⟨k, hk⟩ := hall v List.mem_cons_self
    rw [hbv_int _ hk]
    refine wpAny_bind (wpAny_pure ?_)
    simp only [Bool.not_true, Bool.false_eq_true, if_false]
    exact wpAny_pure ⟨rfl, rfl, fun u hu' => hall u (List.mem_cons_of_mem _ hu')⟩
  · rintro ⟨r1, r2⟩ s' ⟨hr, rfl, _⟩
    simp only at hr
    subst hr
    exact wpAny_pure h
theorem oac_tuple {ks : List Int} {a : Addr} {Q : Bool → Shared → Prop} (hk : IsTupleKey (intKind prog w) s.heap ks a) (h : Q false s) : wpAny (model prog w) A (ofAClassStatement 8 (.ref a)) Q E s := by
  have hT := hk.typeIs
  obtain ⟨o, items, n, ho, _, hd, hi⟩ := hk
  unfold ofAClassStatement
  refine wpAny_bind (wpAny_typeOf hT ?_)
  dsimp only
  rw [if_pos (by decide)]
  refine wpAny_bind (wpAny_pure ?_)
  simp only [Bool.not_true, Bool.false_eq_true, if_false]
  refine wpAny_bind (wpAny_seqItems ho hd ?_)
  dsimp only
  refine wpAny_bind ?_
  show wpAny _ _ (forIn items _ _) _ _ s
  rw [← Array.forIn_toList]
  refine wpAny_forIn_list _ (fun rest r s' => r.1 = none ∧ s' = s ∧ ∀ v ∈ rest, ∃ k, (intKind prog w).is k v = true) _ ?_ ?_ _ _ ⟨rfl, rfl, items_all hi⟩
  · rintro v rest r s' ⟨hr, rfl, hall⟩
    obtain ⟨k, hk⟩ := hall v List.mem_cons_self
    rw [oac_int _ hk]
    refine wpAny_bind (wpAny_pure ?_)
    simp only [Bool.not_true, Bool.false_eq_true, if_false]
    exact wpAny_pure ⟨rfl, rfl, fun u hu' => hall u (List.mem_cons_of_mem _ hu')⟩
  · rintro ⟨r1, r2⟩ s' ⟨hr, rfl, _⟩
    simp only at hr
    subst hr
    exact wpAny_pure h
def TupV (prog : Program) (w : World) (h : Heap) (v : Value) : Prop := ∃ a ks, v = .ref a ∧ IsTupleKey (intKind prog w) h ks a
theorem scb_tuple {ks : List Int} {a : Addr} {stored : List Value} {Q : Bool → Shared → Prop} (hk : IsTupleKey (intKind prog w) s.heap ks a) (hs : ∀ v ∈ stored, TupV prog w s.heap v) (h : Q false s) : wpAny (model prog w) A (searchCouldBeSeen (.ref a) stored) Q E s := by
  unfold searchCouldBeSeen
  refine wpAny_bind ?_
  refine wpAny_forIn_list _ (fun rest r s' => r.1 = none ∧ s' = s ∧ ∀ v ∈ rest, TupV prog w s.heap v) _ ?_ ?_ _ _ ⟨rfl, rfl, hs⟩
  · rintro v rest r s' ⟨hr, rfl, hall⟩
    obtain ⟨b, ks', rfl, hb⟩ := hall v List.mem_cons_self
    have hrest : ∀ u ∈ rest, TupV prog w s'.heap u := fun u hu' => hall u (List.mem_cons_of_mem _ hu')
    dsimp only
    split
    · exact wpAny_pure ⟨rfl, rfl, hrest⟩
    · refine wpAny_bind (wpAny_eqIsQuiet_tuple hk ?_)
      simp only [Bool.not_true, Bool.false_eq_true, if_false]
      refine wpAny_bind (wpAny_eqIsQuiet_tuple hb ?_)
      simp only [Bool.not_true, Bool.false_eq_true, if_false]
      refine wpAny_bind (oac_tuple hk ?_)
      simp only [Bool.not_true, Bool.false_eq_true, if_false]
      refine wpAny_bind (oac_tuple hb ?_)
      simp only [Bool.not_true, Bool.false_eq_true, if_false]
      exact wpAny_pure ⟨rfl, rfl, hrest⟩
  · rintro ⟨r1, r2⟩ s' ⟨hr, rfl, _⟩
    simp only at hr
    subst hr
    exact wpAny_pure h
theorem slot_live {t : SetTable} {j i : Nat} (h : t.slot j = .live i) : i < t.place.size := by
  unfold SetTable.slot at h
  dsimp only at h
  split at h
  · rename_i hb
    have := eq_of_beq hb
    cases h
    exact (Array.getElem?_eq_some_iff.mp this).1
  · split at h <;> cases h
theorem probe_cases {t : SetTable} {hashAt : Nat → Int} {hv : Int} {p : SetTable.Probe} {r : Option SetTable.Met} {n : Nat} (hp : t.probe hashAt hv p = r) (hd : t.dummies = #[]) (hn : n < 10 * SetTable.turns t.mask) (hm : Meets t n p) (hdn : p.dummy = none) :
    (∃ j, r = some (.empty j none)) ∨ ∃ j i next n', r = some (.candidate j i next) ∧ t.slot j = .live i ∧ n' < n ∧ Meets t n' next ∧ next.dummy = none := by
  unfold SetTable.probe at hp
  rcases go_meets hd hashAt hv n _ p hn hm hdn with ⟨j, e⟩ | ⟨j, i, next, n', e, -, h1, h2, h3, h4⟩
  · exact .inl ⟨j, hp.symm.trans e⟩
  · exact .inr ⟨j, i, next, n', hp.symm.trans e, h1, h2, h3, h4⟩
theorem search_new {S : Addr} {o : Obj} {es : Array (Int × Value)} {ep : Nat} {t : SetTable} {ks : List Int} {a : Addr} {hv : Int} {Q : SetFound → Shared → Prop}
    (ho : s.heap.get? S = some o) (hd : o.data = .set es ep t) (hf : t.fits es.size = true) (hM : Mask t.mask) (hdm : t.dummies = #[]) (hu : A.units < cLine)
    (hk : IsTupleKey (intKind prog w) s.heap ks a) (hel : ∀ e ∈ es.toList, ∃ b ks', e.2 = .ref b ∧ IsTupleKey (intKind prog w) s.heap ks' b ∧ ks' ≠ ks) (h : ∀ j, Q (.free j false) s) :
    ∀ (n fuel : Nat) (stand : Option SetTable.Probe), n < fuel → n < 10 * SetTable.turns t.mask → Meets t n (stand.getD (t.probeStart hv)) → (stand.getD (t.probeStart hv)).dummy = none →
      wpAny (model prog w) A (setSearchFrom S (.ref a) hv true fuel stand) Q E s := by
  intro n
  induction n using Nat.strongRecOn with
  | _ n ih =>
    intro fuel stand hfu hn hm hdn
    obtain ⟨fuel, rfl⟩ : ∃ f, fuel = f + 1 := ⟨fuel - 1, by omega⟩
    unfold setSearchFrom
    refine wpAny_bind (wpAny_setState_of ho hd hf ?_)
    dsimp only
    have hg : t.gaveWay = false := by
      unfold SetTable.gaveWay
      rcases hM with e | e | e <;> rw [e] <;> rfl
    rw [hg]
    simp only [Bool.false_eq_true, if_false]
    have hpl : t.place.size = es.size := by
      simp only [SetTable.fits, Bool.and_eq_true, beq_iff_eq] at hf
      exact hf.1
    split
    · rename_i met heq
      rcases probe_cases heq hdm hn hm hdn with ⟨j, e⟩ | ⟨j, i, next, n', e, hsl, hn', hm', hdn'⟩
      · cases e
        exact wpAny_pure (h j)
      · cases e
        dsimp only
        have hi : i < es.size := by have := slot_live hsl; omega
        have hei : es[i]? = some es[i] := Array.getElem?_eq_getElem hi
        obtain ⟨b, ks', hb1, hb2, hb3⟩ := hel es[i] (Array.getElem_mem_toList hi)
        have rest : wpAny (model prog w) A (do
            let some (_, y) := es[i]? | unsupported "internal:set-entry"
            let equal ← holding [y] (eqBool y (.ref a))
            let (es', _, t') ← setState S
            if true && equal then return .there none
            let some same := t'.sameMemory t.moves t.mask | unsupported "set.changed-during-lookup:is-the-new-block-at-the-old-address"
            let still ← match (if same then t'.slot j else .empty) with
              | .live i' => match es'[i']? with
                | some (_, y') => do pure (if ← isSame y' y then some i' else none)
                | none => pure none
              | _ => pure none
            match still with
            | none => rule "set.search.anew"; setSearchFrom S (.ref a) hv true fuel none
            | some i' => if equal then return .there (some i') else setSearchFrom S (.ref a) hv true fuel (some next)) Q E s := by
          rw [hei]
          obtain ⟨⟨e1, e2⟩, he⟩ : ∃ e, e = es[i] := ⟨_, rfl⟩
          rw [← he] at hb1 hei ⊢
          dsimp only at hb1 ⊢
          subst hb1
          refine wpAny_bind (wpAny_holding (wpAny_eqBool_tuple hu hb2 hk ?_))
          rw [decide_eq_false hb3]
          refine wpAny_bind (wpAny_setState_of ho hd hf ?_)
          dsimp only
          simp only [Bool.and_false, Bool.false_eq_true, if_false]
          have hsm : t.sameMemory t.moves t.mask = some true := by
            unfold SetTable.sameMemory
            rw [if_pos (by simp)]
          rw [hsm]
          dsimp only
          rw [if_pos rfl, hsl]
          dsimp only
          rw [hei]
          dsimp only
          refine wpAny_bind (wpAny_isSame_ref_self ?_)
          refine wpAny_bind (wpAny_pure ?_)
          rw [if_pos rfl]
          dsimp only
          exact ih n' hn' fuel (some next) (by omega) (by omega) hm' hdn'
        split
        · refine wpAny_bind (scb_tuple hk ?_ ?_)
          · intro v hv'
            obtain ⟨e, he, rfl⟩ := List.mem_map.mp hv'
            have he2 : e ∈ es.toList := by
              rw [Array.toList_filter] at he
              exact (List.mem_filter.mp he).1
            obtain ⟨b, ks', h1, h2, -⟩ := hel e he2
            exact ⟨b, ks', h1, h2⟩
          · simp only [Bool.false_eq_true, if_false]
            exact rest
        · exact rest
    · rename_i heq
      refine' Or.elim (probe_cases rfl hdm hn hm hdn) ?c1 ?c2
      case c1 => exact fun ⟨j, e⟩ => (heq _ e).elim
      case c2 => exact fun ⟨j, i, next, n', e, _⟩ => (heq _ e).elim
end
end Mine
end
section
open PySem PySem.W PyProof.Rows PySem.Calls PyProof.V
set_option Elab.async false
set_option maxRecDepth 100000
set_option maxHeartbeats 1000000
set_option linter.unusedVariables false
set_option linter.unusedSimpArgs false
namespace Mine
def TabOk (n : Nat) (t : SetTable) : Prop := t.dummies = #[] ∧ t.place.size = n ∧ ((t.mask = 7 ∧ n ≤ 4) ∨ (t.mask = 31 ∧ n ≤ 18) ∨ (t.mask = 127 ∧ n ≤ 76))
theorem TabOk.mask {n : Nat} {t : SetTable} (h : TabOk n t) : Mask t.mask := by
  rcases h.2.2 with ⟨h, -⟩ | ⟨h, -⟩ | ⟨h, -⟩
  · exact .inl h
  · exact .inr (.inl h)
  · exact .inr (.inr h)
theorem TabOk.lt {n : Nat} {t : SetTable} (h : TabOk n t) : n < t.mask := by
  rcases h.2.2 with ⟨h, h'⟩ | ⟨h, h'⟩ | ⟨h, h'⟩ <;> omega
theorem fits_of {n : Nat} {t : SetTable} (h1 : t.dummies = #[]) (h2 : t.place.size = n) (h3 : n ≤ t.mask) : t.fits n = true := by
  unfold SetTable.fits SetTable.fill
  rw [h1, h2]
  simp only [Bool.and_eq_true, beq_iff_eq, decide_eq_true_eq]
  exact ⟨trivial, by simpa using h3⟩
theorem TabOk.fits {n : Nat} {t : SetTable} (h : TabOk n t) : t.fits n = true := fits_of h.1 h.2.1 (Nat.le_of_lt h.lt)
theorem put_facts {t : SetTable} (hd : t.dummies = #[]) (j : Nat) : (t.put j).1.dummies = #[] ∧ (t.put j).1.place.size = t.place.size + 1 ∧ (t.put j).1.mask = t.mask := by
  refine ⟨?_, ?_, rfl⟩
  · unfold SetTable.put
    dsimp only
    rw [hd, if_neg]
    unfold SetTable.has
    simp
  · unfold SetTable.put
    exact insertAt_size ..
section
variable {prog : Program} {w : World} {A : Around} {E : Value → Shared → Prop} {s : Shared}
theorem relay_ok {S : Addr} {o : Obj} {es : Array (Int × Value)} {ep : Nat} {t : SetTable} {wanted M : Nat} {Q : Unit → Shared → Prop}
    (ho : s.heap.get? S = some o) (hd : o.data = .set es ep t) (hf : t.fits es.size = true) (hM : Mask M) (hw : SetTable.sizeAbove wanted - 1 = M) (hw2 : SetTable.sizeAbove wanted ≤ 128) (hl : es.size ≤ M) (hz : es.size ≤ sizeLine)
    (h : ∀ (es' : Array (Int × Value)) (t' : SetTable), t'.mask = M → t'.dummies = #[] → t'.place.size = es.size → es'.size = es.size → (∀ e ∈ es'.toList, e ∈ es.toList) → Q () { s with heap := s.heap.update S (Obj.putSet es' t') }) :
    wpAny (model prog w) A (setRelay S wanted) Q E s := by
  unfold setRelay
  refine wpAny_bind (wpAny_setState_of ho hd hf ?_)
  dsimp only
  have hsl : ¬ SetTable.sizeAbove wanted > sizeLine := by rw [sizeLine_eq]; omega
  rw [if_neg hsl]
  obtain ⟨t', order, e1, e2, e3, e4, e5, e6⟩ := laid_ok hM t.finger (t.movedTo M) t.led t.plain (es.map (·.1)) (by rw [Array.size_map]; exact hl)
  rw [Array.size_map] at e4 e5 e6
  have e7 : t.relaid (es.map (·.1)) wanted = some (t', order) := by
    unfold SetTable.relaid
    rw [hw]
    exact e1
  rw [e7]
  have hall : ∀ i ∈ order.toList, (es[i]?).isSome = true := by
    intro i hi
    rw [Array.getElem?_eq_getElem (e6 i hi)]
    rfl
  have hsz : (order.filterMap (es[·]?)).size = es.size := by
    rw [← Array.length_toList, Array.toList_filterMap, List.length_filterMap_eq_countP, ← e5, ← Array.length_toList (xs := order)]
    exact List.countP_eq_length.mpr hall
  have hmem : ∀ e ∈ (order.filterMap (es[·]?)).toList, e ∈ es.toList := by
    intro e he
    rw [Array.toList_filterMap] at he
    obtain ⟨i, -, hi⟩ := List.mem_filterMap.mp he
    exact Array.mem_toList_iff.mpr (Array.mem_of_getElem? hi)
  refine wpAny_bind ?_
  show wpAny _ _ (if ((order.filterMap (es[·]?)).size != es.size) = true then _ else _) _ _ _
  rw [hsz, if_neg (by simp)]
  refine wpAny_pure ?_
  exact wpAny_storeSet_of ho hd (h _ t' e2 e3 e4 hsz hmem) (by rw [hsz]; exact hz)
def SetSt (h : Heap) (S : Addr) (n : Nat) (ok : Value → Prop) : Prop := ∃ o es ep t, h.get? S = some o ∧ o.ExactSet ∧ o.data = .set es ep t ∧ TabOk n t ∧ es.size = n ∧ ∀ e ∈ es.toList, ok e.2
theorem add_tuple {S : Addr} {n : Nat} {ok : Value → Prop} {ks : List Int} {a : Addr} {Q : Bool → Shared → Prop} (hS : SetSt s.heap S n ok) (hn : n < 60) (hu : A.units < cLine)
    (hk : IsTupleKey (intKind prog w) s.heap ks a) (hel : ∀ v, ok v → ∃ b ks', v = .ref b ∧ IsTupleKey (intKind prog w) s.heap ks' b ∧ ks' ≠ ks)
    (h : ∀ h' tk, Heap.SameBut S s.heap h' → s.toks ≤ tk → SetSt h' S (n + 1) (fun v => ok v ∨ v = .ref a) → Q true { s with heap := h', toks := tk }) :
    wpAny (model prog w) A (setAdd S (.ref a)) Q E s := by
  obtain ⟨o, es, ep, t, ho, hex, hd, hT, hsz, hok⟩ := hS
  have hf : t.fits es.size = true := by rw [hsz]; exact hT.fits
  unfold setAdd setAddHashed
  refine wpAny_holding (wpAny_bind (wpAny_pyHash_tuple hu hk ?_))
  refine wpAny_holding ?_
  unfold setAddHashedIn
  refine wpAny_bind (wpAny_setState_of ho hd hf ?_)
  dsimp only
  have hbs : byScan (.ref a) es = false := by
    unfold byScan
    simp [Value.scannable]
  rw [hbs]
  simp only [Bool.false_eq_true, if_false]
  obtain ⟨hv, hhv⟩ : ∃ v, v = tupleKeyHash (intKind prog w) ks := ⟨_, rfl⟩
  rw [← hhv]
  obtain ⟨y, hy, hyn⟩ := left_out (l := t.place.toList) (M := t.mask) (by rw [Array.length_toList, hT.2.1]; exact Nat.le_of_lt hT.lt)
  have hms := meets_start hT.mask hy (slot_empty hT.1 hyn) hv
  refine wpAny_bind ?_
  unfold setSearch
  have hlt := hT.mask
  refine search_new (s := { s with toks := s.toks + (ks.length + 1) }) (E := E) ho hd hf hT.mask hT.1 hu hk (fun e he => hel e.2 (hok e he)) (fun j => ?_) (10 * (t.mask + 12)) 100000 none ?_ ?_ hms rfl
  · dsimp only
    refine wpAny_bind (wpAny_setState_of ho hd hf ?_)
    dsimp only
    obtain ⟨p1, p2, p3⟩ := put_facts hT.1 j
    have hput : t.put j = ((t.put j).1, (t.put j).2) := rfl
    obtain ⟨t1, ht1⟩ : ∃ x, x = (t.put j).1 := ⟨_, rfl⟩
    rw [hput, ← ht1]
    rw [← ht1] at p1 p2 p3
    dsimp only
    rw [hT.2.1] at p2
    have tail : ∀ t2 : SetTable, t2.dummies = #[] → t2.place.size = n + 1 → t2.mask = t.mask → wpAny (model prog w) A (do
        storeSet S (SetTable.insertAt es (t.put j).2 (hv, .ref a)) t2
        if (!false && t2.tooFull) = true then do
          setRelay S (SetTable.grown (es.size + 1))
          pure true
        else pure true) Q E { s with toks := s.toks + (ks.length + 1) } := by
      intro t2 q1 q2 q3
      have hes : (SetTable.insertAt es (t.put j).2 (hv, Value.ref a)).size = n + 1 := by rw [insertAt_size, hsz]
      have hmem : ∀ e ∈ (SetTable.insertAt es (t.put j).2 (hv, Value.ref a)).toList, ok e.2 ∨ e.2 = .ref a := by
        intro e he
        rcases insertAt_mem he with he | rfl
        · exact .inl (hok e he)
        · exact .inr rfl
      refine wpAny_bind (wpAny_storeSet_of (s := { s with toks := s.toks + (ks.length + 1) }) ho hd ?_ (by rw [hes, sizeLine_eq]; omega))
      generalize SetTable.insertAt es (t.put j).2 (hv, Value.ref a) = es2 at hes hmem ⊢
      have hg2 : (s.heap.update S (Obj.putSet es2 t2)).get? S = some { o with data := .set es2 (ep + 1) t2 } := by
        have := Heap.get?_update_self (Obj.putSet es2 t2) ho (by rw [putSet_of es2 t2 hd]; rfl)
        rw [putSet_of es2 t2 hd] at this
        exact this
      have hsb := Heap.SameBut.update s.heap S (Obj.putSet es2 t2)
      have hfl : t2.fill = n + 1 := by unfold SetTable.fill; rw [q1, q2]; rfl
      have hmk : t2.mask = 7 ∧ n ≤ 4 ∨ t2.mask = 31 ∧ n ≤ 18 ∨ t2.mask = 127 ∧ n ≤ 76 := by rw [q3]; exact hT.2.2
      have hf2 : t2.fits es2.size = true := by rw [hes]; exact fits_of q1 q2 (by rw [q3]; exact hT.lt)
      have hend : ∀ (M w' : Nat), Mask M → SetTable.sizeAbove w' - 1 = M → SetTable.sizeAbove w' ≤ 128 → n + 1 ≤ M → ((M = 7 ∧ n + 1 ≤ 4) ∨ (M = 31 ∧ n + 1 ≤ 18) ∨ (M = 127 ∧ n + 1 ≤ 76)) → wpAny (model prog w) A (do
          setRelay S w'
          pure true) Q E { s with heap := s.heap.update S (Obj.putSet es2 t2), toks := s.toks + (ks.length + 1) } := by
        intro M w' hM hw1 hw2 hM2 hM3
        refine wpAny_bind (relay_ok (s := { s with heap := s.heap.update S (Obj.putSet es2 t2), toks := s.toks + (ks.length + 1) }) hg2 rfl hf2 hM hw1 hw2 (by rw [hes]; exact hM2) (by rw [hes, sizeLine_eq]; omega) ?_)
        intro es3 t3 r1 r2 r3 r4 r5
        rw [hes] at r3 r4
        have hg3 : ((s.heap.update S (Obj.putSet es2 t2)).update S (Obj.putSet es3 t3)).get? S = some { o with data := .set es3 (ep + 1 + 1) t3 } := by
          have := Heap.get?_update_self (Obj.putSet es3 t3) hg2 rfl
          exact this
        refine wpAny_pure (h _ _ (hsb.trans (Heap.SameBut.update _ S _)) (by dsimp only; omega) ⟨_, es3, _, t3, hg3, hex, rfl, ⟨r2, r3, by rw [r1]; exact hM3⟩, r4, fun e he => hmem e (r5 e he)⟩)
      by_cases htf : t2.tooFull = true
      · rw [htf, if_pos (by rfl)]
        unfold SetTable.tooFull at htf
        rw [hfl] at htf
        have htf' := of_decide_eq_true htf
        rw [hsz]
        rcases hmk with ⟨m1, m2⟩ | ⟨m1, m2⟩ | ⟨m1, m2⟩
        · rw [m1] at htf'
          obtain rfl : n = 4 := by omega
          exact hend 31 _ (.inr (.inl rfl)) (by decide) (by decide) (by omega) (.inr (.inl ⟨rfl, by omega⟩))
        · rw [m1] at htf'
          obtain rfl : n = 18 := by omega
          exact hend 127 _ (.inr (.inr rfl)) (by decide) (by decide) (by omega) (.inr (.inr ⟨rfl, by omega⟩))
        · rw [m1] at htf'
          omega
      · rw [Bool.not_eq_true] at htf
        rw [htf]
        simp only [Bool.and_false, Bool.false_eq_true, if_false]
        unfold SetTable.tooFull at htf
        rw [hfl] at htf
        have htf' := of_decide_eq_false htf
        refine wpAny_pure (h _ _ hsb (by omega) ⟨_, es2, _, t2, hg2, hex, rfl, ⟨q1, q2, ?_⟩, hes, hmem⟩)
        rcases hmk with ⟨m1, m2⟩ | ⟨m1, m2⟩ | ⟨m1, m2⟩
        · rw [m1] at htf'
          exact .inl ⟨m1, by omega⟩
        · rw [m1] at htf'
          exact .inr (.inl ⟨m1, by omega⟩)
        · exact .inr (.inr ⟨m1, by omega⟩)
    split
    · refine wpAny_bind (hbv_tuple (s := { s with toks := s.toks + (ks.length + 1) }) hk ?_)
      rw [if_pos rfl]
      exact tail t1 p1 p2 p3
    · refine wpAny_bind (wpAny_pure ?_)
      rw [if_pos rfl]
      exact tail t1 p1 p2 p3
  · rcases hT.mask with e | e | e <;> rw [e] <;> decide
  · unfold SetTable.turns
    omega
end
end Mine
end
section
open PySem PySem.W PyProof.Rows PySem.Calls PyProof.V
set_option Elab.async false
set_option maxRecDepth 100000
set_option maxHeartbeats 3200000
set_option linter.unusedVariables false
set_option linter.unusedSimpArgs false
namespace Mine
theorem SetSt.at' {h h' : Heap} {S : Addr} {n : Nat} {ok : Value → Prop} (hS : SetSt h S n ok) (e : ∀ o, h.get? S = some o → h'.get? S = some o) : SetSt h' S n ok := by
  obtain ⟨o, es, ep, t, ho, r⟩ := hS
  exact ⟨o, es, ep, t, e o ho, r⟩
theorem SetSt.weaken {h : Heap} {S : Addr} {n : Nat} {ok ok' : Value → Prop} (hS : SetSt h S n ok) (e : ∀ v, ok v → ok' v) : SetSt h S n ok' := by
  obtain ⟨o, es, ep, t, ho, hex, hd, hT, hsz, hok⟩ := hS
  exact ⟨o, es, ep, t, ho, hex, hd, hT, hsz, fun x hx => e _ (hok x hx)⟩
section
variable {prog : Program} {w : World} {A : Around} {E : Value → Shared → Prop} {s : Shared} {R : Result → Shared → Prop} {I : Addr} {fp wr : List Addr} {G : Array GenState → Array GenState → Prop} {n : Nat} {P : Nat → Value → Prop} {St : Nat → Shared → Prop}
theorem keyAt {h h' : Heap} {ks : List Int} {a : Addr} (hk : IsTupleKey (intKind prog w) h ks a) (e : ∀ o, h.get? a = some o → h'.get? a = some o) : IsTupleKey (intKind prog w) h' ks a := by
  obtain ⟨o, items, n, ho, r⟩ := hk
  exact ⟨o, items, n, e o ho, r⟩
theorem upd_loop (W : WalksS prog w A.in1 I fp wr G n P St) (S : Addr) (hSf : S ∉ fp) (addr : Nat → Addr) (rows : Nat → List Int)
    (hval : ∀ i v, P i v → v = .ref (addr i)) (hn : n < 60) (hne : ∀ i, i < n → addr i ∉ S :: wr) (hdis : ∀ i j, i < j → j < n → rows i ≠ rows j) (hu : A.units + 1 < cLine) :
    ∀ (k i : Nat) (s : Shared), n - i = k → i ≤ n → St i s → (∀ j, j < n → IsTupleKey (intKind prog w) s.heap (rows j) (addr j)) →
      SetSt s.heap S i (fun v => ∃ j, j < i ∧ v = .ref (addr j)) →
      (∀ s', Moved (S :: wr) G s s' → SetSt s'.heap S n (fun v => ∃ j, j < n ∧ v = .ref (addr j)) → R (.ok (.ret .none)) s') →
      codeAny (model prog w) A (.builtin "set.update.loop" ⟨[.ref S, .ref I], []⟩) R s := by
  have hSw : S ∉ wr := fun h => hSf (W.sub _ h)
  have hsub : ∀ b ∈ wr, b ∈ S :: wr := fun b hb => List.mem_cons_of_mem _ hb
  intro k
  induction k with
  | zero =>
    intro i s hk hi hst hT hS hR
    have hin : i = n := by omega
    subst hin
    refine codeAny_builtin F.entry_set_update_loop ?_
    rw [Around.under_plainId F.plain_set_update_loop _]
    show wpAny _ A.in1 (pyNext (.ref I) >>= _) _ _ s
    refine wpAny_bind (W.done s _ _ hst fun s' hm => ?_)
    show wpAny _ A.in1 (ret Value.none) _ _ s'
    exact wpAny_pure (hR s' (hm.mono hsub) (hS.at' fun o e => hm.heap S _ hSw e))
  | succ k ih =>
    intro i s hk hi hst hT hS hR
    have hlt : i < n := by omega
    refine codeAny_builtin F.entry_set_update_loop ?_
    rw [Around.under_plainId F.plain_set_update_loop _]
    show wpAny _ A.in1 (pyNext (.ref I) >>= _) _ _ s
    refine wpAny_bind (W.item i s _ _ hlt hst fun v s' hP hst' hm => ?_)
    obtain rfl := hval i v hP
    have hT' : ∀ j, j < n → IsTupleKey (intKind prog w) s'.heap (rows j) (addr j) := fun j hj => keyAt (hT j hj) fun o e => hm.heap _ _ (fun q => hne j hj (hsub _ q)) e
    have hS' := hS.at' (h' := s'.heap) fun o e => hm.heap S _ hSw e
    show wpAny _ A.in1 (holding [Value.ref (addr i)] (setAdd S (.ref (addr i))) >>= _) _ _ s'
    refine wpAny_bind (wpAny_holding ?_)
    refine add_tuple (ks := rows i) hS' (by omega) (by rw [Around.in1_units]; exact hu) (hT' i hlt) ?_ ?_
    · rintro v ⟨j, hj, rfl⟩
      exact ⟨_, _, rfl, hT' j (by omega), hdis j i hj hlt⟩
    · intro h' tk hsb htk hS2
      have hS3 : SetSt h' S (i + 1) (fun v => ∃ j, j < i + 1 ∧ v = .ref (addr j)) := hS2.weaken fun v hv => by
        rcases hv with ⟨j, hj, rfl⟩ | rfl
        · exact ⟨j, by omega, rfl⟩
        · exact ⟨i, by omega, rfl⟩
      refine wpAny_pure ⟨plainId_quiet F.plain_set_update_loop _, ih (i + 1) { s' with heap := h', toks := tk } (by omega) hlt (W.frame _ s' _ _ hst' htk fun b hb o e => ?_) (fun j hj => keyAt (hT' j hj) fun o e => ?_) hS3 fun s'' hm'' hS'' => ?_⟩
      · rw [hsb.2 b (fun h : b = S => hSf (by rw [← h]; exact hb))]; exact e
      · rw [hsb.2 _ (fun h => hne j hj (by rw [h]; exact List.mem_cons_self))]; exact e
      · refine hR s'' (Moved.trans W.gtrans ((hm.mono hsub).then_heap htk fun b o hb e => ?_) hm'') hS''
        rw [hsb.2 b (fun h : b = S => hb (by rw [h]; exact List.mem_cons_self))]; exact e
theorem set_start {h : Heap} {S : Addr} {led : Bool} {ok : Value → Prop} (hg : h.get? S = some { cls := .type "set", dict := none, data := .set #[] 0 (.fresh 0 0 led) }) : SetSt h S 0 ok :=
  ⟨_, #[], 0, _, hg, ⟨rfl, rfl, rfl⟩, rfl, ⟨rfl, rfl, .inl ⟨rfl, by omega⟩⟩, rfl, fun e he => by simp at he⟩
theorem set_of_tuples {l : Addr} {items : Array Value} {addr : Nat → Addr} {rows : Nat → List Int} {Q : Value → Shared → Prop}
    (hh : A.handled = none) (hu : A.units + 10 < cLine) (hl : s.heap.IsList l items) (hi : ∀ (i : Nat) v, items[i]? = some v → v = .ref (addr i)) (hb : items.size < 60) (hT : ∀ j, j < items.size → IsTupleKey (intKind prog w) s.heap (rows j) (addr j)) (hdis : ∀ i j, i < j → j < items.size → rows i ≠ rows j)
    (h : ∀ (h' : Heap) (tk : Nat), SetSt h' s.heap.objs.size items.size (fun _ => True) →
      (∀ b o, b < s.heap.objs.size → s.heap.get? b = some o → h'.get? b = some o) → Q (.ref s.heap.objs.size) { s with heap := h', toks := tk }) :
    wpAny (model prog w) A (call (.type "set") [.ref l]) Q E s := by
  obtain ⟨c, tl, hmro⟩ := F.called_set.mro
  have hmade := F.called_set.made
  have hsub := F.called_set.sub
  refine wpAny_call (codeAny_of_tree ?_)
  show wpAny _ _ (callAny (.type "set") _) _ _ _
  refine wpAny_pure ⟨Code.quiet_builtin _ (by decide +kernel), codeAny_builtin F.entry_type_call ?_⟩
  rw [Around.under_plain (weight_type_call_type "set" [.ref l] []) rfl]
  have h1 := F.called_set.notType
  have h2 := F.called_set.canCreate
  have hct := F.typeCall_set_1 (.ref l)
  repeat (any_goals (first | assumption | wp_step))
  refine codeAny_mono (code_set_new_1 (.ref l) (E := E) (Q₁ := fun obj s₁ => ∃ led : Bool, obj = .ref s.heap.objs.size ∧ s₁ = { s with heap := s.heap.push { cls := .type "set", dict := none, data := .set #[] 0 (.fresh 0 0 led) } }) fun led => ⟨led, rfl, rfl⟩) fun r s₁ hr => ?_
  cases r with
  | error e => exact hr
  | ok fl =>
    cases fl with
    | ret obj =>
      obtain ⟨led, rfl, rfl⟩ := hr
      have hS : (s.heap.push { cls := .type "set", dict := none, data := .set #[] 0 (.fresh 0 0 led) }).get? s.heap.objs.size = some { cls := .type "set", dict := none, data := .set #[] 0 (.fresh 0 0 led) } := Heap.get?_push_size _ rfl
      have hTy : Shared.TypeIs { s with heap := s.heap.push { cls := .type "set", dict := none, data := .set #[] 0 (.fresh 0 0 led) } } (.ref s.heap.objs.size) "set" := ⟨_, hS, rfl⟩
      have hli := F.called_set.init.lookup
      have hbi := F.called_set.init.bind (.ref s.heap.objs.size)
      repeat (any_goals (first | assumption | wp_step))
      refine codeAny_mono (codeAny_call_builtin (R := wants (fun r s₂ => r = .none ∧ ∃ h' tk, s₂ = { s with heap := h', toks := tk } ∧
          SetSt h' s.heap.objs.size items.size (fun _ => True) ∧
          (∀ b o, b < s.heap.objs.size → s.heap.get? b = some o → h'.get? b = some o)) E) F.called_set.init.plain F.entry_set_init (check_set_init_1 hTy ?_)) fun r₂ s₂ hr₂ => ?_
      · obtain ⟨ol, hol, hcl, nl, hdl⟩ := hl
        obtain ⟨ocls, odict, odata, oslots⟩ := ol
        simp only at hcl hdl
        subst hcl; subst hdl
        have hol' : (s.heap.push { cls := .type "set", dict := none, data := .set #[] 0 (.fresh 0 0 led) }).get? l = some { cls := .type "list", dict := odict, data := .seq items nl, slots := oslots } := Heap.get?_push_of_some _ hol
        have hsls := F.sub_list_set
        have hslf := F.sub_list_frozenset
        have hne : (Value.type "list" == Value.type "dict") = false := by decide
        have hl1 : (s.heap.push { cls := .type "set", dict := none, data := .set #[] 0 (.fresh 0 0 led) }).IsList l items := ⟨_, hol', rfl, nl, rfl⟩
        unfold Builtin.«set.__init__» noKeywords Builtin.Frozenset.updateFrom
        generalize hPI : pyIter = PI
        wp_walk
        subst hPI
        refine wpAny_pyIter_list hl1 ?_
        refine wpAny_bind (wpAny_runValue ?_)
        have hlS : l < s.heap.objs.size := Heap.lt_size hol
        have hh3 : A.in1.in1.in1.handled = none := by simp [hh]
        have hneI : l ≠ (s.heap.push { cls := .type "set", dict := none, data := .set #[] 0 (.fresh 0 0 led) }).objs.size := by
          rw [Heap.size_push]; exact Nat.ne_of_lt (Nat.lt_succ_of_lt hlS)
        have hSf : s.heap.objs.size ∉ [(s.heap.push { cls := .type "set", dict := none, data := .set #[] 0 (.fresh 0 0 led) }).objs.size, l] := by
          rw [Heap.size_push]; simp only [List.mem_cons, List.mem_singleton, List.not_mem_nil, or_false, not_or]
          exact ⟨Nat.ne_of_lt (Nat.lt_succ_self _), Nat.ne_of_gt hlS⟩
        refine upd_loop ((Walks.list hh3 _ l hneI items).toS) s.heap.objs.size
          hSf addr rows (fun i v hv => hi i v hv) hb ?hne hdis (by simp only [Around.in1_units]; omega) (items.size - 0) 0 _ (by omega) (Nat.zero_le _)
          ⟨⟨_, Heap.get?_push_size _ rfl, rfl, rfl⟩, (hl1.push _)⟩ ?hTT ?hS0 ?hR
        case hne =>
          intro i hi'
          obtain ⟨o, _, _, ho, _⟩ := hT i hi'
          have := Heap.lt_size ho
          rw [Heap.size_push]
          simp only [List.mem_cons, List.mem_singleton, List.not_mem_nil, or_false, not_or]
          exact ⟨Nat.ne_of_lt this, Nat.ne_of_lt (Nat.lt_succ_of_lt this)⟩
        case hTT =>
          intro j hj
          exact keyAt (hT j hj) fun o e => Heap.get?_push_of_some _ (Heap.get?_push_of_some _ e)
        case hS0 =>
          exact set_start (Heap.get?_push_of_some _ hS)
        case hR =>
          intro s' hm hS'
          obtain ⟨h', g', d', tk', os'⟩ := s'
          have eg : g' = s.gens := hm.gens
          have ed : d' = s.drawn := hm.drawn
          have eo : os' = s.os := hm.os
          subst eg; subst ed; subst eo
          show wpAny _ _ _ _ _ _
          refine wpAny_pure ?_
          show wpAny _ _ (ret Value.none) _ _ _
          refine wpAny_pure ⟨rfl, h', tk', rfl, hS'.weaken fun _ _ => trivial, fun b o hb e => ?_⟩
          have hb1 : b ≠ s.heap.objs.size := Nat.ne_of_lt hb
          have hb2 : b ≠ (s.heap.push { cls := .type "set", dict := none, data := .set #[] 0 (.fresh 0 0 led) }).objs.size := by
            rw [Heap.size_push]; exact Nat.ne_of_lt (Nat.lt_succ_of_lt hb)
          exact hm.heap b o (by simp only [List.mem_cons, List.mem_singleton, List.not_mem_nil, or_false, not_or]; exact ⟨hb1, hb2⟩) (Heap.get?_push_of_some _ (Heap.get?_push_of_some _ e))
      · cases r₂ with
        | error e => exact hr₂
        | ok fl₂ =>
          cases fl₂ with
          | ret r =>
            obtain ⟨rfl, h', tk, rfl, hS', hk'⟩ := hr₂
            repeat (any_goals (first | assumption | wp_step))
            exact h _ _ hS' hk'
          | _ => exact hr₂.elim
    | _ => exact hr.elim
theorem len_set_of {S : Addr} {n : Nat} {ok : Value → Prop} {Q : Value → Shared → Prop} (hS : SetSt s.heap S n ok) (hn : n < 60) (h : Q (.int n (s.toks + 1)) { s with toks := s.toks + 1 + 1 }) : wpAny (model prog w) A (call (.builtin "len") [.ref S]) Q E s := by
  obtain ⟨o, es, ep, t, ho, hex, hd, hT, hsz, -⟩ := hS
  refine call_len_set ho hex hd (by rw [hsz]; exact hT.fits) (by rw [hsz]; omega) ?_
  rw [hsz]
  exact h
end
end Mine
end
section
open PySem PySem.W PyProof.Rows PySem.Calls PyProof.V
set_option Elab.async false
set_option maxRecDepth 100000
set_option maxHeartbeats 2000000
set_option linter.unusedVariables false
set_option linter.unusedSimpArgs false
namespace Mine
local macro_rules | `(tactic| walk_at "pad 0") => `(tactic| fail)
local macro_rules | `(tactic| walk_at "pad 1") => `(tactic| fail)
local macro_rules | `(tactic| walk_at "pad 2") => `(tactic| fail)
local macro_rules | `(tactic| walk_at "pad 3") => `(tactic| fail)
local macro_rules | `(tactic| walk_at "pad 4") => `(tactic| fail)
local macro_rules | `(tactic| walk_at "pad 5") => `(tactic| fail)
local macro_rules | `(tactic| walk_at "pad 6") => `(tactic| fail)
local macro_rules | `(tactic| walk_at "pad 7") => `(tactic| fail)
local macro_rules | `(tactic| walk_at "pad 8") => `(tactic| fail)
local macro_rules | `(tactic| walk_at "pad 9") => `(tactic| fail)
theorem anew_RRSet5 : True := by
  w_top off
  trivial
local macro_rules | `(tactic| k_all) => `(tactic| assumption)
local macro_rules | `(tactic| dict_fit) => `(tactic| omega)
local macro_rules | `(tactic| k_room) => `(tactic| ktr_room)
local macro_rules | `(tactic| walk_at "call type:set") => `(tactic| ((with_reducible show wpAny _ _ (call (Value.type "set") [Value.ref _]) _ _ _); refine halt ?_))
local macro_rules | `(tactic| walk_at "call builtin:len") => `(tactic| ((with_reducible show wpAny _ _ (call (Value.builtin "len") [Value.ref _]) _ _ _); (have hset9 : SetSt _ _ _ _ := by assumption); refine halt ?_))
local macro_rules | `(tactic| walk_at "eval Name") => `(tactic| (k_here; k_dflt (refine' nameX_L ?kA1 ?kA2 ?_ ?kA3 ?kA4 ?kA5; (case kA3 => rfl); (case kA4 => rfl); (case kA5 => decide); (case kA1 => k_asm); (case kA2 => ((try dsimp only); (repeat (rw [if_neg (by decide)])); assumption)); k_whole)))
theorem rowsOf_nodup : ∀ k, k ≤ 4 → (rowsOf k).Nodup
  | 0, _ => by decide
  | 1, _ => by decide
  | 2, _ => by decide
  | 3, _ => by decide +kernel
  | 4, _ => by decide +kernel
theorem orders_ne {ks : List Int} (hn : ks.Nodup) (h4 : ks.length ≤ 4) : ∀ i j, i < j → j < (rowsOf ks.length).length → ((rowsOf ks.length).map (popKeys ks)).getD i [] ≠ ((rowsOf ks.length).map (popKeys ks)).getD j [] := by
  intro i j hij hj h
  have hi : i < (rowsOf ks.length).length := Nat.lt_trans hij hj
  rw [List.getD_eq_getElem?_getD, List.getD_eq_getElem?_getD, List.getElem?_map, List.getElem?_map, List.getElem?_eq_getElem hi, List.getElem?_eq_getElem hj] at h
  have h' : popKeys ks (rowsOf ks.length)[i] = popKeys ks (rowsOf ks.length)[j] := h
  have m1 := List.getElem_mem hi
  have m2 := List.getElem_mem hj
  have l1 := rowsOf_mem_len _ _ m1
  have l2 := rowsOf_mem_len _ _ m2
  have := popKeys_inj _ _ ks hn l1.symm (l1.trans l2.symm) (by rw [l1]; exact rowsOf_ok _ _ m1) (by rw [l2]; exact rowsOf_ok _ _ m2) h'
  exact List.pairwise_iff_getElem.mp (rowsOf_nodup _ h4) i j hi hj hij this
section
variable {prog : Program} {w : World} {p : Program} {loose : List Str} {mean : ExcName → Option Value} {mg mb : Str → Option Value}
theorem items_int : ∀ {vs : List Value} {r : List Int}, IntsAre vs r → ItemsAre (intKind prog w) r vs
  | _, _, .nil => .nil
  | _, _, .cons n t h => .cons (intKind_is _ _ _ _) (items_int h)
theorem Tpl.at_ : ∀ {l : List (Addr × Obj)} {rs : List (List Int)} (h : Tpl l rs) (i : Nat), i < l.length → ∃ T vs, l[i]? = some (T, { cls := .type "tuple", data := .seq (List.toArray vs) 0 }) ∧ IntsAre vs (rs.getD i [])
  | _, _, .nil, i, hi => absurd hi (Nat.not_lt_zero _)
  | _, _, .cons T vs r h h', 0, _ => ⟨T, vs, rfl, h⟩
  | _, _, .cons T vs r h h', i + 1, hi => Tpl.at_ h' i (Nat.lt_of_succ_lt_succ hi)
theorem law12 {dp un : Nat} {gd : Option (List Code)} {a : Addr} {ccd : Value} {A₀ : Around} {base h₀ : Heap} {L rd : Addr} {mm : Str → Option Value} {s : Shared} {Q : Flow → Shared → Prop} {E : Value → Shared → Prop} {cR : Nat} {ks : List Int} {ot Z : List (Addr × Obj)} {more : List Stmt}
    (B : Below A₀ base [] h₀) (F : Fr h₀ L s.heap mm) (X : (K w.params).In h₀) (N : News h₀ L s.heap ((rd, listOf (ot.map fun p => Value.ref p.1).toArray cR) :: Z)) (hotZ : ∀ q ∈ ot, q ∈ Z) (T : Top p loose mean mg mb h₀) (hC : CodeHd base 905 901)
    (hkn : ks.Nodup) (hk4 : ks.length ≤ 4) (hTp : Tpl ot ((rowsOf ks.length).map (popKeys ks)))
    (m1 : mm (Str.ofString "orders") = some (.ref rd)) (hd : dp + 200 < recursionLimit) (hu : un + 1600 < cLine)
    (hk : ∀ (hh : Heap) (tk : Nat), Fr h₀ L hh mm → News h₀ L hh Z →
      wpAny (model prog w) (ktrTop dp un gd (Str.ofString "law") lscope L a ccd (lcells L) []) (execs more (envX (Str.ofString "law") lscope L a ccd (lcells L))) Q E { s with heap := hh, toks := tk }) :
    wpAny (model prog w) (ktrTop dp un gd (Str.ofString "law") lscope L a ccd (lcells L) []) (execs (lb 12 :: more) (envX (Str.ofString "law") lscope L a ccd (lcells L))) Q E s := by
  have key : (PySem.Challenge.rw_fc0033_01, Mine.K) = (PySem.Challenge.rw_fc0033_01, Mine.K) := by k_fill; rfl
  clear key
  have hotl := hTp.length
  rw [List.length_map] at hotl
  have h24 := rowsOf_len4 _ hk4
  have hot24 : ot.length ≤ 24 := by omega
  have hml : (ot.map fun p => Value.ref p.1).length = ot.length := List.length_map ..
  change wpAny _ _ (execs (Stmt.If _ _ _ _ :: _) (envX _ ⟨_, _, _, _, _⟩ _ _ _ [_, _, _, _, _])) _ _ _
  k_steps
  refine unhalt ?_
  refine set_of_tuples (items := (ot.map fun p => Value.ref p.1).toArray) (addr := fun i => (ot.getD i (0, default)).1) (rows := fun i => ((rowsOf ks.length).map (popKeys ks)).getD i []) rfl ?_ ⟨_, (N (rd, listOf (ot.map fun p => Value.ref p.1).toArray cR) (.head _)).1, rfl, cR, rfl⟩ ?_ (by rw [List.size_toArray]; omega) ?_ (fun i j hij hj => orders_ne hkn hk4 i j hij (by rw [List.size_toArray] at hj; omega)) ?_
  · exact (show un + 10 < cLine by omega)
  · intro i v hv
    rw [List.getElem?_toArray, List.getElem?_map] at hv
    rw [List.getD_eq_getElem?_getD]
    cases hq : ot[i]? with
    | none => rw [hq] at hv; cases hv
    | some q => rw [hq] at hv; exact (Option.some.inj hv).symm
  · intro j hj
    rw [List.size_toArray] at hj
    obtain ⟨T', vs, h1, h2⟩ := hTp.at_ j (by omega)
    have hm := List.mem_of_getElem? h1
    have e8 : ot.getD j (0, default) = (T', { cls := .type "tuple", data := .seq (List.toArray vs) 0 }) := by rw [List.getD_eq_getElem?_getD, h1]; rfl
    rw [e8]
    exact ⟨_, _, _, (N _ (.tail _ (hotZ _ hm))).1, rfl, rfl, items_int h2⟩
  intro h1 tk1 hSet hext
  have F1 : Fr h₀ L h1 mm := ⟨F.ns.at' fun o e => hext _ o (Heap.lt_size e) e, fun b o e => hext b o (Heap.lt_size (F.keep b o e)) (F.keep b o e), F.above⟩
  have N1 : News h₀ L h1 ((rd, listOf (ot.map fun p => Value.ref p.1).toArray cR) :: Z) := fun q hq => ⟨hext _ _ (Heap.lt_size (N q hq).1) (N q hq).1, (N q hq).2⟩
  clear hext
  have e9 : (ot.map fun p => Value.ref p.1).toArray.size = ot.length := by rw [List.size_toArray, hml]
  rw [e9] at hSet
  generalize s.heap.objs.size = SS at hSet ⊢
  k_steps
  refine unhalt ?_
  refine len_set_of hSet (by omega) ?_
  clear hSet
  have hfit : (ot.length : Int) < 2 ^ 63 := by omega
  dsimp only
  k_steps
  · rename_i hc
    exact absurd rfl hc
  · exact hk _ _ F1 fun q hq => N1 q (.tail _ hq)
end
end Mine
end
section
open PySem PySem.W PyProof.Rows PySem.Calls PyProof.V
set_option Elab.async false
set_option maxRecDepth 100000
set_option maxHeartbeats 1000000
set_option linter.unusedVariables false
set_option linter.unusedSimpArgs false
namespace Mine
def Good (kv : KV) (ds : List (Int × Int × Int)) : Prop := ∀ k pd, look kv k = some pd → ∃ v : Int, pd = .int v ∧ v ∈ lays ds k ∧ ∀ a ∈ lays ds k, a ≤ v
theorem Good.del {kv : KV} {ds : List (Int × Int × Int)} (h : Good kv ds) (g : Int) : Good (del kv g) ds := by
  intro k pd hl
  rw [look_del] at hl
  split at hl
  · cases hl
  · exact h k pd hl
theorem Good.put {kv : KV} {ds ds' : List (Int × Int × Int)} {key c : Int} (h : Good kv ds) (hc : ∀ a ∈ lays ds key, a ≤ c) (h1 : lays ds' key = lays ds key ++ [c]) (h2 : ∀ k, k ≠ key → lays ds' k = lays ds k) : Good (put kv key (.int c)) ds' := by
  intro k pd hl
  rw [look_put] at hl
  split at hl
  · rename_i e
    subst e
    obtain rfl : PyData.int c = pd := Option.some.inj hl
    refine ⟨c, rfl, ?_, ?_⟩
    · rw [h1]; simp
    · intro a ha
      rw [h1] at ha
      rcases List.mem_append.mp ha with ha | ha
      · exact hc a ha
      · rw [List.mem_singleton.mp ha]; exact Int.le_refl _
  · rename_i e
    rw [h2 k e]
    exact h k pd hl
theorem Good.congr {kv : KV} {ds ds' : List (Int × Int × Int)} (h : Good kv ds) (e : ∀ k, lays ds' k = lays ds k) : Good kv ds' := by
  intro k pd hl
  rw [e k]
  exact h k pd hl
theorem good_deed {room : Int} {S : St} {ds ds' : List (Int × Int × Int)} {a b c : Int} (h : Good S.kv ds) (hc : ∀ x ∈ lays ds b, x ≤ c) (hl : ∀ k, lays ds' k = if a < 4 ∧ b = k then lays ds k ++ [c] else lays ds k) : Good (S.deed room a b (.int c)).1.kv ds' := by
  unfold St.deed
  by_cases h4 : a < 4
  · have h1 : lays ds' b = lays ds b ++ [c] := by rw [hl, if_pos ⟨h4, rfl⟩]
    have h2 : ∀ k, k ≠ b → lays ds' k = lays ds k := fun k hk => by rw [hl, if_neg (fun q => hk q.2.symm)]
    rw [if_pos h4]
    split
    · exact h.put hc h1 h2
    · split
      · exact h.put hc h1 h2
      · exact (h.del _).put hc h1 h2
  · have h2 : ∀ k, lays ds' k = lays ds k := fun k => by rw [hl, if_neg (fun q => h4 q.1)]
    rw [if_neg h4]
    split
    · split
      · exact (h.del _).congr h2
      · exact h.congr h2
    · split
      · split
        · exact h.congr h2
        · exact (h.del _).congr h2
      · intro k pd hl'
        cases hl'
theorem deedsOf_len (ns : List Int) (n : Nat) : (deedsOf ns n).length = n := by unfold deedsOf; rw [List.length_map, List.length_range]
theorem deedsOf_at (ns : List Int) {n i : Nat} (h : i < n) : (deedsOf ns n)[i]? = some (dOf ns i) := by
  unfold deedsOf
  rw [List.getElem?_map, List.getElem?_range h]
  rfl
theorem lays_lt (ns : List Int) {n i : Nat} (h : i ≤ n) (k x : Int) (hx : x ∈ lays ((deedsOf ns n).take i) k) : x < (i : Int) := by
  unfold lays at hx
  obtain ⟨d, hd, rfl⟩ := List.mem_map.mp hx
  have hd' := (List.mem_filter.mp hd).1
  obtain ⟨j, hj, e⟩ := List.getElem_of_mem hd'
  rw [List.length_take, deedsOf_len] at hj
  have hji : j < i := by omega
  have : ((deedsOf ns n).take i)[j]? = some (dOf ns j) := by
    rw [List.getElem?_take, if_pos hji, deedsOf_at ns (by omega)]
  rw [List.getElem?_eq_getElem (by rw [List.length_take, deedsOf_len]; omega), e] at this
  rw [Option.some.inj this]
  show (j : Int) < i
  omega
theorem good_run (room : Int) (S : St) (hS : S.kv = []) (ns : List Int) (n : Nat) : ∀ i, i ≤ n → Good (runD room S ((deedsOf ns n).take i)).kv ((deedsOf ns n).take i)
  | 0, _ => by
    intro k pd hl
    rw [List.take_zero] at hl
    have hl' : look S.kv k = some pd := hl
    rw [hS] at hl'
    cases hl'
  | i + 1, h => by
    have he : (deedsOf ns n)[i]? = some (nxt ns (2 + 3 * (i : Int)) 8, nxt ns (3 + 3 * (i : Int)) 9, (i : Int)) := deedsOf_at ns h
    rw [runD_take room S _ i he]
    exact good_deed (good_run room S hS ns n i (by omega)) (fun x hx => Int.le_of_lt (lays_lt ns (by omega) _ x hx)) fun k => lays_take _ k he
theorem good_all (room : Int) (dr ns : List Int) (n : Nat) : Good (runD room ⟨[], [], dr⟩ (deedsOf ns n)).kv (deedsOf ns n) := by
  have := good_run room ⟨[], [], dr⟩ rfl ns n n (Nat.le_refl _)
  rw [List.take_of_length_le (by rw [deedsOf_len]; exact Nat.le_refl _)] at this
  exact this
theorem lays_key (ns : List Int) (n : Nat) {k x : Int} (hx : x ∈ lays (deedsOf ns n) k) : k < 9 := by
  unfold lays at hx
  obtain ⟨d, hd, -⟩ := List.mem_map.mp hx
  obtain ⟨h1, h2⟩ := List.mem_filter.mp hd
  simp only [Bool.and_eq_true, decide_eq_true_eq] at h2
  obtain ⟨j, -, rfl⟩ := List.mem_map.mp h1
  rw [← h2.2]
  exact (nxt_range ns _ 9 (by decide)).2
theorem room_ok (ns : List Int) (n : Nat) : ((runD (1 + nxt ns 0 4) ⟨[], [], drawsOf ns n⟩ (deedsOf ns n)).ks.length : Int) ≤ 1 + nxt ns 0 4 := by
  have hr := nxt_range ns 0 4 (by decide)
  have h := (runD_ok (room := 1 + nxt ns 0 4) (by omega) (S := ⟨[], [], drawsOf ns n⟩) (by show ((0 : Nat) : Int) ≤ _; omega) (fun d hd => by
    obtain ⟨j, -, rfl⟩ := List.mem_map.mp hd
    exact (nxt_range ns _ 4 (by decide)).1) (deedsOf ns n) n (by rw [deedsOf_len]; exact Nat.le_refl _)).1
  rw [List.take_of_length_le (by rw [deedsOf_len]; exact Nat.le_refl _)] at h
  exact h
end Mine
end
section
open PySem PySem.W PyProof.Rows PySem.Calls PyProof.V
set_option Elab.async false
set_option maxRecDepth 100000
set_option maxHeartbeats 2000000
set_option linter.unusedVariables false
set_option linter.unusedSimpArgs false
namespace Mine
section
variable {α : Type} {a1 a2 a3 a4 a5 a6 a7 a8 a9 a10 a11 a12 b1 b2 b3 b4 b5 b6 : α} {l1 l2 l3 l4 : List α}
theorem rh1 : ∀ q ∈ a1 :: a2 :: a3 :: a4 :: a5 :: (l1 ++ [a6, a7, a8]), q ∈ a1 :: a2 :: a3 :: (l1 ++ [a4, a5, a6, a7, a8]) := by
  intro q hq; simp only [List.mem_cons, List.mem_append] at hq ⊢; grind
theorem rh2 : ∀ q ∈ l1 ++ a1 :: a6 :: (a2 :: a3 :: a4 :: a5 :: (l2 ++ (l3 ++ [a7, a8]))), q ∈ a1 :: a2 :: a3 :: a4 :: (l1 ++ (l2 ++ (a5 :: (l3 ++ [a6, a7, a8])))) := by
  intro q hq; simp only [List.mem_cons, List.mem_append] at hq ⊢; grind
theorem rh3 : ∀ q ∈ a1 :: a2 :: a3 :: a4 :: (l3 ++ (a5 :: a6 :: a7 :: (l2 ++ [a8, a9]))), q ∈ a1 :: a2 :: a5 :: (l1 ++ (a3 :: a6 :: a7 :: a4 :: (l2 ++ (l3 ++ [a8, a9])))) := by
  intro q hq; simp only [List.mem_cons, List.mem_append] at hq ⊢; grind
theorem rh4 : ∀ q ∈ a6 :: b2 :: b6 :: a7 :: a4 :: a3 :: a5 :: a1 :: a8 :: a10 :: a2 :: (l3 ++ [a9]), q ∈ a10 :: a1 :: a2 :: a3 :: a4 :: (l3 ++ (a5 :: a6 :: a7 :: ([b1, b2, b3, b4, b5, b6] ++ [a8, a9]))) := by
  intro q hq; simp only [List.mem_cons, List.mem_append] at hq ⊢; grind
theorem rh5 : ∀ q ∈ a1 :: a2 :: a3 :: a4 :: a5 :: a6 :: a7 :: a8 :: a12 :: a10 :: a11 :: (l3 ++ []), q ∈ a1 :: a2 :: a3 :: a4 :: a5 :: a6 :: a7 :: a8 :: a9 :: a10 :: a11 :: (l3 ++ (l1 ++ [a12])) := by
  intro q hq; simp only [List.mem_cons, List.mem_append] at hq ⊢; grind
end
section
variable {prog : Program} {w : World} {p : Program} {loose : List Str} {mean : ExcName → Option Value} {mg mb : Str → Option Value}
theorem law_all {dp un : Nat} {gd : Option (List Code)} {a : Addr} {ccd : Value} {A₀ : Around} {base h₀ : Heap} {L : Addr} {m : Str → Option Value} {s : Shared} {Q : Flow → Shared → Prop} {E : Value → Shared → Prop} {stl sl : Addr} {n n2 : Nat} {ti : Tok} {vs : List Value} {ns : List Int} {oD oC oP oO oL : Obj}
    (B : Below A₀ base [] h₀) (F : Fr h₀ L s.heap m) (X : (K w.params).In h₀) (N : News h₀ L s.heap ((stl, listOf #[.ref sl, .int 0 ti] n) :: (sl, listOf vs.toArray n2) :: (L + 1, oD) :: [(901, tabObj #[]), (L + 1 + 1, oC), (L + 1 + 1 + 1, oP), (L + 1 + 1 + 1 + 1, oO), (L + 1 + 1 + 1 + 1 + 1, oL)])) (T : Top p loose mean mg mb h₀) (XB : (K w.params).In base) (TB : Top p loose mean mg mb base) (hC : CodeHd base 905 901) (hD : oD.data = .cell none) (hoC : oC.data = .cell none) (hoP : oP.data = .cell none) (hoO : oO.data = .cell none) (hoL : oL.data = .cell none)
    (hI : IntsAre vs ns) (hl : ns.length ≤ 60) (h901 : @LT.lt Nat _ 901 L) (hne : @LT.lt Nat _ sl stl) (hL5 : @LT.lt Nat _ (L + 1 + 1 + 1 + 1 + 1) sl) (hd : dp + 200 < recursionLimit) (hu : un + 1600 < cLine) (hm : m (Str.ofString "state") = some (.ref stl))
    (hQ : ∀ (hh : Heap) (tk : Nat) (mm' : Str → Option Value) (cc : Addr), Fr h₀ L hh mm' → News h₀ L hh [(901, tabObj (chTab cc))] → Q (.ret (.bool true)) { s with heap := hh, toks := tk }) :
    wpAny (model prog w) (ktrTop dp un gd (Str.ofString "law") lscope L a ccd (lcells L) []) (execs [lb 1, lb 2, lb 3, lb 4, lb 5, lb 6, lb 7, lb 8, lb 9, lb 10, lb 11, lb 12, lb 13, lb 14, lb 15] (envX (Str.ofString "law") lscope L a ccd (lcells L))) Q E s := by
  have hr := nxt_range ns 0 4 (by decide)
  refine law1 (rest := [(901, tabObj #[]), (L + 1 + 1, oC), (L + 1 + 1 + 1, oP), (L + 1 + 1 + 1 + 1, oO), (L + 1 + 1 + 1 + 1 + 1, oL)]) B F X N T XB TB hC hD hI hl hne hL5 ?_ ?_ hd hu hm ?_
  · intro q hq
    simp only [List.mem_cons, List.not_mem_nil, or_false] at hq
    rcases hq with rfl | rfl | rfl | rfl | rfl
    all_goals (show @LT.lt Nat _ _ _); dsimp only; omega
  · intro q hq
    simp only [List.mem_cons, List.not_mem_nil, or_false] at hq
    rcases hq with rfl | rfl | rfl | rfl | rfl
    all_goals (show @Ne Nat _ _); dsimp only; omega
  intro h1 tk1 mm1 nN nd nr drs dls oDe tl dvs tr F1 N1 hoDe hT hdv hn8 o1 o2 o3 m1 m2
  refine law2 (rest := [(L + 1 + 1 + 1, oP), (L + 1 + 1 + 1 + 1, oO), (L + 1 + 1 + 1 + 1 + 1, oL)]) B F1 X (news_sub N1 rh1) T XB TB hC hoDe hoC hT hdv hn8 h901 (by omega) o2 o3 ?_ m1 m2 hd hu ?_
  · intro q hq
    simp only [List.mem_cons, List.not_mem_nil, or_false] at hq
    rcases hq with rfl | rfl | rfl
    all_goals
      dsimp only
      refine ⟨?_, ?_, ?_, ?_⟩ <;> omega
  intro h2 tk2 mm2 x y cl chl oC2 F2 N2 hoC2 ox oy hxf hfx hci hch ap2 hds hts ms md mr
  obtain ⟨SF, hSF⟩ : ∃ SF, SF = runD (1 + nxt ns 0 4) ⟨[], [], drawsOf ns nN⟩ (deedsOf ns nN) := ⟨_, rfl⟩
  have hgood : Good SF.kv (deedsOf ns nN) := by rw [hSF]; exact good_all _ _ _ _
  have hroom : (SF.ks.length : Int) ≤ 1 + nxt ns 0 4 := by rw [hSF]; exact room_ok _ _
  rw [← hSF] at hci
  obtain ⟨ix, I, hc⟩ := hci
  have hk4 : SF.ks.length ≤ 4 := by omega
  have hkvl : SF.kv.length = SF.ks.length := by have := I.data.length_eq; rw [List.length_map] at this; exact this
  have hvi : ∀ k pd, look SF.kv k = some pd → ∃ v : Int, pd = .int v := fun k pd hl => by
    obtain ⟨v, e, -⟩ := hgood k pd hl
    exact ⟨v, e⟩
  have h9 : ∀ k ∈ SF.ks, k < 9 := by
    intro k hk
    obtain ⟨pd, hpd⟩ := Option.isSome_iff_exists.mp (by rw [I.mem k]; exact decide_eq_true hk)
    obtain ⟨v, -, hv, -⟩ := hgood k pd hpd
    exact lays_key ns nN hv
  have oyo := oy
  obtain ⟨y0, y1, y2, y3, y4, y5, y6, y7, y8, y9⟩ := oyo
  have oxo := ox
  obtain ⟨x0, x1, x2, x3, x4⟩ := oxo
  have hclL : ∀ z ∈ cl, @LT.lt Nat _ y.f z.1 := by
    obtain ⟨od, oi, kvs, ivs, vs', nk, t1, t2, t3, t4, t5, t6, tc, tr', -, -, -, -, -, e⟩ := hc
    intro z hz
    rw [e] at hz
    simp only [List.mem_cons, List.not_mem_nil, or_false] at hz
    rcases hz with rfl | rfl | rfl | rfl | rfl
    all_goals dsimp only; omega
  obtain ⟨oc, oq1, oq2, cvs, ct, doc, pm, ctv, ls, z1, z2, hoc, hct, hd1, hd2, hLS, hchl⟩ := hch
  have hchL : ∀ z ∈ chl, @LE.le Nat _ z.1 y.f := by
    intro z hz
    rw [hchl] at hz
    simp only [List.mem_cons, List.not_mem_nil, or_false] at hz
    rcases hz with rfl | rfl | rfl | rfl | rfl | rfl
    all_goals dsimp only; omega
  refine law3 (rest := (L + 1, oDe) :: (901, tabObj (chTab y.cc)) :: (drs, listOf dvs.toArray nr) :: (dls, listOf (tl.map fun p => Value.ref p.1).toArray nd) :: (chl ++ (tl ++ [(L + 1 + 1 + 1 + 1, oO), (L + 1 + 1 + 1 + 1 + 1, oL)]))) B F2 X (news_sub N2 rh2) T hC hoC2 hoP ox I hc hk4 ?_ ?_ hd hu ?_
  · intro z hz q hq
    have hzc : z ∈ cl ++ chl := List.mem_append_left _ hz
    have h1 : (q ∈ (L + 1 + 1, oC2) :: (L + 1, oDe) :: (901, tabObj (chTab y.cc)) :: (drs, listOf dvs.toArray nr) :: (dls, listOf (tl.map fun p => Value.ref p.1).toArray nd) :: (tl ++ [(L + 1 + 1 + 1, oP), (L + 1 + 1 + 1 + 1, oO), (L + 1 + 1 + 1 + 1 + 1, oL)])) ∨ q ∈ chl := by
      simp only [List.mem_cons, List.mem_append, List.not_mem_nil, or_false] at hq ⊢
      grind
    rcases h1 with h1 | h1
    · exact ap2 z hzc q h1
    · have e1 := hchL q h1
      have e2 := hclL z hz
      exact (show @Ne Nat _ _ by omega)
  · intro q hq
    have h1 : q ∈ chl ∨ q ∈ tl ∨ q = (L + 1, oDe) ∨ q = (901, tabObj (chTab y.cc)) ∨ q = (drs, listOf dvs.toArray nr) ∨ q = (dls, listOf (tl.map fun p => Value.ref p.1).toArray nd) ∨ q = (L + 1 + 1 + 1 + 1, oO) ∨ q = (L + 1 + 1 + 1 + 1 + 1, oL) := by
      simp only [List.mem_cons, List.mem_append, List.not_mem_nil, or_false] at hq
      grind
    rcases h1 with h1 | h1 | rfl | rfl | rfl | rfl | rfl | rfl
    · exact Ne.symm (Ne.symm (Ne.symm (ap2 q (List.mem_append_right _ h1) (L + 1 + 1 + 1, oP) (by simp))))
    · have := o3 q h1
      exact (show @Ne Nat _ _ by omega)
    all_goals exact (show @Ne Nat _ _ by dsimp only; omega)
  intro h3 tk3 D oDd oP3 kvs cl3 F3 N3 hoP3 hIs hfl hc3 ap3 ltD
  have lt3 : ∀ q ∈ chl, @LT.lt Nat _ q.1 D := fun q hq => ltD q (by simp [hq])
  have hccD : @LT.lt Nat _ y.cc D := lt3 (y.cc, oc) (by rw [hchl]; simp)
  have h1D : @LT.lt Nat _ 1 D := by omega
  have m2' : mm2 (Str.ofString "room") = some (.int (1 + nxt ns 0 4) tr) := mr
  refine law4 (ds := deedsOf ns nN) (kv := SF.kv) (room := 1 + nxt ns 0 4) B F3 X (news_sub N3 rh3) T hC hoP3 hoDe hIs hfl (by omega) hT (by rw [deedsOf_len]; exact hn8) h1D (by omega) hgood mr hd hu ?_
  intro h4 tk4 mm4 S nvs nks cS F4 N4 ltS hnI hnp hns m5 me4
  have hDS : @LT.lt Nat _ D S := ltS (D, oDd) (by simp)
  rw [hchl] at N4
  refine law5 (tr := tr) (sv := []) (Z0 := [(L + 1 + 1 + 1 + 1 + 1, oL)]) B F4 X (news_sub N4 rh4) T XB TB hC hoDe hoC2 hoO hoP3 hoc hct hT hdv hn8 (by decide) hIs SF hSF hfl I.nodup I.data hk4 hvi hnI (hnp.trans I.data) hns h901 (by omega) o2 (fun q hq => ⟨o3 q hq, hts q hq⟩) hds y5 hccD hDS ?_ (by rw [me4 _ (by decide)]; exact md) (by rw [me4 _ (by decide)]; exact mr) (by rw [me4 _ (by decide)]; exact ms) m5 hd hu ?_
  · intro q hq
    obtain rfl := List.mem_singleton.mp hq
    dsimp only
    refine ⟨⟨?_, ?_, ?_, ?_, ?_, ?_⟩, fun x' hx' => ?_, ?_⟩
    · omega
    · omega
    · omega
    · omega
    · omega
    · omega
    · have := o3 x' hx'
      omega
    · omega
  intro h5 tk5 mm5 rd cR nsv5 oc5 oC5 oO5 vC5 vO5 cvs5 ct5 sv5 ot F5 me5 m6 N5 hsv5 hoc5 hct5 hoC5 hoO5 hTp
  refine law12 (ks := SF.ks) (ot := ot) B F5 X N5 (fun q hq => by simp [hq]) T hC I.nodup hk4 hTp m6 hd hu ?_
  intro h6 tk6 F6 N6
  refine law14 (tr := tr) (Z := []) B F6 X (news_sub N6 rh5) T XB TB hC hoDe hoC5 hoL hoP3 hoc5 hct5 hT hdv hn8 hsv5 hIs SF hSF hfl I.nodup I.data hk4 hvi h9 hnI (hnp.trans I.data) hns h901 (by omega) o2 (fun q hq => ⟨o3 q hq, hts q hq⟩) hds y5 hccD hDS (fun q hq => nomatch hq) ?_ ?_ ?_ ?_ hd hu fun hh tk mm' Fm Nm => hQ hh tk mm' _ Fm Nm
  · rw [me5 _ (by decide) (by decide) (by decide), me4 _ (by decide)]; exact md
  · rw [me5 _ (by decide) (by decide) (by decide), me4 _ (by decide)]; exact mr
  · rw [me5 _ (by decide) (by decide) (by decide), me4 _ (by decide)]; exact ms
  · rw [me5 _ (by decide) (by decide) (by decide)]; exact m5
end
end Mine
end
section
open PySem PySem.W PyProof.Rows PySem.Calls PyProof.V
set_option Elab.async false
set_option maxRecDepth 100000
set_option maxHeartbeats 2000000
set_option linter.unusedVariables false
namespace Mine
theorem anew_RRLaw : True := by
  w_top off
  trivial
local macro_rules | `(tactic| walk_at "call ref") => `(tactic| ((with_reducible show wpAny _ _ (call (Value.ref _) _ _) _ _ _); refine halt ?_))
local macro_rules | `(tactic| walk_at "execs cons") => `(tactic| ((with_reducible show wpAny _ _ (execs (Stmt.Assign [Expr.Name (Str.ofString "room") _] _ _ :: _) _) _ _ _); refine halt ?_))
theorem rt1 {α : Type} {a1 a2 a3 a4 a5 a6 a7 a8 : α} : ∀ q ∈ a1 :: a2 :: a7 :: [a8, a6, a5, a4, a3], q ∈ [a1, a2, a3, a4, a5, a6, a7, a8] := by
  intro q hq; simp only [List.mem_cons, List.not_mem_nil, or_false] at hq ⊢; grind
theorem law_around (cn : Str) (cs : Scope) (L a : Addr) (cd : Value) : callerA.deeper (envOfC cn cs L a cd) = ktrTop (callerA.depth + 1) (callerA.units + 3) callerA.guards cn cs L a cd (cellsFrom (L + 1) cs.names []) [] := rfl
theorem law_walk : PySem.Challenge.rw_fc0033_01.Holds := by
  refine Mine.hd (by rfl) (by rfl) (by rfl) ?_
  k_fill
  intro w s₀ s₁ mg mb G Y fa o pm cd doc dV kV ho hd hcd hD hmg hg args vals as hpre hlay hrd hwl hlo
  have KX := km_in_of Y
  km_tabs Y
  have X := (Ground.X G).1
  have V := (Ground.X G).2
  refine Ground.open G ?_
  intro T B D TE TW
  try (refine guard_noD D (by decide +kernel) ?_; clear D)
  km_lay T hmg ho hd cd
  clear hmg
  wrow_args hpre hlay hrd hwl hlo
  all_goals (
    first | refine callC_kw (enter_call ?_) | refine enter_call ?_
    w_top on
    kn_posts
    w_call any ho hd hcd hD T F
    clear hd
    kn_ghosts F T
    k_drop
    skip)
  (all_goals try k_fold)
  k_steps
  refine unhalt ?_
  rename_i ns _ _ _ _ _ _ _ _ _ _ _ _ _ _ hcf _ h₁ tk₁ o5 o4 o3 o2 o1 d5 d4 d3 d2 d1 X0 X9 T9 B9 l0 sl ws h2 hI9 hC9 hL9 l1 stl h3 l2 h4 F9 N9
  change wpAny _ (ktrTop (callerA.depth + 1) (callerA.units + 3) callerA.guards (Str.ofString "law") lscope s₁.heap.objs.size fa cd (lcells s₁.heap.objs.size) []) (execs [lb 1, lb 2, lb 3, lb 4, lb 5, lb 6, lb 7, lb 8, lb 9, lb 10, lb 11, lb 12, lb 13, lb 14, lb 15] (envX (Str.ofString "law") lscope s₁.heap.objs.size fa cd (lcells s₁.heap.objs.size))) _ _ _
  refine law_all (oD := o1) (oC := o2) (oP := o3) (oO := o4) (oL := o5) B9 F9 X9 (news_sub N9 rt1) T9 X9 T9 codeHd d1 d2 d3 d4 d5 hI9 ?_ l0 l2.1 l1.1 (by decide) (by decide) ?_ ?_
  · rw [hC9]; exact Nat.min_le_left ..
  · rfl
  · intro hh tk mm' cc Fm Nm
    clear F9 N9
    k_steps
end Mine
end
theorem PySem.Challenge.cw_fc0033_01_holds : PySem.Challenge.rw_fc0033_01.Holds :=
  Mine.law_walk
