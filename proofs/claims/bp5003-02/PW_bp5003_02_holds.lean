import PyProof.Rows.All
import Wide.All
import OpenK.AllK
import Wide.FinOn
import KE.KIsNot
import PyProof.Rows.SortShellK
import Lean
import PySem.Challenge.RW_bp5003_02
set_option Elab.async false
set_option linter.unusedVariables false
set_option maxRecDepth 100000
set_option maxHeartbeats 8000000
namespace Mine
open PySem PySem.W PySem.Calls PyProof.Rows
-- part A0
-- the program's parts
abbrev PG : Program := Challenge.pw_bp5003_02
def stAt (i : Nat) : Stmt := PG.main.body.getD i (.Pass ⟨0, 0, 0, 0⟩)
def clsBody : Stmt → List Stmt
  | .ClassDef _ _ _ b _ _ _ _ _ _ _ => b
  | _ => []
def mthAt (i k : Nat) : Stmt := (clsBody (stAt i)).getD k (.Pass ⟨0, 0, 0, 0⟩)
def fnName : Stmt → Str
  | .FunctionDef n _ _ _ _ _ _ _ _ _ => n
  | _ => default
def fnPar : Stmt → Arguments
  | .FunctionDef _ a _ _ _ _ _ _ _ _ => a
  | _ => default
def fnBody : Stmt → List Stmt
  | .FunctionDef _ _ b _ _ _ _ _ _ _ => b
  | _ => []
def fnScope : Stmt → Scope
  | .FunctionDef _ _ _ _ _ _ s _ _ _ => s
  | _ => default
abbrev fnAt (st : Stmt) (qual : Str) (cl : List (Str × Addr)) (dV pm cdv ct : Value) : FuncData :=
  fnX (fnName st) qual (fnPar st) (fnBody st) (fnScope st) cl dV .none .none pm none cdv ct
def en (P : Params) (k : String) (t : Tok) (v : Value) : DictEntry := ⟨PyData.keyHash P (Str.ofString k), .str (Str.ofString k) t, v⟩
def K0 (P : Params) : Frag :=
  (nat_lit 0, (⟨(.type "dict"), none, (.dict #[en P "__name__" 1 (.str (Str.ofString "builtins") 160), en P "__doc__" 2 (.builtin "builtins.__doc__:str#opaque"), en P "__package__" 3 (.builtin "builtins.__package__:str#opaque"), en P "__loader__" 4 (.builtin "builtins.__loader__:shared#opaque"), en P "__spec__" 5 (.builtin "builtins.__spec__#opaque"), en P "__build_class__" 6 (.builtin "__build_class__"), en P "__import__" 7 (.builtin "__import__"), en P "abs" 8 (.builtin "abs"), en P "all" 9 (.builtin "all"), en P "any" 10 (.builtin "any"), en P "ascii" 11 (.builtin "ascii"), en P "bin" 12 (.builtin "bin"), en P "breakpoint" 13 (.builtin "breakpoint"), en P "callable" 14 (.builtin "callable"), en P "chr" 15 (.builtin "chr"), en P "compile" 16 (.builtin "compile"), en P "delattr" 17 (.builtin "delattr"), en P "dir" 18 (.builtin "dir"), en P "divmod" 19 (.builtin "divmod"), en P "eval" 20 (.builtin "eval"), en P "exec" 21 (.builtin "exec"), en P "format" 22 (.builtin "format"), en P "getattr" 23 (.builtin "getattr"), en P "globals" 24 (.builtin "globals"), en P "hasattr" 25 (.builtin "hasattr"), en P "hash" 26 (.builtin "hash"), en P "hex" 27 (.builtin "hex"), en P "id" 28 (.builtin "id"), en P "input" 29 (.builtin "input"), en P "isinstance" 30 (.builtin "isinstance"), en P "issubclass" 31 (.builtin "issubclass"), en P "iter" 32 (.builtin "iter"), en P "aiter" 33 (.builtin "aiter"), en P "len" 34 (.builtin "len"), en P "locals" 35 (.builtin "locals"), en P "max" 36 (.builtin "max"), en P "min" 37 (.builtin "min"), en P "next" 38 (.builtin "next"), en P "anext" 39 (.builtin "anext"), en P "oct" 40 (.builtin "oct"), en P "ord" 41 (.builtin "ord"), en P "pow" 42 (.builtin "pow"), en P "print" 43 (.builtin "print"), en P "repr" 44 (.builtin "repr"), en P "round" 45 (.builtin "round"), en P "setattr" 46 (.builtin "setattr"), en P "sorted" 47 (.builtin "sorted"), en P "sum" 48 (.builtin "sum"), en P "vars" 49 (.builtin "vars"), en P "None" 50 .none, en P "Ellipsis" 51 .ellipsis, en P "NotImplemented" 52 .notImplemented, en P "False" 53 (.bool false), en P "True" 54 (.bool true), en P "bool" 55 (.type "bool"), en P "memoryview" 56 (.type "memoryview"), en P "bytearray" 57 (.type "bytearray"), en P "bytes" 58 (.type "bytes"), en P "classmethod" 59 (.type "classmethod"), en P "complex" 60 (.type "complex"), en P "dict" 61 (.type "dict"), en P "enumerate" 62 (.type "enumerate"), en P "filter" 63 (.type "filter"), en P "float" 64 (.type "float"), en P "frozenset" 65 (.type "frozenset"), en P "property" 66 (.type "property"), en P "int" 67 (.type "int"), en P "list" 68 (.type "list"), en P "map" 69 (.type "map"), en P "object" 70 (.type "object"), en P "range" 71 (.type "range"), en P "reversed" 72 (.type "reversed"), en P "set" 73 (.type "set"), en P "slice" 74 (.type "slice"), en P "staticmethod" 75 (.type "staticmethod"), en P "str" 76 (.type "str"), en P "super" 77 (.type "super"), en P "tuple" 78 (.type "tuple"), en P "type" 79 (.type "type"), en P "zip" 80 (.type "zip"), en P "__debug__" 81 (.bool true), en P "BaseException" 82 (.type "BaseException"), en P "BaseExceptionGroup" 83 (.type "BaseExceptionGroup"), en P "Exception" 84 (.type "Exception"), en P "GeneratorExit" 85 (.type "GeneratorExit"), en P "KeyboardInterrupt" 86 (.type "KeyboardInterrupt"), en P "SystemExit" 87 (.type "SystemExit"), en P "ArithmeticError" 88 (.type "ArithmeticError"), en P "AssertionError" 89 (.type "AssertionError"), en P "AttributeError" 90 (.type "AttributeError"), en P "BufferError" 91 (.type "BufferError"), en P "EOFError" 92 (.type "EOFError"), en P "ImportError" 93 (.type "ImportError"), en P "LookupError" 94 (.type "LookupError"), en P "MemoryError" 95 (.type "MemoryError"), en P "NameError" 96 (.type "NameError"), en P "OSError" 97 (.type "OSError"), en P "ReferenceError" 98 (.type "ReferenceError"), en P "RuntimeError" 99 (.type "RuntimeError"), en P "StopAsyncIteration" 100 (.type "StopAsyncIteration"), en P "StopIteration" 101 (.type "StopIteration"), en P "SyntaxError" 102 (.type "SyntaxError"), en P "SystemError" 103 (.type "SystemError"), en P "TypeError" 104 (.type "TypeError"), en P "ValueError" 105 (.type "ValueError"), en P "Warning" 106 (.type "Warning"), en P "FloatingPointError" 107 (.type "FloatingPointError"), en P "OverflowError" 108 (.type "OverflowError"), en P "ZeroDivisionError" 109 (.type "ZeroDivisionError"), en P "BytesWarning" 110 (.type "BytesWarning"), en P "DeprecationWarning" 111 (.type "DeprecationWarning"), en P "EncodingWarning" 112 (.type "EncodingWarning"), en P "FutureWarning" 113 (.type "FutureWarning"), en P "ImportWarning" 114 (.type "ImportWarning"), en P "PendingDeprecationWarning" 115 (.type "PendingDeprecationWarning"), en P "ResourceWarning" 116 (.type "ResourceWarning"), en P "RuntimeWarning" 117 (.type "RuntimeWarning"), en P "SyntaxWarning" 118 (.type "SyntaxWarning"), en P "UnicodeWarning" 119 (.type "UnicodeWarning"), en P "UserWarning" 120 (.type "UserWarning"), en P "BlockingIOError" 121 (.type "BlockingIOError"), en P "ChildProcessError" 122 (.type "ChildProcessError"), en P "ConnectionError" 123 (.type "ConnectionError"), en P "FileExistsError" 124 (.type "FileExistsError"), en P "FileNotFoundError" 125 (.type "FileNotFoundError"), en P "InterruptedError" 126 (.type "InterruptedError"), en P "IsADirectoryError" 127 (.type "IsADirectoryError"), en P "NotADirectoryError" 128 (.type "NotADirectoryError"), en P "PermissionError" 129 (.type "PermissionError"), en P "ProcessLookupError" 130 (.type "ProcessLookupError"), en P "TimeoutError" 131 (.type "TimeoutError"), en P "IndentationError" 132 (.type "IndentationError"), en P "_IncompleteInputError" 133 (.type "_IncompleteInputError"), en P "IndexError" 134 (.type "IndexError"), en P "KeyError" 135 (.type "KeyError"), en P "ModuleNotFoundError" 136 (.type "ModuleNotFoundError"), en P "NotImplementedError" 137 (.type "NotImplementedError"), en P "PythonFinalizationError" 138 (.type "PythonFinalizationError"), en P "RecursionError" 139 (.type "RecursionError"), en P "UnboundLocalError" 140 (.type "UnboundLocalError"), en P "UnicodeError" 141 (.type "UnicodeError"), en P "BrokenPipeError" 142 (.type "BrokenPipeError"), en P "ConnectionAbortedError" 143 (.type "ConnectionAbortedError"), en P "ConnectionRefusedError" 144 (.type "ConnectionRefusedError"), en P "ConnectionResetError" 145 (.type "ConnectionResetError"), en P "TabError" 146 (.type "TabError"), en P "UnicodeDecodeError" 147 (.type "UnicodeDecodeError"), en P "UnicodeEncodeError" 148 (.type "UnicodeEncodeError"), en P "UnicodeTranslateError" 149 (.type "UnicodeTranslateError"), en P "ExceptionGroup" 150 (.type "ExceptionGroup"), en P "EnvironmentError" 151 (.type "OSError"), en P "IOError" 152 (.type "OSError"), en P "open" 153 (.builtin "open"), en P "quit" 154 (.builtin "builtins.quit#opaque"), en P "exit" 155 (.builtin "builtins.exit#opaque"), en P "copyright" 156 (.builtin "builtins.copyright#opaque"), en P "credits" 157 (.builtin "builtins.credits#opaque"), en P "license" 158 (.builtin "builtins.license#opaque"), en P "help" 159 (.builtin "builtins.help#opaque")] 159), #[]⟩ : Obj)) ::
  (nat_lit 2, (⟨.none, none, (.dict #[] 0), #[]⟩ : Obj)) ::
  (nat_lit 3, (⟨(.type "dict"), none, (.dict #[en P "__name__" 165 (.str (Str.ofString "law_bp5003_02") 963), en P "__doc__" 166 .none, en P "__package__" 167 .none, en P "__loader__" 168 (.builtin "__main__.__loader__#opaque"), en P "__spec__" 169 .none, en P "__annotations__" 170 (.ref 6), en P "__builtins__" 171 (.ref 4), en P "__file__" 173 (.str (Str.ofString "/claim/cut.py") 172), en P "__cached__" 174 .none, en P "_wall" 193 (.ref 21), en P "TOKEN_AND" 197 (.int 1 196), en P "TOKEN_OR" 199 (.int 2 198), en P "TOKEN_NOT" 201 (.int 3 200), en P "built" 209 (.ref 28), en P "Expression" 354 (.ref 142), en P "BaseElement" 405 (.ref 184), en P "_TRUE" 459 (.ref 232), en P "_FALSE" 513 (.ref 280), en P "TRUE" 524 (.ref 284), en P "FALSE" 535 (.ref 288), en P "Symbol" 604 (.ref 344), en P "Function" 642 (.ref 372), en P "NOT" 725 (.ref 440), en P "DualBase" 832 (.ref 514), en P "AND" 897 (.ref 563), en P "OR" 962 (.ref 612), en P "_law_NAMES" 969 (.ref 615), en P "_law_made" 975 (.ref 620), en P "_law_leaves" 985 (.ref 627), en P "law" 991 (.ref 632)] 30), #[]⟩ : Obj)) ::
  (nat_lit 4, (⟨(.type "module"), (some 0), .plain, #[]⟩ : Obj)) ::
  (nat_lit 27, (⟨(.type "code"), none, (.fields #[(.str (Str.ofString "built") 202), (.str (Str.ofString "built") 203), (.str (Str.ofString "/claim/cut.py") 204), (.int 8 0), (.int 2 0), (.int 0 0), (.int 0 0), (.int 3 0), (.ref 22), (.bool true), (.int 181 0), (.ref 23), .none, (.ref 24), (.ref 25), (.ref 26), (.int 207 0), (.int 8 0), (.str (Str.ofString "/claim/cut.py") 208)]), #[]⟩ : Obj)) ::
  (nat_lit 28, (⟨(.type "function"), none, (.func (fnAt (stAt 5) (Str.ofString "built") [] .none (.str (Str.ofString "boolean.boolean") 194) (.ref 27) .none)), #[]⟩ : Obj)) ::
  (nat_lit 41, (⟨(.type "code"), none, (.fields #[(.str (Str.ofString "__init__") 222), (.str (Str.ofString "Expression.__init__") 223), (.str (Str.ofString "/claim/cut.py") 224), (.int 18 0), (.int 1 0), (.int 0 0), (.int 0 0), (.int 3 0), (.ref 36), (.bool true), (.int 181 0), (.ref 37), .none, (.ref 38), (.ref 39), (.ref 40), (.int 226 0), (.int 18 0), (.str (Str.ofString "/claim/cut.py") 227)]), #[]⟩ : Obj)) ::
  (nat_lit 42, (⟨(.type "function"), none, (.func (fnAt (mthAt 6 0) (Str.ofString "Expression.__init__") [] .none (.str (Str.ofString "boolean.boolean") 194) (.ref 41) .none)), #[]⟩ : Obj)) ::
  (nat_lit 53, (⟨(.type "code"), none, (.fields #[(.str (Str.ofString "literalize") 236), (.str (Str.ofString "Expression.literalize") 237), (.str (Str.ofString "/claim/cut.py") 238), (.int 27 0), (.int 1 0), (.int 0 0), (.int 0 0), (.int 3 0), (.ref 50), (.bool true), (.int 181 0), (.ref 51), .none, .none, .none, (.ref 52), (.int 239 0), (.int 27 0), (.str (Str.ofString "/claim/cut.py") 240)]), #[]⟩ : Obj)) ::
  (nat_lit 54, (⟨(.type "function"), none, (.func (fnAt (mthAt 6 2) (Str.ofString "Expression.literalize") [] .none (.str (Str.ofString "boolean.boolean") 194) (.ref 53) .none)), #[]⟩ : Obj)) ::
  (nat_lit 82, (⟨(.type "code"), none, (.fields #[(.str (Str.ofString "simplify") 269), (.str (Str.ofString "Expression.simplify") 270), (.str (Str.ofString "/claim/cut.py") 271), (.int 44 0), (.int 1 0), (.int 0 0), (.int 0 0), (.int 3 0), (.ref 77), (.bool true), (.int 181 0), (.ref 78), .none, (.ref 79), (.ref 80), (.ref 81), (.int 273 0), (.int 44 0), (.str (Str.ofString "/claim/cut.py") 274)]), #[]⟩ : Obj)) ::
  (nat_lit 83, (⟨(.type "function"), none, (.func (fnAt (mthAt 6 6) (Str.ofString "Expression.simplify") [] .none (.str (Str.ofString "boolean.boolean") 194) (.ref 82) .none)), #[]⟩ : Obj)) ::
  (nat_lit 89, (⟨(.type "code"), none, (.fields #[(.str (Str.ofString "__eq__") 276), (.str (Str.ofString "Expression.__eq__") 277), (.str (Str.ofString "/claim/cut.py") 278), (.int 47 0), (.int 2 0), (.int 0 0), (.int 0 0), (.int 3 0), (.ref 84), (.bool true), (.int 181 0), (.ref 85), .none, (.ref 86), (.ref 87), (.ref 88), (.int 283 0), (.int 47 0), (.str (Str.ofString "/claim/cut.py") 284)]), #[]⟩ : Obj)) ::
  (nat_lit 90, (⟨(.type "function"), none, (.func (fnAt (mthAt 6 7) (Str.ofString "Expression.__eq__") [] .none (.str (Str.ofString "boolean.boolean") 194) (.ref 89) .none)), #[]⟩ : Obj)) ::
  (nat_lit 103, (⟨(.type "code"), none, (.fields #[(.str (Str.ofString "by_order") 294), (.str (Str.ofString "Expression.by_order") 295), (.str (Str.ofString "/claim/cut.py") 296), (.int 57 0), (.int 2 0), (.int 0 0), (.int 0 0), (.int 3 0), (.ref 98), (.bool true), (.int 181 0), (.ref 99), .none, (.ref 100), (.ref 101), (.ref 102), (.int 299 0), (.int 57 0), (.str (Str.ofString "/claim/cut.py") 300)]), #[]⟩ : Obj)) ::
  (nat_lit 104, (⟨(.type "function"), none, (.func (fnAt (mthAt 6 9) (Str.ofString "Expression.by_order") [] .none (.str (Str.ofString "boolean.boolean") 194) (.ref 103) .none)), #[]⟩ : Obj)) ::
  (nat_lit 110, (⟨(.type "code"), none, (.fields #[(.str (Str.ofString "__gt__") 302), (.str (Str.ofString "Expression.__gt__") 303), (.str (Str.ofString "/claim/cut.py") 304), (.int 64 0), (.int 2 0), (.int 0 0), (.int 0 0), (.int 3 0), (.ref 105), (.bool true), (.int 181 0), (.ref 106), .none, (.ref 107), (.ref 108), (.ref 109), (.int 309 0), (.int 64 0), (.str (Str.ofString "/claim/cut.py") 310)]), #[]⟩ : Obj)) ::
  (nat_lit 111, (⟨(.type "function"), none, (.func (fnAt (mthAt 6 10) (Str.ofString "Expression.__gt__") [] .none (.str (Str.ofString "boolean.boolean") 194) (.ref 110) .none)), #[]⟩ : Obj)) ::
  (nat_lit 141, (⟨(.type "dict"), none, (.dict #[en P "__module__" 217 (.str (Str.ofString "boolean.boolean") 194), en P "__firstlineno__" 221 (.int 16 220), en P "__init__" 228 (.ref 42), en P "get_literals" 235 (.ref 49), en P "literalize" 241 (.ref 54), en P "get_symbols" 248 (.ref 61), en P "subs" 258 (.ref 69), en P "_subs" 268 (.ref 76), en P "simplify" 275 (.ref 83), en P "__eq__" 285 (.ref 90), en P "__ne__" 293 (.ref 97), en P "by_order" 301 (.ref 104), en P "__gt__" 311 (.ref 111), en P "__and__" 319 (.ref 118), en P "__invert__" 326 (.ref 125), en P "__or__" 334 (.ref 132), en P "__bool__" 341 (.ref 139), en P "__static_attributes__" 346 (.ref 140), en P "__dict__" 348 (.ref 143), en P "__weakref__" 350 (.ref 144), en P "__doc__" 351 .none, en P "__hash__" 352 .none] 5), #[]⟩ : Obj)) ::
  (nat_lit 142, (⟨(.type "type"), none, (.cls { name := (Str.ofString "Expression"), bases := [(.type "object")], mro := [(.ref 142), (.type "object")], ns := 141, qualname := (Str.ofString "Expression"), subclasses := [(.ref 184), (.ref 344), (.ref 372)] }), #[(some (.ref 29)), none, (some (.str (Str.ofString "Expression") 210)), (some (.str (Str.ofString "Expression") 218)), (some (.builtin "object.__new__")), (some (.bool true))]⟩ : Obj)) ::
  (nat_lit 173, (⟨(.type "code"), none, (.fields #[(.str (Str.ofString "made_dual") 382), (.str (Str.ofString "BaseElement.made_dual") 383), (.str (Str.ofString "/claim/cut.py") 384), (.int 96 0), (.int 2 0), (.int 0 0), (.int 0 0), (.int 3 0), (.ref 168), (.bool true), (.int 181 0), (.ref 169), .none, (.ref 170), (.ref 171), (.ref 172), (.int 387 0), (.int 96 0), (.str (Str.ofString "/claim/cut.py") 388)]), #[]⟩ : Obj)) ::
  (nat_lit 174, (⟨(.type "function"), none, (.func (fnAt (mthAt 7 2) (Str.ofString "BaseElement.made_dual") [] .none (.str (Str.ofString "boolean.boolean") 194) (.ref 173) .none)), #[]⟩ : Obj)) ::
  (nat_lit 180, (⟨(.type "code"), none, (.fields #[(.str (Str.ofString "__lt__") 390), (.str (Str.ofString "BaseElement.__lt__") 391), (.str (Str.ofString "/claim/cut.py") 392), (.int 99 0), (.int 2 0), (.int 0 0), (.int 0 0), (.int 3 0), (.ref 175), (.bool true), (.int 181 0), (.ref 176), .none, (.ref 177), (.ref 178), (.ref 179), (.int 395 0), (.int 99 0), (.str (Str.ofString "/claim/cut.py") 396)]), #[]⟩ : Obj)) ::
  (nat_lit 181, (⟨(.type "function"), none, (.func (fnAt (mthAt 7 3) (Str.ofString "BaseElement.__lt__") [] .none (.str (Str.ofString "boolean.boolean") 194) (.ref 180) .none)), #[]⟩ : Obj)) ::
  (nat_lit 183, (⟨(.type "dict"), none, (.dict #[en P "__module__" 362 (.str (Str.ofString "boolean.boolean") 194), en P "__firstlineno__" 366 (.int 85 365), en P "__init__" 373 (.ref 160), en P "made" 381 (.ref 167), en P "made_dual" 389 (.ref 174), en P "__lt__" 397 (.ref 181), en P "__static_attributes__" 402 (.ref 182), en P "__doc__" 403 .none] 2), #[]⟩ : Obj)) ::
  (nat_lit 184, (⟨(.type "type"), none, (.cls { name := (Str.ofString "BaseElement"), bases := [(.ref 142)], mro := [(.ref 184), (.ref 142), (.type "object")], ns := 183, qualname := (Str.ofString "BaseElement"), subclasses := [(.ref 232), (.ref 280)] }), #[(some (.ref 147)), none, (some (.str (Str.ofString "BaseElement") 355)), (some (.str (Str.ofString "BaseElement") 363)), (some (.builtin "object.__new__")), (some (.bool true))]⟩ : Obj)) ::
  (nat_lit 199, (⟨(.type "code"), none, (.fields #[(.str (Str.ofString "dual") 418), (.str (Str.ofString "_TRUE.dual") 419), (.str (Str.ofString "/claim/cut.py") 420), (.int 105 0), (.int 1 0), (.int 0 0), (.int 0 0), (.int 3 0), (.ref 194), (.bool true), (.int 181 0), (.ref 195), .none, (.ref 196), (.ref 197), (.ref 198), (.int 422 0), (.int 105 0), (.str (Str.ofString "/claim/cut.py") 423)]), #[]⟩ : Obj)) ::
  (nat_lit 200, (⟨(.type "function"), none, (.func (fnAt (mthAt 8 0) (Str.ofString "_TRUE.dual") [] .none (.str (Str.ofString "boolean.boolean") 194) (.ref 199) .none)), #[]⟩ : Obj)) ::
  (nat_lit 201, (⟨(.type "property"), none, (.fields #[(.ref 200), .none, .none, .none, (.str (Str.ofString "dual") 425), (.bool false)]), #[]⟩ : Obj)) ::
  (nat_lit 207, (⟨(.type "code"), none, (.fields #[(.str (Str.ofString "__eq__") 426), (.str (Str.ofString "_TRUE.__eq__") 427), (.str (Str.ofString "/claim/cut.py") 428), (.int 109 0), (.int 2 0), (.int 0 0), (.int 0 0), (.int 3 0), (.ref 202), (.bool true), (.int 181 0), (.ref 203), .none, (.ref 204), (.ref 205), (.ref 206), (.int 431 0), (.int 109 0), (.str (Str.ofString "/claim/cut.py") 432)]), #[]⟩ : Obj)) ::
  (nat_lit 208, (⟨(.type "function"), none, (.func (fnAt (mthAt 8 1) (Str.ofString "_TRUE.__eq__") [] .none (.str (Str.ofString "boolean.boolean") 194) (.ref 207) .none)), #[]⟩ : Obj)) ::
  (nat_lit 214, (⟨(.type "code"), none, (.fields #[(.str (Str.ofString "__str__") 434), (.str (Str.ofString "_TRUE.__str__") 435), (.str (Str.ofString "/claim/cut.py") 436), (.int 112 0), (.int 1 0), (.int 0 0), (.int 0 0), (.int 3 0), (.ref 209), (.bool true), (.int 181 0), (.ref 210), .none, (.ref 211), (.ref 212), (.ref 213), (.int 438 0), (.int 112 0), (.str (Str.ofString "/claim/cut.py") 439)]), #[]⟩ : Obj)) ::
  (nat_lit 215, (⟨(.type "function"), none, (.func (fnAt (mthAt 8 2) (Str.ofString "_TRUE.__str__") [] .none (.str (Str.ofString "boolean.boolean") 194) (.ref 214) .none)), #[]⟩ : Obj)) ::
  (nat_lit 231, (⟨(.type "dict"), none, (.dict #[en P "__module__" 413 (.str (Str.ofString "boolean.boolean") 194), en P "__firstlineno__" 417 (.int 103 416), en P "dual" 425 (.ref 201), en P "__eq__" 433 (.ref 208), en P "__str__" 440 (.ref 215), en P "__call__" 447 (.ref 222), en P "__bool__" 454 (.ref 229), en P "__static_attributes__" 455 (.ref 230), en P "__doc__" 456 .none, en P "__hash__" 457 .none] 3), #[]⟩ : Obj)) ::
  (nat_lit 232, (⟨(.type "type"), none, (.cls { name := (Str.ofString "_TRUE"), bases := [(.ref 184)], mro := [(.ref 232), (.ref 184), (.ref 142), (.type "object")], ns := 231, qualname := (Str.ofString "_TRUE"), subclasses := [] }), #[(some (.ref 187)), none, (some (.str (Str.ofString "_TRUE") 406)), (some (.str (Str.ofString "_TRUE") 414)), (some (.builtin "object.__new__")), (some (.bool true))]⟩ : Obj)) ::
  (nat_lit 247, (⟨(.type "code"), none, (.fields #[(.str (Str.ofString "dual") 472), (.str (Str.ofString "_FALSE.dual") 473), (.str (Str.ofString "/claim/cut.py") 474), (.int 122 0), (.int 1 0), (.int 0 0), (.int 0 0), (.int 3 0), (.ref 242), (.bool true), (.int 181 0), (.ref 243), .none, (.ref 244), (.ref 245), (.ref 246), (.int 476 0), (.int 122 0), (.str (Str.ofString "/claim/cut.py") 477)]), #[]⟩ : Obj)) ::
  (nat_lit 248, (⟨(.type "function"), none, (.func (fnAt (mthAt 9 0) (Str.ofString "_FALSE.dual") [] .none (.str (Str.ofString "boolean.boolean") 194) (.ref 247) .none)), #[]⟩ : Obj)) ::
  (nat_lit 249, (⟨(.type "property"), none, (.fields #[(.ref 248), .none, .none, .none, (.str (Str.ofString "dual") 479), (.bool false)]), #[]⟩ : Obj)) ::
  (nat_lit 255, (⟨(.type "code"), none, (.fields #[(.str (Str.ofString "__eq__") 480), (.str (Str.ofString "_FALSE.__eq__") 481), (.str (Str.ofString "/claim/cut.py") 482), (.int 126 0), (.int 2 0), (.int 0 0), (.int 0 0), (.int 3 0), (.ref 250), (.bool true), (.int 181 0), (.ref 251), .none, (.ref 252), (.ref 253), (.ref 254), (.int 485 0), (.int 126 0), (.str (Str.ofString "/claim/cut.py") 486)]), #[]⟩ : Obj)) ::
  (nat_lit 256, (⟨(.type "function"), none, (.func (fnAt (mthAt 9 1) (Str.ofString "_FALSE.__eq__") [] .none (.str (Str.ofString "boolean.boolean") 194) (.ref 255) .none)), #[]⟩ : Obj)) ::
  (nat_lit 262, (⟨(.type "code"), none, (.fields #[(.str (Str.ofString "__str__") 488), (.str (Str.ofString "_FALSE.__str__") 489), (.str (Str.ofString "/claim/cut.py") 490), (.int 129 0), (.int 1 0), (.int 0 0), (.int 0 0), (.int 3 0), (.ref 257), (.bool true), (.int 181 0), (.ref 258), .none, (.ref 259), (.ref 260), (.ref 261), (.int 492 0), (.int 129 0), (.str (Str.ofString "/claim/cut.py") 493)]), #[]⟩ : Obj)) ::
  (nat_lit 263, (⟨(.type "function"), none, (.func (fnAt (mthAt 9 2) (Str.ofString "_FALSE.__str__") [] .none (.str (Str.ofString "boolean.boolean") 194) (.ref 262) .none)), #[]⟩ : Obj)) ::
  (nat_lit 279, (⟨(.type "dict"), none, (.dict #[en P "__module__" 467 (.str (Str.ofString "boolean.boolean") 194), en P "__firstlineno__" 471 (.int 120 470), en P "dual" 479 (.ref 249), en P "__eq__" 487 (.ref 256), en P "__str__" 494 (.ref 263), en P "__call__" 501 (.ref 270), en P "__bool__" 508 (.ref 277), en P "__static_attributes__" 509 (.ref 278), en P "__doc__" 510 .none, en P "__hash__" 511 .none] 3), #[]⟩ : Obj)) ::
  (nat_lit 280, (⟨(.type "type"), none, (.cls { name := (Str.ofString "_FALSE"), bases := [(.ref 184)], mro := [(.ref 280), (.ref 184), (.ref 142), (.type "object")], ns := 279, qualname := (Str.ofString "_FALSE"), subclasses := [] }), #[(some (.ref 235)), none, (some (.str (Str.ofString "_FALSE") 460)), (some (.str (Str.ofString "_FALSE") 468)), (some (.builtin "object.__new__")), (some (.bool true))]⟩ : Obj)) ::
  (nat_lit 283, (⟨(.type "dict"), none, (.dict #[en P "args" 516 (.ref 286), en P "isliteral" 518 (.bool false), en P "sort_order" 521 (.int 0 519), en P "iscanonical" 523 (.bool true)] 4), #[]⟩ : Obj)) ::
  (nat_lit 284, (⟨(.ref 232), (some 283), .plain, #[]⟩ : Obj)) ::
  (nat_lit 286, (⟨(.type "tuple"), none, (.seq #[] 0), #[]⟩ : Obj)) ::
  (nat_lit 287, (⟨(.type "dict"), none, (.dict #[en P "args" 527 (.ref 290), en P "isliteral" 529 (.bool false), en P "sort_order" 532 (.int 0 530), en P "iscanonical" 534 (.bool true)] 4), #[]⟩ : Obj)) ::
  (nat_lit 288, (⟨(.ref 280), (some 287), .plain, #[]⟩ : Obj)) ::
  (nat_lit 290, (⟨(.type "tuple"), none, (.seq #[] 0), #[]⟩ : Obj)) ::
  (nat_lit 294, (⟨(.type "cell"), none, (.cell (some (.ref 344))), #[]⟩ : Obj)) ::
  (nat_lit 305, (⟨(.type "code"), none, (.fields #[(.str (Str.ofString "__init__") 548), (.str (Str.ofString "Symbol.__init__") 549), (.str (Str.ofString "/claim/cut.py") 550), (.int 141 0), (.int 2 0), (.int 0 0), (.int 0 0), (.int 3 0), (.ref 300), (.bool true), (.int 181 0), (.ref 301), .none, (.ref 302), (.ref 303), (.ref 304), (.int 554 0), (.int 141 0), (.str (Str.ofString "/claim/cut.py") 555)]), #[]⟩ : Obj)) ::
  (nat_lit 306, (⟨(.type "function"), none, (.func (fnAt (mthAt 12 0) (Str.ofString "Symbol.__init__") [((Str.ofString "__class__"), 294)] .none (.str (Str.ofString "boolean.boolean") 194) (.ref 305) (.ref 299))), #[]⟩ : Obj)) ::
  (nat_lit 326, (⟨(.type "code"), none, (.fields #[(.str (Str.ofString "__eq__") 572), (.str (Str.ofString "Symbol.__eq__") 573), (.str (Str.ofString "/claim/cut.py") 574), (.int 154 0), (.int 2 0), (.int 0 0), (.int 0 0), (.int 3 0), (.ref 321), (.bool true), (.int 181 0), (.ref 322), .none, (.ref 323), (.ref 324), (.ref 325), (.int 577 0), (.int 154 0), (.str (Str.ofString "/claim/cut.py") 578)]), #[]⟩ : Obj)) ::
  (nat_lit 327, (⟨(.type "function"), none, (.func (fnAt (mthAt 12 3) (Str.ofString "Symbol.__eq__") [] .none (.str (Str.ofString "boolean.boolean") 194) (.ref 326) .none)), #[]⟩ : Obj)) ::
  (nat_lit 333, (⟨(.type "code"), none, (.fields #[(.str (Str.ofString "__lt__") 580), (.str (Str.ofString "Symbol.__lt__") 581), (.str (Str.ofString "/claim/cut.py") 582), (.int 161 0), (.int 2 0), (.int 0 0), (.int 0 0), (.int 3 0), (.ref 328), (.bool true), (.int 181 0), (.ref 329), .none, (.ref 330), (.ref 331), (.ref 332), (.int 586 0), (.int 161 0), (.str (Str.ofString "/claim/cut.py") 587)]), #[]⟩ : Obj)) ::
  (nat_lit 334, (⟨(.type "function"), none, (.func (fnAt (mthAt 12 4) (Str.ofString "Symbol.__lt__") [] .none (.str (Str.ofString "boolean.boolean") 194) (.ref 333) .none)), #[]⟩ : Obj)) ::
  (nat_lit 340, (⟨(.type "code"), none, (.fields #[(.str (Str.ofString "__str__") 589), (.str (Str.ofString "Symbol.__str__") 590), (.str (Str.ofString "/claim/cut.py") 591), (.int 169 0), (.int 1 0), (.int 0 0), (.int 0 0), (.int 3 0), (.ref 335), (.bool true), (.int 181 0), (.ref 336), .none, (.ref 337), (.ref 338), (.ref 339), (.int 593 0), (.int 169 0), (.str (Str.ofString "/claim/cut.py") 594)]), #[]⟩ : Obj)) ::
  (nat_lit 341, (⟨(.type "function"), none, (.func (fnAt (mthAt 12 5) (Str.ofString "Symbol.__str__") [] .none (.str (Str.ofString "boolean.boolean") 194) (.ref 340) .none)), #[]⟩ : Obj)) ::
  (nat_lit 343, (⟨(.type "dict"), none, (.dict #[en P "__module__" 543 (.str (Str.ofString "boolean.boolean") 194), en P "__firstlineno__" 547 (.int 139 546), en P "__init__" 556 (.ref 306), en P "__call__" 564 (.ref 313), en P "__hash__" 571 (.ref 320), en P "__eq__" 579 (.ref 327), en P "__lt__" 588 (.ref 334), en P "__str__" 595 (.ref 341), en P "__static_attributes__" 600 (.ref 342), en P "__doc__" 602 .none] 3), #[]⟩ : Obj)) ::
  (nat_lit 344, (⟨(.type "type"), none, (.cls { name := (Str.ofString "Symbol"), bases := [(.ref 142)], mro := [(.ref 344), (.ref 142), (.type "object")], ns := 343, qualname := (Str.ofString "Symbol"), subclasses := [] }), #[(some (.ref 291)), none, (some (.str (Str.ofString "Symbol") 536)), (some (.str (Str.ofString "Symbol") 544)), (some (.builtin "object.__new__")), (some (.bool true))]⟩ : Obj)) ::
  (nat_lit 350, (⟨(.type "cell"), none, (.cell (some (.ref 372))), #[]⟩ : Obj)) ::
  (nat_lit 361, (⟨(.type "code"), none, (.fields #[(.str (Str.ofString "__init__") 617), (.str (Str.ofString "Function.__init__") 618), (.str (Str.ofString "/claim/cut.py") 619), (.int 173 0), (.int 1 0), (.int 0 0), (.int 0 0), (.int 7 0), (.ref 356), (.bool true), (.int 181 0), (.ref 357), .none, (.ref 358), (.ref 359), (.ref 360), (.int 623 0), (.int 173 0), (.str (Str.ofString "/claim/cut.py") 624)]), #[]⟩ : Obj)) ::
  (nat_lit 362, (⟨(.type "function"), none, (.func (fnAt (mthAt 13 0) (Str.ofString "Function.__init__") [((Str.ofString "__class__"), 350)] .none (.str (Str.ofString "boolean.boolean") 194) (.ref 361) (.ref 355))), #[]⟩ : Obj)) ::
  (nat_lit 368, (⟨(.type "code"), none, (.fields #[(.str (Str.ofString "__str__") 626), (.str (Str.ofString "Function.__str__") 627), (.str (Str.ofString "/claim/cut.py") 628), (.int 179 0), (.int 1 0), (.int 0 0), (.int 0 0), (.int 3 0), (.ref 363), (.bool true), (.int 181 0), (.ref 364), .none, (.ref 365), (.ref 366), (.ref 367), (.int 633 0), (.int 179 0), (.str (Str.ofString "/claim/cut.py") 634)]), #[]⟩ : Obj)) ::
  (nat_lit 369, (⟨(.type "function"), none, (.func (fnAt (mthAt 13 1) (Str.ofString "Function.__str__") [] .none (.str (Str.ofString "boolean.boolean") 194) (.ref 368) .none)), #[]⟩ : Obj)) ::
  (nat_lit 371, (⟨(.type "dict"), none, (.dict #[en P "__module__" 612 (.str (Str.ofString "boolean.boolean") 194), en P "__firstlineno__" 616 (.int 171 615), en P "__init__" 625 (.ref 362), en P "__str__" 635 (.ref 369), en P "__static_attributes__" 638 (.ref 370), en P "__doc__" 640 .none] 3), #[]⟩ : Obj)) ::
  (nat_lit 372, (⟨(.type "type"), none, (.cls { name := (Str.ofString "Function"), bases := [(.ref 142)], mro := [(.ref 372), (.ref 142), (.type "object")], ns := 371, qualname := (Str.ofString "Function"), subclasses := [(.ref 440), (.ref 514)] }), #[(some (.ref 347)), none, (some (.str (Str.ofString "Function") 605)), (some (.str (Str.ofString "Function") 613)), (some (.builtin "object.__new__")), (some (.bool true))]⟩ : Obj)) ::
  (nat_lit 378, (⟨(.type "cell"), none, (.cell (some (.ref 440))), #[]⟩ : Obj)) ::
  (nat_lit 389, (⟨(.type "code"), none, (.fields #[(.str (Str.ofString "__init__") 655), (.str (Str.ofString "NOT.__init__") 656), (.str (Str.ofString "/claim/cut.py") 657), (.int 194 0), (.int 2 0), (.int 0 0), (.int 0 0), (.int 3 0), (.ref 384), (.bool true), (.int 181 0), (.ref 385), .none, (.ref 386), (.ref 387), (.ref 388), (.int 661 0), (.int 194 0), (.str (Str.ofString "/claim/cut.py") 662)]), #[]⟩ : Obj)) ::
  (nat_lit 390, (⟨(.type "function"), none, (.func (fnAt (mthAt 14 0) (Str.ofString "NOT.__init__") [((Str.ofString "__class__"), 378)] .none (.str (Str.ofString "boolean.boolean") 194) (.ref 389) (.ref 383))), #[]⟩ : Obj)) ::
  (nat_lit 403, (⟨(.type "code"), none, (.fields #[(.str (Str.ofString "literalize") 672), (.str (Str.ofString "NOT.literalize") 673), (.str (Str.ofString "/claim/cut.py") 674), (.int 202 0), (.int 1 0), (.int 0 0), (.int 0 0), (.int 3 0), (.ref 398), (.bool true), (.int 181 0), (.ref 399), .none, (.ref 400), (.ref 401), (.ref 402), (.int 677 0), (.int 202 0), (.str (Str.ofString "/claim/cut.py") 678)]), #[]⟩ : Obj)) ::
  (nat_lit 404, (⟨(.type "function"), none, (.func (fnAt (mthAt 14 2) (Str.ofString "NOT.literalize") [] .none (.str (Str.ofString "boolean.boolean") 194) (.ref 403) .none)), #[]⟩ : Obj)) ::
  (nat_lit 410, (⟨(.type "code"), none, (.fields #[(.str (Str.ofString "simplify") 680), (.str (Str.ofString "NOT.simplify") 681), (.str (Str.ofString "/claim/cut.py") 682), (.int 208 0), (.int 1 0), (.int 0 0), (.int 0 0), (.int 3 0), (.ref 405), (.bool true), (.int 181 0), (.ref 406), .none, (.ref 407), (.ref 408), (.ref 409), (.int 685 0), (.int 208 0), (.str (Str.ofString "/claim/cut.py") 686)]), #[]⟩ : Obj)) ::
  (nat_lit 411, (⟨(.type "function"), none, (.func (fnAt (mthAt 14 3) (Str.ofString "NOT.simplify") [] .none (.str (Str.ofString "boolean.boolean") 194) (.ref 410) .none)), #[]⟩ : Obj)) ::
  (nat_lit 417, (⟨(.type "code"), none, (.fields #[(.str (Str.ofString "cancel") 688), (.str (Str.ofString "NOT.cancel") 689), (.str (Str.ofString "/claim/cut.py") 690), (.int 220 0), (.int 1 0), (.int 0 0), (.int 0 0), (.int 3 0), (.ref 412), (.bool true), (.int 181 0), (.ref 413), .none, (.ref 414), (.ref 415), (.ref 416), (.int 694 0), (.int 220 0), (.str (Str.ofString "/claim/cut.py") 695)]), #[]⟩ : Obj)) ::
  (nat_lit 418, (⟨(.type "function"), none, (.func (fnAt (mthAt 14 4) (Str.ofString "NOT.cancel") [] .none (.str (Str.ofString "boolean.boolean") 194) (.ref 417) .none)), #[]⟩ : Obj)) ::
  (nat_lit 422, (⟨(.type "code"), none, (.fields #[(.str (Str.ofString "demorgan") 697), (.str (Str.ofString "NOT.demorgan") 698), (.str (Str.ofString "/claim/cut.py") 699), (.int 230 0), (.int 1 0), (.int 0 0), (.int 0 0), (.int 3 0), (.ref 419), (.bool true), (.int 181 0), (.ref 420), .none, .none, .none, (.ref 421), (.int 700 0), (.int 230 0), (.str (Str.ofString "/claim/cut.py") 701)]), #[]⟩ : Obj)) ::
  (nat_lit 423, (⟨(.type "function"), none, (.func (fnAt (mthAt 14 5) (Str.ofString "NOT.demorgan") [] .none (.str (Str.ofString "boolean.boolean") 194) (.ref 422) .none)), #[]⟩ : Obj)) ::
  (nat_lit 436, (⟨(.type "code"), none, (.fields #[(.str (Str.ofString "__lt__") 711), (.str (Str.ofString "NOT.__lt__") 712), (.str (Str.ofString "/claim/cut.py") 713), (.int 240 0), (.int 2 0), (.int 0 0), (.int 0 0), (.int 3 0), (.ref 431), (.bool true), (.int 181 0), (.ref 432), .none, (.ref 433), (.ref 434), (.ref 435), (.int 716 0), (.int 240 0), (.str (Str.ofString "/claim/cut.py") 717)]), #[]⟩ : Obj)) ::
  (nat_lit 437, (⟨(.type "function"), none, (.func (fnAt (mthAt 14 7) (Str.ofString "NOT.__lt__") [] .none (.str (Str.ofString "boolean.boolean") 194) (.ref 436) .none)), #[]⟩ : Obj)) ::
  (nat_lit 439, (⟨(.type "dict"), none, (.dict #[en P "__module__" 650 (.str (Str.ofString "boolean.boolean") 194), en P "__firstlineno__" 654 (.int 192 653), en P "__init__" 663 (.ref 390), en P "made" 671 (.ref 397), en P "literalize" 679 (.ref 404), en P "simplify" 687 (.ref 411), en P "cancel" 696 (.ref 418), en P "demorgan" 702 (.ref 423), en P "__call__" 710 (.ref 430), en P "__lt__" 718 (.ref 437), en P "__static_attributes__" 721 (.ref 438), en P "__doc__" 723 .none] 3), #[]⟩ : Obj)) ::
  (nat_lit 440, (⟨(.type "type"), none, (.cls { name := (Str.ofString "NOT"), bases := [(.ref 372)], mro := [(.ref 440), (.ref 372), (.ref 142), (.type "object")], ns := 439, qualname := (Str.ofString "NOT"), subclasses := [] }), #[(some (.ref 375)), none, (some (.str (Str.ofString "NOT") 643)), (some (.str (Str.ofString "NOT") 651)), (some (.builtin "object.__new__")), (some (.bool true))]⟩ : Obj)) ::
  (nat_lit 446, (⟨(.type "cell"), none, (.cell (some (.ref 514))), #[]⟩ : Obj)) ::
  (nat_lit 457, (⟨(.type "code"), none, (.fields #[(.str (Str.ofString "__init__") 738), (.str (Str.ofString "DualBase.__init__") 739), (.str (Str.ofString "/claim/cut.py") 740), (.int 244 0), (.int 3 0), (.int 0 0), (.int 0 0), (.int 7 0), (.ref 452), (.bool true), (.int 181 0), (.ref 453), .none, (.ref 454), (.ref 455), (.ref 456), (.int 746 0), (.int 244 0), (.str (Str.ofString "/claim/cut.py") 747)]), #[]⟩ : Obj)) ::
  (nat_lit 458, (⟨(.type "function"), none, (.func (fnAt (mthAt 15 0) (Str.ofString "DualBase.__init__") [((Str.ofString "__class__"), 446)] .none (.str (Str.ofString "boolean.boolean") 194) (.ref 457) (.ref 451))), #[]⟩ : Obj)) ::
  (nat_lit 464, (⟨(.type "code"), none, (.fields #[(.str (Str.ofString "__contains__") 749), (.str (Str.ofString "DualBase.__contains__") 750), (.str (Str.ofString "/claim/cut.py") 751), (.int 249 0), (.int 2 0), (.int 0 0), (.int 0 0), (.int 3 0), (.ref 459), (.bool true), (.int 181 0), (.ref 460), .none, (.ref 461), (.ref 462), (.ref 463), (.int 755 0), (.int 249 0), (.str (Str.ofString "/claim/cut.py") 756)]), #[]⟩ : Obj)) ::
  (nat_lit 465, (⟨(.type "function"), none, (.func (fnAt (mthAt 15 1) (Str.ofString "DualBase.__contains__") [] .none (.str (Str.ofString "boolean.boolean") 194) (.ref 464) .none)), #[]⟩ : Obj)) ::
  (nat_lit 466, (⟨(.type "tuple"), none, (.seq #[(.bool true)] 0), #[]⟩ : Obj)) ::
  (nat_lit 470, (⟨(.type "code"), none, (.fields #[(.str (Str.ofString "simplify") 758), (.str (Str.ofString "DualBase.simplify") 759), (.str (Str.ofString "/claim/cut.py") 760), (.int 255 0), (.int 2 0), (.int 0 0), (.int 0 0), (.int 3 0), (.ref 467), (.bool true), (.int 181 0), (.ref 468), .none, .none, .none, (.ref 469), (.int 761 0), (.int 255 0), (.str (Str.ofString "/claim/cut.py") 762)]), #[]⟩ : Obj)) ::
  (nat_lit 471, (⟨(.type "function"), none, (.func (fnAt (mthAt 15 2) (Str.ofString "DualBase.simplify") [] (.ref 466) (.str (Str.ofString "boolean.boolean") 194) (.ref 470) .none)), #[]⟩ : Obj)) ::
  (nat_lit 477, (⟨(.type "code"), none, (.fields #[(.str (Str.ofString "flatten") 764), (.str (Str.ofString "DualBase.flatten") 765), (.str (Str.ofString "/claim/cut.py") 766), (.int 327 0), (.int 1 0), (.int 0 0), (.int 0 0), (.int 3 0), (.ref 472), (.bool true), (.int 181 0), (.ref 473), .none, (.ref 474), (.ref 475), (.ref 476), (.int 771 0), (.int 327 0), (.str (Str.ofString "/claim/cut.py") 772)]), #[]⟩ : Obj)) ::
  (nat_lit 478, (⟨(.type "function"), none, (.func (fnAt (mthAt 15 3) (Str.ofString "DualBase.flatten") [] .none (.str (Str.ofString "boolean.boolean") 194) (.ref 477) .none)), #[]⟩ : Obj)) ::
  (nat_lit 484, (⟨(.type "code"), none, (.fields #[(.str (Str.ofString "absorb") 774), (.str (Str.ofString "DualBase.absorb") 775), (.str (Str.ofString "/claim/cut.py") 776), (.int 338 0), (.int 2 0), (.int 0 0), (.int 0 0), (.int 3 0), (.ref 479), (.bool true), (.int 181 0), (.ref 480), .none, (.ref 481), (.ref 482), (.ref 483), (.int 788 0), (.int 338 0), (.str (Str.ofString "/claim/cut.py") 789)]), #[]⟩ : Obj)) ::
  (nat_lit 485, (⟨(.type "function"), none, (.func (fnAt (mthAt 15 4) (Str.ofString "DualBase.absorb") [] .none (.str (Str.ofString "boolean.boolean") 194) (.ref 484) .none)), #[]⟩ : Obj)) ::
  (nat_lit 513, (⟨(.type "dict"), none, (.dict #[en P "__module__" 733 (.str (Str.ofString "boolean.boolean") 194), en P "__firstlineno__" 737 (.int 242 736), en P "__init__" 748 (.ref 458), en P "__contains__" 757 (.ref 465), en P "simplify" 763 (.ref 471), en P "flatten" 773 (.ref 478), en P "absorb" 790 (.ref 485), en P "subtract" 796 (.ref 490), en P "distributive" 803 (.ref 497), en P "__lt__" 815 (.ref 504), en P "__call__" 825 (.ref 511), en P "__static_attributes__" 828 (.ref 512), en P "__doc__" 830 .none] 3), #[]⟩ : Obj)) ::
  (nat_lit 514, (⟨(.type "type"), none, (.cls { name := (Str.ofString "DualBase"), bases := [(.ref 372)], mro := [(.ref 514), (.ref 372), (.ref 142), (.type "object")], ns := 513, qualname := (Str.ofString "DualBase"), subclasses := [(.ref 563), (.ref 612)] }), #[(some (.ref 443)), none, (some (.str (Str.ofString "DualBase") 726)), (some (.str (Str.ofString "DualBase") 734)), (some (.builtin "object.__new__")), (some (.bool true))]⟩ : Obj)) ::
  (nat_lit 520, (⟨(.type "cell"), none, (.cell (some (.ref 563))), #[]⟩ : Obj)) ::
  (nat_lit 531, (⟨(.type "code"), none, (.fields #[(.str (Str.ofString "__init__") 845), (.str (Str.ofString "AND.__init__") 846), (.str (Str.ofString "/claim/cut.py") 847), (.int 441 0), (.int 3 0), (.int 0 0), (.int 0 0), (.int 7 0), (.ref 526), (.bool true), (.int 181 0), (.ref 527), .none, (.ref 528), (.ref 529), (.ref 530), (.int 853 0), (.int 441 0), (.str (Str.ofString "/claim/cut.py") 854)]), #[]⟩ : Obj)) ::
  (nat_lit 532, (⟨(.type "function"), none, (.func (fnAt (mthAt 16 0) (Str.ofString "AND.__init__") [((Str.ofString "__class__"), 520)] .none (.str (Str.ofString "boolean.boolean") 194) (.ref 531) (.ref 525))), #[]⟩ : Obj)) ::
  (nat_lit 538, (⟨(.type "code"), none, (.fields #[(.str (Str.ofString "made") 856), (.str (Str.ofString "AND.made") 857), (.str (Str.ofString "/claim/cut.py") 858), (.int 448 0), (.int 2 0), (.int 0 0), (.int 0 0), (.int 3 0), (.ref 533), (.bool true), (.int 181 0), (.ref 534), .none, (.ref 535), (.ref 536), (.ref 537), (.int 861 0), (.int 448 0), (.str (Str.ofString "/claim/cut.py") 862)]), #[]⟩ : Obj)) ::
  (nat_lit 539, (⟨(.type "function"), none, (.func (fnAt (mthAt 16 1) (Str.ofString "AND.made") [] .none (.str (Str.ofString "boolean.boolean") 194) (.ref 538) .none)), #[]⟩ : Obj)) ::
  (nat_lit 545, (⟨(.type "code"), none, (.fields #[(.str (Str.ofString "made_dual") 864), (.str (Str.ofString "AND.made_dual") 865), (.str (Str.ofString "/claim/cut.py") 866), (.int 451 0), (.int 2 0), (.int 0 0), (.int 0 0), (.int 3 0), (.ref 540), (.bool true), (.int 181 0), (.ref 541), .none, (.ref 542), (.ref 543), (.ref 544), (.int 869 0), (.int 451 0), (.str (Str.ofString "/claim/cut.py") 870)]), #[]⟩ : Obj)) ::
  (nat_lit 546, (⟨(.type "function"), none, (.func (fnAt (mthAt 16 2) (Str.ofString "AND.made_dual") [] .none (.str (Str.ofString "boolean.boolean") 194) (.ref 545) .none)), #[]⟩ : Obj)) ::
  (nat_lit 552, (⟨(.type "code"), none, (.fields #[(.str (Str.ofString "is_dual") 872), (.str (Str.ofString "AND.is_dual") 873), (.str (Str.ofString "/claim/cut.py") 874), (.int 454 0), (.int 2 0), (.int 0 0), (.int 0 0), (.int 3 0), (.ref 547), (.bool true), (.int 181 0), (.ref 548), .none, (.ref 549), (.ref 550), (.ref 551), (.int 877 0), (.int 454 0), (.str (Str.ofString "/claim/cut.py") 878)]), #[]⟩ : Obj)) ::
  (nat_lit 553, (⟨(.type "function"), none, (.func (fnAt (mthAt 16 3) (Str.ofString "AND.is_dual") [] .none (.str (Str.ofString "boolean.boolean") 194) (.ref 552) .none)), #[]⟩ : Obj)) ::
  (nat_lit 562, (⟨(.type "dict"), none, (.dict #[en P "__module__" 840 (.str (Str.ofString "boolean.boolean") 194), en P "__firstlineno__" 844 (.int 439 843), en P "__init__" 855 (.ref 532), en P "made" 863 (.ref 539), en P "made_dual" 871 (.ref 546), en P "is_dual" 879 (.ref 553), en P "joined" 888 (.ref 560), en P "__static_attributes__" 893 (.ref 561), en P "__doc__" 895 .none] 3), #[]⟩ : Obj)) ::
  (nat_lit 563, (⟨(.type "type"), none, (.cls { name := (Str.ofString "AND"), bases := [(.ref 514)], mro := [(.ref 563), (.ref 514), (.ref 372), (.ref 142), (.type "object")], ns := 562, qualname := (Str.ofString "AND"), subclasses := [] }), #[(some (.ref 517)), none, (some (.str (Str.ofString "AND") 833)), (some (.str (Str.ofString "AND") 841)), (some (.builtin "object.__new__")), (some (.bool true))]⟩ : Obj)) ::
  (nat_lit 569, (⟨(.type "cell"), none, (.cell (some (.ref 612))), #[]⟩ : Obj)) ::
  (nat_lit 580, (⟨(.type "code"), none, (.fields #[(.str (Str.ofString "__init__") 910), (.str (Str.ofString "OR.__init__") 911), (.str (Str.ofString "/claim/cut.py") 912), (.int 461 0), (.int 3 0), (.int 0 0), (.int 0 0), (.int 7 0), (.ref 575), (.bool true), (.int 181 0), (.ref 576), .none, (.ref 577), (.ref 578), (.ref 579), (.int 918 0), (.int 461 0), (.str (Str.ofString "/claim/cut.py") 919)]), #[]⟩ : Obj)) ::
  (nat_lit 581, (⟨(.type "function"), none, (.func (fnAt (mthAt 17 0) (Str.ofString "OR.__init__") [((Str.ofString "__class__"), 569)] .none (.str (Str.ofString "boolean.boolean") 194) (.ref 580) (.ref 574))), #[]⟩ : Obj)) ::
  (nat_lit 587, (⟨(.type "code"), none, (.fields #[(.str (Str.ofString "made") 921), (.str (Str.ofString "OR.made") 922), (.str (Str.ofString "/claim/cut.py") 923), (.int 468 0), (.int 2 0), (.int 0 0), (.int 0 0), (.int 3 0), (.ref 582), (.bool true), (.int 181 0), (.ref 583), .none, (.ref 584), (.ref 585), (.ref 586), (.int 926 0), (.int 468 0), (.str (Str.ofString "/claim/cut.py") 927)]), #[]⟩ : Obj)) ::
  (nat_lit 588, (⟨(.type "function"), none, (.func (fnAt (mthAt 17 1) (Str.ofString "OR.made") [] .none (.str (Str.ofString "boolean.boolean") 194) (.ref 587) .none)), #[]⟩ : Obj)) ::
  (nat_lit 594, (⟨(.type "code"), none, (.fields #[(.str (Str.ofString "made_dual") 929), (.str (Str.ofString "OR.made_dual") 930), (.str (Str.ofString "/claim/cut.py") 931), (.int 471 0), (.int 2 0), (.int 0 0), (.int 0 0), (.int 3 0), (.ref 589), (.bool true), (.int 181 0), (.ref 590), .none, (.ref 591), (.ref 592), (.ref 593), (.int 934 0), (.int 471 0), (.str (Str.ofString "/claim/cut.py") 935)]), #[]⟩ : Obj)) ::
  (nat_lit 595, (⟨(.type "function"), none, (.func (fnAt (mthAt 17 2) (Str.ofString "OR.made_dual") [] .none (.str (Str.ofString "boolean.boolean") 194) (.ref 594) .none)), #[]⟩ : Obj)) ::
  (nat_lit 601, (⟨(.type "code"), none, (.fields #[(.str (Str.ofString "is_dual") 937), (.str (Str.ofString "OR.is_dual") 938), (.str (Str.ofString "/claim/cut.py") 939), (.int 474 0), (.int 2 0), (.int 0 0), (.int 0 0), (.int 3 0), (.ref 596), (.bool true), (.int 181 0), (.ref 597), .none, (.ref 598), (.ref 599), (.ref 600), (.int 942 0), (.int 474 0), (.str (Str.ofString "/claim/cut.py") 943)]), #[]⟩ : Obj)) ::
  (nat_lit 602, (⟨(.type "function"), none, (.func (fnAt (mthAt 17 3) (Str.ofString "OR.is_dual") [] .none (.str (Str.ofString "boolean.boolean") 194) (.ref 601) .none)), #[]⟩ : Obj)) ::
  (nat_lit 611, (⟨(.type "dict"), none, (.dict #[en P "__module__" 905 (.str (Str.ofString "boolean.boolean") 194), en P "__firstlineno__" 909 (.int 459 908), en P "__init__" 920 (.ref 581), en P "made" 928 (.ref 588), en P "made_dual" 936 (.ref 595), en P "is_dual" 944 (.ref 602), en P "joined" 953 (.ref 609), en P "__static_attributes__" 958 (.ref 610), en P "__doc__" 960 .none] 3), #[]⟩ : Obj)) ::
  (nat_lit 612, (⟨(.type "type"), none, (.cls { name := (Str.ofString "OR"), bases := [(.ref 514)], mro := [(.ref 612), (.ref 514), (.ref 372), (.ref 142), (.type "object")], ns := 611, qualname := (Str.ofString "OR"), subclasses := [] }), #[(some (.ref 566)), none, (some (.str (Str.ofString "OR") 898)), (some (.str (Str.ofString "OR") 906)), (some (.builtin "object.__new__")), (some (.bool true))]⟩ : Obj)) ::
  (nat_lit 615, (⟨(.type "tuple"), none, (.seq #[(.str (Str.ofString "not_b") 965), (.str (Str.ofString "a.c") 966), (.str (Str.ofString "Zed") 967), (.str (Str.ofString "10") 968)] 0), #[]⟩ : Obj)) ::
  (nat_lit 619, (⟨(.type "code"), none, (.fields #[(.str (Str.ofString "_law_made") 970), (.str (Str.ofString "_law_made") 971), (.str (Str.ofString "/claim/cut.py") 972), (.int 481 0), (.int 2 0), (.int 0 0), (.int 0 0), (.int 3 0), (.ref 616), (.bool true), (.int 181 0), (.ref 617), .none, .none, .none, (.ref 618), (.int 973 0), (.int 481 0), (.str (Str.ofString "/claim/cut.py") 974)]), #[]⟩ : Obj)) ::
  (nat_lit 620, (⟨(.type "function"), none, (.func (fnAt (stAt 20) (Str.ofString "_law_made") [] .none (.str (Str.ofString "law_bp5003_02") 963) (.ref 619) .none)), #[]⟩ : Obj)) ::
  (nat_lit 626, (⟨(.type "code"), none, (.fields #[(.str (Str.ofString "_law_leaves") 976), (.str (Str.ofString "_law_leaves") 977), (.str (Str.ofString "/claim/cut.py") 978), (.int 489 0), (.int 2 0), (.int 0 0), (.int 0 0), (.int 3 0), (.ref 621), (.bool true), (.int 181 0), (.ref 622), .none, (.ref 623), (.ref 624), (.ref 625), (.int 983 0), (.int 489 0), (.str (Str.ofString "/claim/cut.py") 984)]), #[]⟩ : Obj)) ::
  (nat_lit 627, (⟨(.type "function"), none, (.func (fnAt (stAt 21) (Str.ofString "_law_leaves") [] .none (.str (Str.ofString "law_bp5003_02") 963) (.ref 626) .none)), #[]⟩ : Obj)) ::
  (nat_lit 631, (⟨(.type "code"), none, (.fields #[(.str (Str.ofString "law") 986), (.str (Str.ofString "law") 987), (.str (Str.ofString "/claim/cut.py") 988), (.int 498 0), (.int 1 0), (.int 0 0), (.int 0 0), (.int 3 0), (.ref 628), (.bool true), (.int 181 0), (.ref 629), .none, .none, .none, (.ref 630), (.int 989 0), (.int 498 0), (.str (Str.ofString "/claim/cut.py") 990)]), #[]⟩ : Obj)) ::
  (nat_lit 632, (⟨(.type "function"), none, (.func (fnAt (stAt 22) (Str.ofString "law") [] .none (.str (Str.ofString "law_bp5003_02") 963) (.ref 631) .none)), #[]⟩ : Obj)) :: []
def K0as : List Addr := [0, 2, 3, 4, 27, 28, 41, 42, 53, 54, 82, 83, 89, 90, 103, 104, 110, 111, 141, 142, 173, 174, 180, 181, 183, 184, 199, 200, 201, 207, 208, 214, 215, 231, 232, 247, 248, 249, 255, 256, 262, 263, 279, 280, 283, 284, 286, 287, 288, 290, 294, 305, 306, 326, 327, 333, 334, 340, 341, 343, 344, 350, 361, 362, 368, 369, 371, 372, 378, 389, 390, 403, 404, 410, 411, 417, 418, 422, 423, 436, 437, 439, 440, 446, 457, 458, 464, 465, 466, 470, 471, 477, 478, 484, 485, 513, 514, 520, 531, 532, 538, 539, 545, 546, 552, 553, 562, 563, 569, 580, 581, 587, 588, 594, 595, 601, 602, 611, 612, 615, 619, 620, 626, 627, 631, 632]
def tabL : List Addr := [51, 85, 357]
def tab0 : List (Addr × Obj) := tabL.map fun a => (a, { cls := .none, data := .fields #[] })
def K0t (P : Params) : Frag := K0 P ++ tab0
def K0tas : List Addr := K0as ++ tabL
theorem K0t_as (P : Params) : K0tas = (K0t P).map (·.1) := by kernel_rfl
-- part A1

abbrev Km := Addr → Option Obj
def Km.le (G G' : Km) : Prop := ∀ b o, G b = some o → G' b = some o
theorem Km.le.refl (G : Km) : G.le G := fun _ _ e => e
theorem Km.le.trans {G G' G'' : Km} (x : G.le G') (y : G'.le G'') : G.le G'' := fun b o e => y b o (x b o e)
abbrev tabObj (ps : Array Value) : Obj := { cls := .none, data := .fields ps }
def TabOk (h : Heap) : Prop := ∀ P ∈ tabL, ∃ ps, h.get? P = some (tabObj ps) ∧ TriplesOk ps.toList
theorem TabOk.lt {h : Heap} (T : TabOk h) {P : Addr} (hP : P ∈ tabL) : P < h.objs.size := let ⟨_, e, _⟩ := T P hP; Heap.lt_size e
theorem TabOk.of {h h' : Heap} (T : TabOk h) (k : ∀ P ∈ tabL, h'.get? P = h.get? P) : TabOk h' := fun P hP => let ⟨ps, e, r⟩ := T P hP; ⟨ps, (k P hP).trans e, r⟩

structure Wd (w : World) (G : Km) (s : Shared) : Prop where
  keep : ∀ b o, G b = some o → s.heap.get? b = some o
  kin : ∀ a o, (K0 w.params).lookup a = some o → G a = some o
  tabs : TabOk s.heap
  off : ∀ P ∈ tabL, G P = none
  bare : AllBare s.gens
theorem Wd.inn {w : World} {G : Km} {s : Shared} (W : Wd w G s) : (K0 w.params).In s.heap := fun a o h => W.keep _ _ (W.kin _ _ h)

-- what was drawn may change: this field says nothing
def nod {α : Type} (_ : α) : Unit := ()
structure Ex (X : List Addr) (s s' : Shared) : Prop where
  keep : ∀ b o, s.heap.get? b = some o → b ∉ tabL → b ∉ X → s'.heap.get? b = some o
  grow : ∀ P ∈ tabL, ∀ ps, s.heap.get? P = some (tabObj ps) → ∃ more, s'.heap.get? P = some (tabObj (ps ++ more))
  size : s.heap.objs.size ≤ s'.heap.objs.size
  os : s'.os = s.os
  drawn : nod s'.drawn = nod s.drawn
  gsz : s.gens.size ≤ s'.gens.size
theorem Ex.refl (X : List Addr) (s : Shared) : Ex X s s := ⟨fun _ _ e _ _ => e, fun _ _ ps e => ⟨#[], by rw [e, Array.append_empty]⟩, Nat.le_refl _, rfl, rfl, Nat.le_refl _⟩
theorem Ex.trans {X : List Addr} {s s' s'' : Shared} (x : Ex X s s') (y : Ex X s' s'') : Ex X s s'' :=
  ⟨fun b o e n q => y.keep b o (x.keep b o e n q) n q, fun P hP ps e => by
    obtain ⟨m1, e1⟩ := x.grow P hP ps e
    obtain ⟨m2, e2⟩ := y.grow P hP _ e1
    exact ⟨m1 ++ m2, by rw [e2, Array.append_assoc]⟩, Nat.le_trans x.size y.size, y.os.trans x.os, y.drawn.trans x.drawn, Nat.le_trans x.gsz y.gsz⟩

theorem Ex.more {X X' : List Addr} {s s' : Shared} (x : Ex X s s') (h : ∀ a ∈ X, a ∈ X') : Ex X' s s' := ⟨fun b o e n q => x.keep b o e n fun z => q (h b z), x.grow, x.size, x.os, x.drawn, x.gsz⟩

structure Ps (X : List Addr) (s : Shared) (G : Km) (s' : Shared) (G' : Km) : Prop where
  ex : Ex X s s'
  le : G.le G'
  fresh : ∀ b, G b = none → G' b ≠ none → s.heap.objs.size ≤ b
theorem Ps.refl (X : List Addr) (s : Shared) (G : Km) : Ps X s G s G := ⟨Ex.refl X s, Km.le.refl G, fun _ e n => absurd e n⟩
theorem Ps.trans {X : List Addr} {s s' s'' : Shared} {G G' G'' : Km} (x : Ps X s G s' G') (y : Ps X s' G' s'' G'') : Ps X s G s'' G'' :=
  ⟨x.ex.trans y.ex, x.le.trans y.le, fun b e n => by
    cases q : G' b with
    | none => exact Nat.le_trans x.ex.size (y.fresh b q n)
    | some o => exact x.fresh b e (by rw [q]; exact fun z => nomatch z)⟩

theorem Ps.more {X X' : List Addr} {s s' : Shared} {G G' : Km} (x : Ps X s G s' G') (h : ∀ a ∈ X, a ∈ X') : Ps X' s G s' G' := ⟨x.ex.more h, x.le, x.fresh⟩

structure Cx (X : List Addr) (w : World) (s₀ : Shared) (G₀ G : Km) (L : Addr) (m : List (Str × Value)) (mu : List (Addr × Obj)) (s : Shared) : Prop where
  wd : Wd w G s
  ps : Ps X s₀ G₀ s G
  ns : ∃ f, s.heap.Ns L f ∧ ∀ x v, m.lookup x = some v → f x = some v
  st : ∀ p ∈ mu, s.heap.get? p.1 = some p.2
  nd : (L :: mu.map (·.1)).Nodup
  new : ∀ a ∈ L :: mu.map (·.1), (s₀.heap.objs.size ≤ a ∨ a ∈ X) ∧ G a = none ∧ a ∉ tabL
  newL : s₀.heap.objs.size ≤ L

section
variable {X : List Addr} {w : World} {s₀ s s' : Shared} {G₀ G G' : Km} {L : Addr} {m m' : List (Str × Value)} {mu mu' : List (Addr × Obj)}

theorem Cx.inn (C : Cx X w s₀ G₀ G L m mu s) : (K0 w.params).In s.heap := C.wd.inn
theorem Cx.toks (C : Cx X w s₀ G₀ G L m mu s) (t : Nat) : Cx X w s₀ G₀ G L m mu { s with toks := t } :=
  ⟨⟨C.wd.keep, C.wd.kin, C.wd.tabs, C.wd.off, C.wd.bare⟩, ⟨⟨C.ps.ex.keep, C.ps.ex.grow, C.ps.ex.size, C.ps.ex.os, C.ps.ex.drawn, C.ps.ex.gsz⟩, C.ps.le, C.ps.fresh⟩, C.ns, C.st, C.nd, C.new, C.newL⟩
theorem Cx.sub (C : Cx X w s₀ G₀ G L m mu s) (h : ∀ x v, m'.lookup x = some v → m.lookup x = some v) : Cx X w s₀ G₀ G L m' mu s :=
  let ⟨f, hf, k⟩ := C.ns; ⟨C.wd, C.ps, ⟨f, hf, fun x v e => k x v (h x v e)⟩, C.st, C.nd, C.new, C.newL⟩
theorem lk_all : ∀ {m' : List (Str × Value)}, (∀ p ∈ m', m.lookup p.1 = some p.2) → ∀ x v, m'.lookup x = some v → m.lookup x = some v
  | [], _, x, v, e => by cases e
  | (y, u) :: r, h, x, v, e => by
    rw [List.lookup_cons] at e
    split at e
    · rename_i q
      cases e
      rw [beq_iff_eq.mp q]
      exact h (y, u) (.head _)
    · exact lk_all (fun p hp => h p (.tail _ hp)) x v e
theorem Cx.subs (C : Cx X w s₀ G₀ G L m mu s) (h : ∀ p ∈ m', m.lookup p.1 = some p.2) : Cx X w s₀ G₀ G L m' mu s := C.sub (lk_all h)
theorem Cx.subMu (C : Cx X w s₀ G₀ G L m mu s) (h : ∀ p ∈ mu', p ∈ mu) (nd : (mu'.map (·.1)).Nodup) : Cx X w s₀ G₀ G L m mu' s := by
  have hm : ∀ a ∈ mu'.map (·.1), a ∈ mu.map (·.1) := fun a ha => by
    obtain ⟨p, hp, rfl⟩ := List.mem_map.mp ha
    exact List.mem_map_of_mem (h p hp)
  refine ⟨C.wd, C.ps, C.ns, fun p hp => C.st p (h p hp), List.nodup_cons.mpr ⟨fun q => (List.nodup_cons.mp C.nd).1 (hm _ q), nd⟩, fun a ha => ?_, C.newL⟩
  rcases List.mem_cons.mp ha with rfl | ha
  · exact C.new _ (.head _)
  · exact C.new a (.tail _ (hm a ha))
theorem Cx.get (C : Cx X w s₀ G₀ G L m mu s) {a : Addr} {o : Obj} (h : G a = some o) : s.heap.get? a = some o := C.wd.keep a o h
theorem Cx.getMu (C : Cx X w s₀ G₀ G L m mu s) {a : Addr} {o : Obj} (h : (a, o) ∈ mu) : s.heap.get? a = some o := C.st _ h
theorem Cx.Llt (C : Cx X w s₀ G₀ G L m mu s) : L < s.heap.objs.size := let ⟨_, ⟨_, _, _, h, _⟩, _⟩ := C.ns; Heap.lt_size h
theorem Cx.lt (C : Cx X w s₀ G₀ G L m mu s) : ∀ a ∈ L :: mu.map (·.1), a < s.heap.objs.size := fun a ha => by
  rcases List.mem_cons.mp ha with rfl | ha
  · exact C.Llt
  · obtain ⟨p, hp, rfl⟩ := List.mem_map.mp ha
    exact Heap.lt_size (C.st p hp)
-- an update at an address of the call's own
theorem Wd.upd {a : Addr} {h' : Heap} {t : Nat} (W : Wd w G s) (hs : Heap.SameBut a s.heap h') (hG : G a = none) (ht : a ∉ tabL) : Wd w G { s with heap := h', toks := t } :=
  ⟨fun b o e => (hs.2 b (fun q => by rw [q, hG] at e; cases e)).trans (W.keep b o e), W.kin, W.tabs.of fun P hP => hs.2 P fun q => ht (q ▸ hP), W.off, W.bare⟩
theorem Ex.upd {a : Addr} {h' : Heap} {t : Nat} (Y : Ex X s₀ s) (hs : Heap.SameBut a s.heap h') (ha : s₀.heap.objs.size ≤ a ∨ a ∈ X) (ht : a ∉ tabL) : Ex X s₀ { s with heap := h', toks := t } := by
  refine ⟨fun b o e n q => (hs.2 b (fun z => ha.elim (fun ha => Nat.ne_of_lt (Nat.lt_of_lt_of_le (Heap.lt_size e) ha) z) fun ha => q (z ▸ ha))).trans (Y.keep b o e n q), fun P hP ps e => ?_, ?_, Y.os, Y.drawn, Y.gsz⟩
  · obtain ⟨more, q⟩ := Y.grow P hP ps e
    exact ⟨more, (hs.2 P (fun z => ht (z ▸ hP))).trans q⟩
  · show s₀.heap.objs.size ≤ h'.objs.size
    rw [hs.1]; exact Y.size
theorem Ps.upd {a : Addr} {h' : Heap} {t : Nat} (Y : Ps X s₀ G₀ s G) (hs : Heap.SameBut a s.heap h') (ha : s₀.heap.objs.size ≤ a ∨ a ∈ X) (ht : a ∉ tabL) : Ps X s₀ G₀ { s with heap := h', toks := t } G := ⟨Y.ex.upd hs ha ht, Y.le, Y.fresh⟩
theorem Cx.setL {h' : Heap} {t : Nat} {f' : Str → Option Value} (C : Cx X w s₀ G₀ G L m mu s) (hs : Heap.SameBut L s.heap h') (hn : h'.Ns L f') (hf : ∀ x v, m'.lookup x = some v → f' x = some v) :
    Cx X w s₀ G₀ G L m' mu { s with heap := h', toks := t } := by
  obtain ⟨n1, n2, n3⟩ := C.new L (.head _)
  exact ⟨C.wd.upd hs n2 n3, C.ps.upd hs n1 n3, ⟨f', hn, hf⟩, fun p hp => (hs.2 p.1 (fun q => (List.nodup_cons.mp C.nd).1 (q ▸ List.mem_map_of_mem hp))).trans (C.st p hp), C.nd, C.new, C.newL⟩
theorem Cx.updMu {pre post : List (Addr × Obj)} {a : Addr} {o o' : Obj} {h' : Heap} {t : Nat} (C : Cx X w s₀ G₀ G L m (pre ++ (a, o) :: post) s) (hs : Heap.SameBut a s.heap h') (ho : h'.get? a = some o') :
    Cx X w s₀ G₀ G L m (pre ++ (a, o') :: post) { s with heap := h', toks := t } := by
  have hm : a ∈ L :: (pre ++ (a, o) :: post).map (·.1) := by simp
  obtain ⟨n1, n2, n3⟩ := C.new a hm
  have nd := C.nd
  simp only [List.map_append, List.map_cons] at nd
  have em : (pre ++ (a, o') :: post).map (·.1) = (pre ++ (a, o) :: post).map (·.1) := by simp
  have La : L ≠ a := fun q => (List.nodup_cons.mp nd).1 (by simp [q])
  obtain ⟨f, hf, k⟩ := C.ns
  refine ⟨C.wd.upd hs n2 n3, C.ps.upd hs n1 n3, ⟨f, hf.sameBut hs La, k⟩, fun p hp => ?_, by rw [em]; exact C.nd, by rw [em]; exact C.new, C.newL⟩
  have nd2 := (List.nodup_cons.mp nd).2
  rcases List.mem_append.mp hp with hp | hp
  · refine (hs.2 p.1 fun q => ?_).trans (C.st p (List.mem_append.mpr (.inl hp)))
    exact (List.nodup_append.mp nd2).2.2 p.1 (List.mem_map_of_mem hp) a (.head _) q
  · rcases List.mem_cons.mp hp with rfl | hp
    · exact ho
    · refine (hs.2 p.1 fun q => ?_).trans (C.st p (List.mem_append.mpr (.inr (.tail _ hp))))
      exact (List.nodup_cons.mp (List.nodup_append.mp nd2).2.1).1 (q ▸ List.mem_map_of_mem hp)
theorem Cx.upd0 {a : Addr} {o o' : Obj} {h' : Heap} {t : Nat} (C : Cx X w s₀ G₀ G L m ((a, o) :: mu) s) (hs : Heap.SameBut a s.heap h') (ho : h'.get? a = some o') : Cx X w s₀ G₀ G L m ((a, o') :: mu) { s with heap := h', toks := t } := Cx.updMu (pre := []) C hs ho
-- a new object
theorem Wd.push {o : Obj} (W : Wd w G s) : Wd w G { s with heap := s.heap.push o } :=
  ⟨fun b o' e => Heap.get?_push_of_some _ (W.keep b o' e), W.kin, fun P hP => let ⟨ps, e, r⟩ := W.tabs P hP; ⟨ps, Heap.get?_push_of_some _ e, r⟩, W.off, W.bare⟩
theorem Ex.push {o : Obj} (Y : Ex X s₀ s) : Ex X s₀ { s with heap := s.heap.push o } := by
  refine ⟨fun b o' e n q => Heap.get?_push_of_some _ (Y.keep b o' e n q), fun P hP ps e => ?_, ?_, Y.os, Y.drawn, Y.gsz⟩
  · obtain ⟨more, q⟩ := Y.grow P hP ps e
    exact ⟨more, Heap.get?_push_of_some _ q⟩
  · show s₀.heap.objs.size ≤ (s.heap.push o).objs.size
    rw [Heap.size_push]; exact Nat.le_succ_of_le Y.size
theorem Wd.none_size (W : Wd w G s) : G s.heap.objs.size = none := by
  cases q : G s.heap.objs.size with
  | none => rfl
  | some o => exact absurd (Heap.lt_size (W.keep _ _ q)) (Nat.lt_irrefl _)
theorem Cx.push {o : Obj} (C : Cx X w s₀ G₀ G L m mu s) (hf : o.isFreed = false := by rfl) : Cx X w s₀ G₀ G L m ((s.heap.objs.size, o) :: mu) { s with heap := s.heap.push o } := by
  have lt := C.lt
  obtain ⟨f, hn, k⟩ := C.ns
  refine ⟨C.wd.push, ⟨C.ps.ex.push, C.ps.le, C.ps.fresh⟩, ⟨f, hn.keeps fun b o' e => Heap.get?_push_of_some _ e, k⟩, fun p hp => ?_, ?_, fun a ha => ?_, C.newL⟩
  · rcases List.mem_cons.mp hp with rfl | hp
    · exact Heap.get?_push_size _ hf
    · exact Heap.get?_push_of_some _ (C.st p hp)
  · have : s.heap.objs.size ∉ L :: mu.map (·.1) := fun q => Nat.lt_irrefl _ (lt _ q)
    simp only [List.map_cons]
    refine List.nodup_cons.mpr ⟨fun q => ?_, List.nodup_cons.mpr ⟨fun q => this (.tail _ q), (List.nodup_cons.mp C.nd).2⟩⟩
    rcases List.mem_cons.mp q with e | q
    · exact this (e ▸ .head _)
    · exact (List.nodup_cons.mp C.nd).1 q
  · simp only [List.map_cons] at ha
    rcases List.mem_cons.mp ha with rfl | ha
    · exact C.new _ (.head _)
    · rcases List.mem_cons.mp ha with rfl | ha
      · exact ⟨.inl C.ps.ex.size, C.wd.none_size, fun q => Nat.lt_irrefl _ (C.wd.tabs.lt q)⟩
      · exact C.new a (.tail _ ha)
def Km.put (G : Km) (a : Addr) (o : Obj) : Km := fun b => if b = a then some o else G b
theorem Km.put_self {a : Addr} {o : Obj} : G.put a o a = some o := if_pos rfl
theorem Km.put_le {a : Addr} {o : Obj} (h : G a = none) : G.le (G.put a o) := fun b o' e => by
  unfold Km.put
  split
  · rename_i q; rw [q, h] at e; cases e
  · exact e
-- an object of the call's own that turns no more
theorem Cx.freeze {a : Addr} {o : Obj} (C : Cx X w s₀ G₀ G L m ((a, o) :: mu) s) (hX : a ∉ X) : Cx X w s₀ G₀ (G.put a o) L m mu s := by
  obtain ⟨n1, n2, n3⟩ := C.new a (by simp)
  have nd := C.nd
  simp only [List.map_cons] at nd
  have La : L ≠ a := fun q => (List.nodup_cons.mp nd).1 (by simp [q])
  refine ⟨⟨fun b o' e => ?_, fun b o' e => Km.put_le n2 _ _ (C.wd.kin b o' e), C.wd.tabs, fun P hP => ?_, C.wd.bare⟩, ⟨C.ps.ex, C.ps.le.trans (Km.put_le n2), fun b e n => ?_⟩, C.ns, fun p hp => C.st p (.tail _ hp), ?_, fun b hb => ?_, C.newL⟩
  · unfold Km.put at e
    split at e
    · rename_i q; cases e; rw [q]; exact C.st _ (.head _)
    · exact C.wd.keep b o' e
  · unfold Km.put
    rw [if_neg (fun q : P = a => n3 (q ▸ hP))]; exact C.wd.off P hP
  · unfold Km.put at n
    split at n
    · rename_i q; rw [q]; exact n1.resolve_right hX
    · exact C.ps.fresh b e n
  · exact List.nodup_cons.mpr ⟨fun q => (List.nodup_cons.mp nd).1 (.tail _ q), (List.nodup_cons.mp (List.nodup_cons.mp nd).2).2⟩
  · have hb' : b ∈ L :: ((a, o) :: mu).map (·.1) := by
      rcases List.mem_cons.mp hb with rfl | hb
      · exact .head _
      · exact .tail _ (.tail _ hb)
    obtain ⟨k1, k2, k3⟩ := C.new b hb'
    refine ⟨k1, ?_, k3⟩
    unfold Km.put
    rw [if_neg]; exact k2
    intro q
    rcases List.mem_cons.mp hb with e | hb
    · exact La (e.symm.trans q)
    · exact (List.nodup_cons.mp (List.nodup_cons.mp nd).2).1 (q ▸ hb)
-- behind a call
theorem Cx.after (C : Cx X w s₀ G₀ G L m mu s) (W : Wd w G' s') (P : Ps [] s G s' G') : Cx X w s₀ G₀ G' L m mu s' := by
  obtain ⟨f, ⟨oL, es, ep, h1, h2⟩, k⟩ := C.ns
  refine ⟨W, C.ps.trans (P.more fun _ h => nomatch h), ⟨f, ⟨oL, es, ep, P.ex.keep L oL h1 (C.new L (.head _)).2.2 (fun h => nomatch h), h2⟩, k⟩, fun p hp => P.ex.keep _ _ (C.st p hp) (C.new p.1 (.tail _ (List.mem_map_of_mem hp))).2.2 (fun h => nomatch h), C.nd, fun a ha => ?_, C.newL⟩
  obtain ⟨n1, n2, n3⟩ := C.new a ha
  refine ⟨n1, ?_, n3⟩
  cases q : G' a with
  | none => rfl
  | some o => exact absurd (C.lt a ha) (Nat.not_lt.mpr (P.fresh a n2 (by rw [q]; exact fun z => nomatch z)))
end

-- behind a call that turns one object of the caller's
theorem Cx.afterX {pre post : List (Addr × Obj)} {d : Addr} {o o' : Obj} {X : List Addr} {w : World} {s₀ s s' : Shared} {G₀ G G' : Km} {L : Addr} {m : List (Str × Value)} (C : Cx X w s₀ G₀ G L m (pre ++ (d, o) :: post) s) (W : Wd w G' s') (P : Ps [d] s G s' G')
    (ho : s'.heap.get? d = some o') : Cx X w s₀ G₀ G' L m (pre ++ (d, o') :: post) s' := by
  have em : (pre ++ (d, o') :: post).map (·.1) = (pre ++ (d, o) :: post).map (·.1) := by simp
  have nd := C.nd
  simp only [List.map_append, List.map_cons] at nd
  have nd2 := (List.nodup_cons.mp nd).2
  have hm : d ∈ L :: (pre ++ (d, o) :: post).map (·.1) := by simp
  have Ld : L ≠ d := fun q => (List.nodup_cons.mp nd).1 (by simp [q])
  obtain ⟨f, ⟨oL, es, ep, h1, h2⟩, k⟩ := C.ns
  have K : ∀ b q, s.heap.get? b = some q → b ∉ tabL → b ≠ d → s'.heap.get? b = some q := fun b q e n z => P.ex.keep b q e n (by simp [z])
  refine ⟨W, ⟨⟨fun b q e n z => ?_, fun P' hP ps e => ?_, Nat.le_trans C.ps.ex.size P.ex.size, P.ex.os.trans C.ps.ex.os, P.ex.drawn.trans C.ps.ex.drawn, Nat.le_trans C.ps.ex.gsz P.ex.gsz⟩, C.ps.le.trans P.le, fun b e n => ?_⟩, ⟨f, ⟨oL, es, ep, K L oL h1 (C.new L (.head _)).2.2 Ld, h2⟩, k⟩, fun p hp => ?_, by rw [em]; exact C.nd, fun a ha => ?_, C.newL⟩
  · refine K b q (C.ps.ex.keep b q e n z) n fun y => ?_
    subst y
    exact (C.new b hm).1.elim (fun h => absurd (Heap.lt_size e) (Nat.not_lt.mpr h)) z
  · obtain ⟨m1, e1⟩ := C.ps.ex.grow P' hP ps e
    obtain ⟨m2, e2⟩ := P.ex.grow P' hP _ e1
    exact ⟨m1 ++ m2, by rw [e2, Array.append_assoc]⟩
  · cases q : G b with
    | none => exact Nat.le_trans C.ps.ex.size (P.fresh b q n)
    | some o => exact C.ps.fresh b e (by rw [q]; exact fun z => nomatch z)
  · rcases List.mem_append.mp hp with hp | hp
    · exact K _ _ (C.st p (List.mem_append.mpr (.inl hp))) (C.new p.1 (.tail _ (List.mem_map_of_mem (List.mem_append.mpr (.inl hp))))).2.2 fun q => (List.nodup_append.mp nd2).2.2 p.1 (List.mem_map_of_mem hp) d (.head _) q
    · rcases List.mem_cons.mp hp with rfl | hp
      · exact ho
      · exact K _ _ (C.st p (List.mem_append.mpr (.inr (.tail _ hp)))) (C.new p.1 (.tail _ (List.mem_map_of_mem (List.mem_append.mpr (.inr (.tail _ hp)))))).2.2 fun q => (List.nodup_cons.mp (List.nodup_append.mp nd2).2.1).1 (q ▸ List.mem_map_of_mem hp)
  · rw [em] at ha
    obtain ⟨n1, n2, n3⟩ := C.new a ha
    refine ⟨n1, ?_, n3⟩
    cases q : G' a with
    | none => rfl
    | some o => exact absurd (C.lt a ha) (Nat.not_lt.mpr (P.fresh a n2 (by rw [q]; exact fun z => nomatch z)))
-- new objects that a call hands over
structure Fresh (s s' : Shared) (G' : Km) (N : List (Addr × Obj)) : Prop where
  ok : ∀ p ∈ N, s'.heap.get? p.1 = some p.2 ∧ s.heap.objs.size ≤ p.1 ∧ G' p.1 = none ∧ p.1 ∉ tabL
  nd : (N.map (·.1)).Nodup
theorem Cx.adopt {X : List Addr} {w : World} {s₀ s s' : Shared} {G₀ G G' : Km} {L : Addr} {m : List (Str × Value)} {mu N : List (Addr × Obj)} (C : Cx X w s₀ G₀ G L m mu s) (W : Wd w G' s') (P : Ps [] s G s' G') (F : Fresh s s' G' N) : Cx X w s₀ G₀ G' L m (N ++ mu) s' := by
  have C' := C.after W P
  have lt := C.lt
  have far : ∀ p ∈ N, p.1 ∉ L :: mu.map (·.1) := fun p hp q => Nat.lt_irrefl _ (Nat.lt_of_lt_of_le (lt _ q) (F.ok p hp).2.1)
  refine ⟨C'.wd, C'.ps, C'.ns, fun p hp => (List.mem_append.mp hp).elim (fun h => (F.ok p h).1) (C'.st p), ?_, fun a ha => ?_, C.newL⟩
  · rw [List.map_append]
    refine List.nodup_cons.mpr ⟨fun q => ?_, List.nodup_append.mpr ⟨F.nd, (List.nodup_cons.mp C.nd).2, fun a ha b hb e => ?_⟩⟩
    · rcases List.mem_append.mp q with q | q
      · obtain ⟨p, hp, e⟩ := List.mem_map.mp q
        exact far p hp (e ▸ .head _)
      · exact (List.nodup_cons.mp C.nd).1 q
    · obtain ⟨p, hp, rfl⟩ := List.mem_map.mp ha
      exact far p hp (.tail _ (e ▸ hb))
  · rw [List.map_append] at ha
    rcases List.mem_cons.mp ha with rfl | ha
    · exact C'.new _ (.head _)
    · rcases List.mem_append.mp ha with ha | ha
      · obtain ⟨p, hp, rfl⟩ := List.mem_map.mp ha
        have x := F.ok p hp
        exact ⟨.inl (Nat.le_trans C.ps.ex.size x.2.1), x.2.2.1, x.2.2.2⟩
      · exact C'.new a (.tail _ ha)
-- room
def Rm (A : Around) (k : Nat) : Prop := A.handled = none ∧ A.depth + 4 * k ≤ 990 ∧ A.units + 60 * k ≤ 9800 ∧ ∃ fs, A.frames = some fs
theorem Rm.depth {A : Around} {k : Nat} (r : Rm A k) : A.depth < recursionLimit := by have := r.2.1; show A.depth < 1000; omega
theorem Rm.units {A : Around} {k : Nat} (r : Rm A k) : A.units < cLine := by have := r.2.2.1; show A.units < 9900; omega
theorem Rm.le {A : Around} {k k' : Nat} (r : Rm A k) (h : k' ≤ k) : Rm A k' := ⟨r.1, by have := r.2.1; omega, by have := r.2.2.1; omega, r.2.2.2⟩
-- part A2

abbrev MD (w : World) : Model := model PG w

def CellAt (G : Km) (c : Addr) (v : Value) : Prop := ∃ o, G c = some o ∧ o.data = .cell (some v)
theorem CellAt.mono {G G' : Km} {c : Addr} {v : Value} (h : G.le G') (x : CellAt G c v) : CellAt G' c v := let ⟨o, h1, h2⟩ := x; ⟨o, h _ _ h1, h2⟩
section
variable {X : List Addr} {w : World} {s₀ s s' : Shared} {G₀ G G' : Km} {L : Addr} {m m' : List (Str × Value)} {mu mu' : List (Addr × Obj)} {A : Around} {E : Value → Shared → Prop} {env : Env}

theorem R_local {x : Str} {pos : Pos} {v : Value} {Q : Value → Shared → Prop} (C : Cx X w s₀ G₀ G env.locals m mu s) (hv : m.lookup x = some v) (h : Q v s)
    (hk : env.scope.kind = .function) (hl : env.kindOf x = some .local) (hd : (x == ("__debug__" : Str)) = false) : wpAny (MD w) A (eval (.Name x pos) env) Q E s :=
  let ⟨_, hn, k⟩ := C.ns
  wpAny_Name (wpAny_loadName_local hk hl hn (k x v hv) h) hd
theorem R_cell {x : Str} {pos : Pos} {v : Value} {c : Addr} {Q : Value → Shared → Prop} (C : Cx X w s₀ G₀ G L m mu s) (hc : env.cells.lookup x = some c) (ho : CellAt G c v) (h : Q v s)
    (hk : env.scope.kind = .function) (hl : env.kindOf x = some .cell) (hd : (x == ("__debug__" : Str)) = false) : wpAny (MD w) A (eval (.Name x pos) env) Q E s :=
  wpAny_Name (wpAny_loadName_cell hk hl hc (let ⟨o, h1, h2⟩ := ho; ⟨o, C.get h1, h2⟩) h) hd
theorem R_free {x : Str} {pos : Pos} {v : Value} {c : Addr} {Q : Value → Shared → Prop} (C : Cx X w s₀ G₀ G L m mu s) (hc : env.cells.lookup x = some c) (ho : CellAt G c v) (h : Q v s)
    (hk : env.scope.kind = .function) (hl : env.kindOf x = some .free) (hd : (x == ("__debug__" : Str)) = false) (hn : (x == ("__classdict__" : Str)) = false) : wpAny (MD w) A (eval (.Name x pos) env) Q E s :=
  wpAny_Name (wpAny_loadName_free hk hl hc (let ⟨o, h1, h2⟩ := ho; ⟨o, C.get h1, h2⟩) h hn) hd
theorem nsIn_spec {K : Frag} {h : Heap} (X : K.In h) {ns : Addr} {name : Str} {r : Option Value} (e : nsIn K ns name = some r) (M : Model) : Looks M h (nsGet ns name) r := looks_nsIn X e
theorem R_glob {x : Str} {pos : Pos} {v : Value} {Q : Value → Shared → Prop} (C : Cx X w s₀ G₀ G L m mu s) (e : nsIn (K0 w.params) 3 x = some (some v)) (h : Q v s)
    (hk : env.scope.kind = .function) (hl : env.kindOf x = some .globalImplicit) (hg : env.globals = 3) (hd : (x == ("__debug__" : Str)) = false) : wpAny (MD w) A (eval (.Name x pos) env) Q E s := by
  refine Name_function_global hk hl ?_ hd
  show wpAny _ _ (loadGlobal env x) _ _ _
  unfold loadGlobal
  rw [hg]
  exact wpAny_bind ((looks_nsIn C.inn e).here (wpAny_pure h))
theorem R_bi {x : Str} {pos : Pos} {v : Value} {Q : Value → Shared → Prop} (C : Cx X w s₀ G₀ G L m mu s) (e : nsIn (K0 w.params) 3 x = some none) (e2 : nsIn (K0 w.params) 0 x = some (some v)) (h : Q v s)
    (hk : env.scope.kind = .function) (hl : env.kindOf x = some .globalImplicit) (hg : env.globals = 3) (hb : env.builtins = 0) (hd : (x == ("__debug__" : Str)) = false) : wpAny (MD w) A (eval (.Name x pos) env) Q E s := by
  refine Name_function_global hk hl ?_ hd
  show wpAny _ _ (loadGlobal env x) _ _ _
  unfold loadGlobal
  rw [hg, hb]
  exact wpAny_bind ((looks_nsIn C.inn e).here (wpAny_bind ((looks_nsIn C.inn e2).here (wpAny_pure h))))
theorem R_store {x : Str} {v : Value} {Q : Unit → Shared → Prop} (C : Cx X w s₀ G₀ G env.locals m mu s) (h : ∀ s', Cx X w s₀ G₀ G env.locals ((x, v) :: m) mu s' → Q () s')
    (hk : env.scope.kind = .function) (hl : env.kindOf x = some .local) : wpAny (MD w) A (storeName env x v) Q E s := by
  obtain ⟨f, hn, k⟩ := C.ns
  refine wpAny_storeName_local hl hn (fun h' hn' hs => h _ (C.setL hs hn' fun y u e => ?_)) (by rw [hk]; rfl)
  rw [List.lookup_cons] at e
  split at e
  · rename_i q; rw [if_pos (beq_iff_eq.mp q)]; exact e
  · rename_i q; rw [if_neg (beq_eq_false_iff_ne.mp q)]; exact k y u e
theorem R_int {i : Int} {k : Nat} {pos : Pos} {Q : Value → Shared → Prop} (C : Cx X w s₀ G₀ G L m mu s) (h : ∀ t s', Cx X w s₀ G₀ G L m mu s' → Q (.int i t) s') : wpAny (MD w) A (eval (.Constant (.int i) k pos) env) Q E s :=
  wpAny_Constant_int (h _ _ (C.toks _))
theorem R_str {x : Str} {k : Nat} {pos : Pos} {Q : Value → Shared → Prop} (C : Cx X w s₀ G₀ G L m mu s) (h : ∀ t s', Cx X w s₀ G₀ G L m mu s' → Q (.str x t) s') : wpAny (MD w) A (eval (.Constant (.str x) k pos) env) Q E s :=
  Calls.Constant_str (h _ _ (C.toks _))
theorem R_none {k : Nat} {pos : Pos} {Q : Value → Shared → Prop} (h : Q .none s) : wpAny (MD w) A (eval (.Constant .none k pos) env) Q E s := wpAny_pure h
theorem R_bool {b : Bool} {k : Nat} {pos : Pos} {Q : Value → Shared → Prop} (h : Q (.bool b) s) : wpAny (MD w) A (eval (.Constant (.bool b) k pos) env) Q E s := wpAny_pure h
end

-- entries of a dict by their keys' texts
def EsAre : List DictEntry → List (Str × Value) → Prop
  | [], [] => True
  | e :: es, p :: l => (∃ t, e.key = .str p.1 t) ∧ e.val = p.2 ∧ EsAre es l
  | _, _ => False
theorem EsAre.noRef : ∀ {es : List DictEntry} {l : List (Str × Value)}, EsAre es l → es.any (·.refKey) = false
  | [], [], _ => rfl
  | e :: es, p :: l, ⟨⟨t, h⟩, _, r⟩ => by
    rw [List.any_cons, r.noRef, Bool.or_false]
    unfold DictEntry.refKey
    rw [h]
theorem EsAre.get : ∀ {es : List DictEntry} {l : List (Str × Value)}, EsAre es l → ∀ name, getL name es = some (l.lookup name) := by
  intro es l h name
  have key : ∀ {es : List DictEntry} {l : List (Str × Value)}, EsAre es l → (es.find? (·.key.isStr name)).map (·.val) = l.lookup name := by
    intro es
    induction es with
    | nil => intro l h; cases l with | nil => rfl | cons => exact h.elim
    | cons e es ih =>
      intro l h
      cases l with
      | nil => exact h.elim
      | cons p l =>
        obtain ⟨⟨t, h1⟩, h2, h3⟩ := h
        obtain ⟨x, v⟩ := p
        rw [List.find?_cons, List.lookup_cons]
        have q : e.key.isStr name = (x == name) := by rw [h1]; rfl
        have q2 : (name == x) = (x == name) := by rw [Bool.eq_iff_iff, beq_iff_eq, beq_iff_eq]; exact ⟨Eq.symm, Eq.symm⟩
        rw [q, q2]
        cases x == name with
        | true => exact congrArg some h2
        | false => exact ih h3
  unfold getL
  rw [← key h, h.noRef]
  cases es.find? (·.key.isStr name) <;> rfl
def putA (x : Str) (v : Value) : List (Str × Value) → List (Str × Value)
  | [] => [(x, v)]
  | p :: r => if p.1 == x then (p.1, v) :: r else p :: putA x v r
theorem EsAre.put {x : Str} {v : Value} {hsh : Int} {t : Tok} : ∀ {es : List DictEntry} {l : List (Str × Value)}, EsAre es l → EsAre (putL x hsh (.str x t) v es) (putA x v l)
  | [], [], _ => ⟨⟨t, rfl⟩, rfl, trivial⟩
  | e :: es, p :: l, ⟨⟨u, h1⟩, h2, h3⟩ => by
    unfold putL putA
    have q : e.key.isStr x = (p.1 == x) := by rw [h1]; rfl
    rw [q]
    cases p.1 == x with
    | true => exact ⟨⟨u, h1⟩, rfl, h3⟩
    | false => exact ⟨⟨u, h1⟩, h2, h3.put⟩
theorem putL_len (x : Str) (hsh : Int) (k v : Value) : ∀ es : List DictEntry, (putL x hsh k v es).length ≤ es.length + 1
  | [] => Nat.le_refl _
  | e :: es => by
    unfold putL
    split
    · simp
    · simp only [List.length_cons]; have := putL_len x hsh k v es; omega

structure ObjIn (P : Addr → Obj → Prop) (a C d : Addr) (es : List DictEntry) (n : Nat) (l : List (Str × Value)) : Prop where
  at_ : P a (instObj C d)
  dict : P d (dictOf es n)
  es : EsAre es l
def ObjAt (G : Km) (a C : Addr) (l : List (Str × Value)) : Prop := ∃ d es n, G a = some (instObj C d) ∧ G d = some (dictOf es n) ∧ EsAre es l
theorem ObjAt.mono {G G' : Km} {a C : Addr} {l : List (Str × Value)} (h : G.le G') (x : ObjAt G a C l) : ObjAt G' a C l := let ⟨d, es, n, h1, h2, h3⟩ := x; ⟨d, es, n, h _ _ h1, h _ _ h2, h3⟩
-- the same for the heap at hand
def ObjH (h : Heap) (a C : Addr) (l : List (Str × Value)) : Prop := ∃ d es n, h.get? a = some (instObj C d) ∧ h.get? d = some (dictOf es n) ∧ EsAre es l
theorem ObjAt.here {w : World} {G : Km} {s : Shared} {a C : Addr} {l : List (Str × Value)} (W : Wd w G s) (x : ObjAt G a C l) : ObjH s.heap a C l := let ⟨d, es, n, h1, h2, h3⟩ := x; ⟨d, es, n, W.keep _ _ h1, W.keep _ _ h2, h3⟩
theorem ObjH.inst {h : Heap} {a C : Addr} {l : List (Str × Value)} (x : ObjH h a C l) : ∃ d es n, InstAt h a (instObj C d) C (some (dictOf es n)) ∧ EsAre es l :=
  let ⟨d, es, n, h1, h2, h3⟩ := x; ⟨d, es, n, ⟨h1, rfl, rfl, h2⟩, h3⟩

def attrOk (K : Frag) (C : Addr) (name : Str) : Bool := plainGet K C name && hasDictIn K C && (match findIn K (.ref C) name with | some a => noGet K a | none => false)
def methOk (K : Frag) (C : Addr) (name : Str) (f : Addr) : Bool := plainGet K C name && findIn K (.ref C) name == some (some (.ref f)) && isFn K (.ref f)
def putOk (K : Frag) (C : Addr) (name : Str) : Bool := findIn K (.ref C) "__setattr__" == some (some (.builtin "object.__setattr__")) && plainOver K C && (takerIn K C name == some none) && hasDictIn K C
section
variable {w : World} {A : Around} {E : Value → Shared → Prop} {s : Shared} {K : Frag} {a C : Addr} {l : List (Str × Value)} {name : Str}
theorem getattr_own {v : Value} {expr : Bool} {Q : Value → Shared → Prop} (X : K.In s.heap) (I : ObjH s.heap a C l) (hk : attrOk K C name = true) (hv : l.lookup name = some v) (hh : handedIn v = true) (h : Q v { s with toks := s.toks + 1 }) :
    wpAny (MD w) A (getAttr (.ref a) name expr) Q E s := by
  obtain ⟨d, es, n, I, he⟩ := I.inst
  unfold attrOk at hk
  simp only [Bool.and_eq_true] at hk
  obtain ⟨⟨h1, h2⟩, h3⟩ := hk
  split at h3
  · rename_i at' ha
    exact get_value X I (plainGet_of h1).1 (findObj_own h2 ha h3 (by rw [lookIn_dict, he.get, hv])) hh h
  · cases h3
theorem getmeth {f : Addr} {pl : Sem Bool} {Q : Value × List Value → Shared → Prop} (X : K.In s.heap) (I : ObjH s.heap a C l) (hk : methOk K C name f = true) (hv : l.lookup name = none) (h : Q (.ref f, [.ref a]) s) :
    wpAny (MD w) A (getMethod (.ref a) name pl) Q E s := by
  obtain ⟨d, es, n, I, he⟩ := I.inst
  unfold methOk at hk
  simp only [Bool.and_eq_true, beq_iff_eq] at hk
  obtain ⟨⟨h1, h2⟩, h3⟩ := hk
  exact method_fn X I (plainGet_of h1).1 (plainGet_of h1).2 h2 (beq_iff_eq.mp h3) (by show (lookIn name (dictOf es n)).map _ = _; rw [lookIn_dict, he.get, hv]; rfl) h
end

-- a bridge to the library's ledger: everything but the frame and one object stands in it
def allBut (h : Heap) (L d : Addr) : List (Addr × Obj) := (List.range h.objs.size).filterMap fun b => if b = L ∨ b = d then none else (h.get? b).map fun o => (b, o)
theorem mem_allBut {h : Heap} {L d b : Addr} {o : Obj} (e : h.get? b = some o) (hL : b ≠ L) (hd : b ≠ d) : (b, o) ∈ allBut h L d :=
  List.mem_filterMap.mpr ⟨b, List.mem_range.mpr (Heap.lt_size e), by rw [if_neg (fun q => q.elim hL hd), e]; rfl⟩
theorem of_allBut {h : Heap} {L d : Addr} {p : Addr × Obj} (hp : p ∈ allBut h L d) : h.get? p.1 = some p.2 ∧ p.1 ≠ L ∧ p.1 ≠ d := by
  obtain ⟨b, _, hb⟩ := List.mem_filterMap.mp hp
  split at hb
  · cases hb
  · rename_i q
    obtain ⟨o, ho, rfl⟩ := Option.map_eq_some_iff.mp hb
    exact ⟨ho, fun e => q (.inl e), fun e => q (.inr e)⟩
theorem heap0 (b : Addr) : ({} : Heap).get? b = none := by
  unfold Heap.get?
  simp
section
variable {X : List Addr} {w : World} {s₀ s s' : Shared} {G₀ G G' : Km} {L : Addr} {m m' : List (Str × Value)} {mu mu' pre post : List (Addr × Obj)} {A : Around} {E : Value → Shared → Prop}
theorem Fr.of_ns {h : Heap} {f : Str → Option Value} (hn : h.Ns L f) : Fr {} L h f := ⟨hn, fun b o e => by (rw [heap0] at e; cases e), Nat.zero_le _⟩
theorem news_allBut {d : Addr} {o : Obj} {h : Heap} (hd : h.get? d = some o) (hL : d ≠ L) : News {} L h ((d, o) :: allBut h L d) := fun p hp => by
  rcases List.mem_cons.mp hp with rfl | hp
  · exact ⟨hd, hL, heap0 _⟩
  · have x := of_allBut hp
    exact ⟨x.1, x.2.1, heap0 _⟩
theorem Cx.bridge {d : Addr} {o o' : Obj} {h' : Heap} {t : Nat} {f' : Str → Option Value} (C : Cx X w s₀ G₀ G L m (pre ++ (d, o) :: post) s) (F' : Fr {} L h' f') (hf' : ∀ x v, m'.lookup x = some v → f' x = some v)
    (N' : News {} L h' ((d, o') :: allBut s.heap L d)) : Cx X w s₀ G₀ G L m' (pre ++ (d, o') :: post) { s with heap := h', toks := t } := by
  have hm : d ∈ L :: (pre ++ (d, o) :: post).map (·.1) := by simp
  obtain ⟨n1, n2, n3⟩ := C.new d hm
  obtain ⟨k1, k2, k3⟩ := C.new L (.head _)
  have K : ∀ b q, s.heap.get? b = some q → b ≠ L → b ≠ d → h'.get? b = some q := fun b q e hL hd => (N' _ (.tail _ (mem_allBut e hL hd))).1
  have em : (pre ++ (d, o') :: post).map (·.1) = (pre ++ (d, o) :: post).map (·.1) := by simp
  have nd := C.nd
  simp only [List.map_append, List.map_cons] at nd
  have nd2 := (List.nodup_cons.mp nd).2
  have neL : ∀ p ∈ pre ++ (d, o) :: post, p.1 ≠ L := fun p hp q => (List.nodup_cons.mp C.nd).1 (q ▸ List.mem_map_of_mem hp)
  refine ⟨⟨fun b q e => K b q (C.get e) (fun z => by rw [z, k2] at e; cases e) (fun z => by rw [z, n2] at e; cases e), C.wd.kin, fun P hP => ?_, C.wd.off, C.wd.bare⟩,
    ⟨⟨fun b q e n y => K b q (C.ps.ex.keep b q e n y) (fun z => k1.elim (fun h => Nat.ne_of_lt (Nat.lt_of_lt_of_le (Heap.lt_size e) h) z) fun h => y (z ▸ h)) (fun z => n1.elim (fun h => Nat.ne_of_lt (Nat.lt_of_lt_of_le (Heap.lt_size e) h) z) fun h => y (z ▸ h)), fun P hP ps e => ?_, ?_, C.ps.ex.os, C.ps.ex.drawn, C.ps.ex.gsz⟩, C.ps.le, C.ps.fresh⟩,
    ⟨f', F'.ns, hf'⟩, fun p hp => ?_, by rw [em]; exact C.nd, by rw [em]; exact C.new, C.newL⟩
  · obtain ⟨ps, e, r⟩ := C.wd.tabs P hP
    exact ⟨ps, K P _ e (fun z => k3 (z ▸ hP)) (fun z => n3 (z ▸ hP)), r⟩
  · obtain ⟨more, q⟩ := C.ps.ex.grow P hP ps e
    exact ⟨more, K P _ q (fun z => k3 (z ▸ hP)) (fun z => n3 (z ▸ hP))⟩
  · show s₀.heap.objs.size ≤ h'.objs.size
    obtain ⟨_, _, _, h, _⟩ := F'.ns
    exact Nat.le_of_lt (Nat.lt_of_le_of_lt C.newL (Heap.lt_size h))
  · rcases List.mem_append.mp hp with hp | hp
    · exact K _ _ (C.st p (List.mem_append.mpr (.inl hp))) (neL p (List.mem_append.mpr (.inl hp))) fun q => (List.nodup_append.mp nd2).2.2 p.1 (List.mem_map_of_mem hp) d (.head _) q
    · rcases List.mem_cons.mp hp with rfl | hp
      · exact (N' _ (.head _)).1
      · exact K _ _ (C.st p (List.mem_append.mpr (.inr (.tail _ hp)))) (neL p (List.mem_append.mpr (.inr (.tail _ hp)))) fun q => (List.nodup_cons.mp (List.nodup_append.mp nd2).2.1).1 (q ▸ List.mem_map_of_mem hp)
theorem Cx.set {a d Cc : Addr} {es : List DictEntry} {n : Nat} {name : Str} {v : Value} {Q : Unit → Shared → Prop} (C : Cx X w s₀ G₀ G L m (pre ++ (d, dictOf es n) :: post) s) (ha : s.heap.get? a = some (instObj Cc d))
    (hk : putOk (K0 w.params) Cc name = true) {l : List (Str × Value)} (he : EsAre es l) (hz : es.length ≤ 900)
    (h : ∀ s' es' n', EsAre es' (putA name v l) → es'.length ≤ es.length + 1 → Cx X w s₀ G₀ G L m (pre ++ (d, dictOf es' n') :: post) s' → Q () s') : wpAny (MD w) A (setAttr (.ref a) name v) Q E s := by
  unfold putOk at hk
  simp only [Bool.and_eq_true, beq_iff_eq] at hk
  obtain ⟨⟨⟨h1, h2⟩, h3⟩, h4⟩ := hk
  have hd := C.getMu (a := d) (o := dictOf es n) (by simp)
  have I : InstAt s.heap a (instObj Cc d) Cc (some (dictOf es n)) := ⟨ha, rfl, rfl, hd⟩
  obtain ⟨f, hn, k⟩ := C.ns
  have dL : d ≠ L := fun q => (List.nodup_cons.mp C.nd).1 (q ▸ by simp)
  refine set_plain C.inn I h1 (osa_dict (s := { s with toks := s.toks + 1 }) (pre := []) (post := allBut s.heap L d) (Fr.of_ns hn) (news_allBut hd dL) C.inn I rfl h2 h3 h4 (by rw [lookIn_dict, he.get]; rfl) (fun _ hp => nomatch hp) (fun p hp => (of_allBut hp).2.2)
    (by rw [putName_dict]) rfl (Nat.le_trans (putL_len _ _ _ _ _) (by omega)) fun h' F' N' => ?_)
  exact h _ _ _ (he.put (hsh := PyData.keyHash w.params name) (t := s.toks + 1)) (putL_len _ _ _ _ _) (C.bridge F' k N')
end
-- part A3

theorem K0_two (P : Params) : (K0 P).lookup 2 = some ⟨.none, none, .dict #[] 0, #[]⟩ := by kernel_rfl
theorem Wd.nolimit {w : World} {G : Km} {s : Shared} (W : Wd w G s) : s.heap.NoLimit :=
  ⟨fun _ => none, ⟨_, #[], 0, W.inn 2 _ (K0_two _), rfl, (fun e he => by simp at he), fun _ => rfl⟩, rfl⟩

section
variable {X : List Addr} {w : World} {s₀ s s' : Shared} {G₀ G G' : Km} {L : Addr} {m m' : List (Str × Value)} {mu mu' : List (Addr × Obj)} {A : Around} {E : Value → Shared → Prop} {R : Result → Shared → Prop}

theorem Cx.start {h' : Heap} {t : Nat} {f : Str → Option Value} (W : Wd w G s) (k : ∀ b o, s.heap.get? b = some o → h'.get? b = some o) (hn : h'.Ns L f) (hL : s.heap.objs.size ≤ L) (hf : ∀ x v, m.lookup x = some v → f x = some v) : Cx [] w s G G L m [] { s with heap := h', toks := t } := by
  have lt : L < h'.objs.size := let ⟨_, _, _, h, _⟩ := hn; Heap.lt_size h
  have nG : G L = none := by
    cases q : G L with
    | none => rfl
    | some o => exact absurd (Heap.lt_size (W.keep _ _ q)) (Nat.not_lt.mpr hL)
  refine ⟨⟨fun b o e => k b o (W.keep b o e), W.kin, fun P hP => let ⟨ps, e, r⟩ := W.tabs P hP; ⟨ps, k _ _ e, r⟩, W.off, W.bare⟩, ⟨⟨fun b o e _ _ => k b o e, fun P hP ps e => ⟨#[], by rw [k _ _ e, Array.append_empty]⟩, ?_, rfl, rfl, Nat.le_refl _⟩, Km.le.refl G, fun _ e n => absurd e n⟩, ⟨f, hn, hf⟩,
    fun _ hp => (nomatch hp), by simp, fun a ha => ?_, hL⟩
  · exact Nat.le_of_lt (Nat.lt_of_le_of_lt hL lt)
  · simp only [List.map_nil, List.mem_singleton] at ha
    subst ha
    exact ⟨.inl hL, nG, fun q => absurd (W.tabs.lt q) (Nat.not_lt.mpr hL)⟩
theorem Rm.deeper {k : Nat} {env : Env} (r : Rm A (k + 1)) : Rm (A.deeper env) k := by
  obtain ⟨h1, h2, h3, fs, h4⟩ := r
  refine ⟨h1, ?_, ?_, env :: fs, ?_⟩
  · show A.depth + 1 + 4 * k ≤ 990; omega
  · show A.units + 3 + 60 * k ≤ 9800; omega
  · show A.frames.map _ = _; rw [h4]; rfl
theorem Rm.in1 {k : Nat} (r : Rm A (k + 1)) : Rm A.in1 k := ⟨r.1, by have := r.2.1; show A.depth + _ ≤ _; omega, by have := r.2.2.1; show A.units + 1 + _ ≤ _; omega, r.2.2.2⟩

abbrev fnObj (st : Stmt) (qual : Str) (cl : List (Str × Addr)) (dV pm cdv ct : Value) : Obj := ⟨.type "function", none, .func (fnAt st qual cl dV pm cdv ct), #[]⟩
theorem R_enter {f : Addr} {st : Stmt} {qual : Str} {cl : List (Str × Addr)} {dV pm cdv ct : Value} {args : List Value} {binds : List (Str × Value)} {k : Nat} (m : List (Str × Value))
    (hf : (K0 w.params).lookup f = some (fnObj st qual cl dV pm cdv ct)) (hcd : codeIn (K0 w.params) cdv qual = true) (W : Wd w G s) (rm : Rm A (k + 1))
    (hb : BindsTo s (fnAt st qual cl dV pm cdv ct) ⟨args, []⟩ binds) (hcell : ∀ x ∈ (fnScope st).names, x.2 ≠ .cell) (hloc : (binds.all fun x => decide ((fnScope st).names.lookup x.1 = some .local)) = true)
    (hm : binds.reverse = m) (hco : (fnScope st).isCoroutine = false) (hgen : (fnScope st).isGenerator = false) (hk : (fnScope st).kind = .function)
    (h : ∀ L s', Cx [] w s G G L m [] s' → Rm (A.deeper (envX qual (fnScope st) L f cdv cl)) k →
      wpAny (MD w) (A.deeper (envX qual (fnScope st) L f cdv cl)) (execs (fnBody st) (envX qual (fnScope st) L f cdv cl)) (fun fl s'' => R (.ok (.ret (match fl with | .ret v => v | _ => .none))) s'') (fun _ _ => False) s') :
    codeAny (MD w) A (.call (.ref f) ⟨args, []⟩) R s := by
  subst hm
  refine codeAny_call_def (fd := fnAt st qual cl dV pm cdv ct) (body := fnBody st) rm.depth (W.inn f _ hf) rfl W.nolimit (codeRec_of W.inn hcd) rfl hb hcell (locs hloc) (fun h₀ hn hk => ?_) hco hgen hk
  exact wpAny_mono (h _ _ (Cx.start W hk hn (Nat.le_refl _) fun x v e => e) rm.deeper) (fun _ _ z => z) fun _ _ z => z.elim
end
-- part A4

theorem fill : ∀ (w : World) (h : Heap), (K0 w.params).In h → Challenge.rw_bp5003_02 = Challenge.rw_bp5003_02 := by
  k_fill
  intros; rfl
theorem lk_tl {x y : Str} {v : Value} {m : List (Str × Value)} (h : (x == y) = false) : List.lookup x ((y, v) :: m) = List.lookup x m := by rw [List.lookup_cons, h]
section
variable {X : List Addr} {w : World} {s₀ s s' : Shared} {G₀ G G' : Km} {L : Addr} {m m' : List (Str × Value)} {mu mu' : List (Addr × Obj)} {A : Around} {E : Value → Shared → Prop}
theorem R_attr {a Cc : Addr} {l : List (Str × Value)} {name : Str} {v : Value} {expr : Bool} {attr : Option Value} {Q : Value → Shared → Prop} (C : Cx X w s₀ G₀ G L m mu s) (I : ObjH s.heap a Cc l)
    (h1 : plainGet (K0 w.params) Cc name = true) (h2 : hasDictIn (K0 w.params) Cc = true) (ha : findIn (K0 w.params) (.ref Cc) name = some attr) (hn : noGet (K0 w.params) attr = true)
    (hv : l.lookup name = some v) (hh : handedIn v = true) (h : ∀ s', Cx X w s₀ G₀ G L m mu s' → Q v s') : wpAny (MD w) A (getAttr (.ref a) name expr) Q E s :=
  getattr_own C.inn I (by unfold attrOk; rw [h1, h2, ha]; exact hn) hv hh (h _ (C.toks _))
theorem R_meth {a Cc f : Addr} {l : List (Str × Value)} {name : Str} {pl : Sem Bool} {Q : Value × List Value → Shared → Prop} (C : Cx X w s₀ G₀ G L m mu s) (I : ObjH s.heap a Cc l)
    (h1 : plainGet (K0 w.params) Cc name = true) (hf : findIn (K0 w.params) (.ref Cc) name = some (some (.ref f))) (ht : isFn (K0 w.params) (.ref f) = true) (hv : l.lookup name = none) (h : Q (.ref f, [.ref a]) s) :
    wpAny (MD w) A (getMethod (.ref a) name pl) Q E s := getmeth C.inn I (by unfold methOk; rw [h1, hf, ht]; simp) hv h
theorem ObjH.type {M : Model} {h : Heap} {a C : Addr} {l : List (Str × Value)} (I : ObjH h a C l) : Looks M h (typeOf (.ref a)) (.ref C) := let ⟨_, _, _, x, _⟩ := I.inst; x.type
-- the attributes of the classes' instances
abbrev sN (x : String) : Str := Str.ofString x
abbrev symL (nm : Str) (tp : Addr) (t1 t2 : Tok) : List (Str × Value) := [(Str.ofString "sort_order", .int 5 t1), (Str.ofString "args", .ref tp), (Str.ofString "isliteral", .bool true), (Str.ofString "iscanonical", .bool true), (Str.ofString "obj", .str nm t2)]
abbrev notL (tp : Addr) (li ca : Bool) (t1 : Tok) : List (Str × Value) := [(Str.ofString "sort_order", .none), (Str.ofString "args", .ref tp), (Str.ofString "isliteral", .bool li), (Str.ofString "iscanonical", .bool ca), (Str.ofString "operator", .str (Str.ofString "~") t1)]
abbrev grpL (k : Bool) (tp : Addr) (ca : Bool) (t1 t2 : Tok) : List (Str × Value) := [(Str.ofString "sort_order", .int (if k then 10 else 25) t1), (Str.ofString "args", .ref tp), (Str.ofString "isliteral", .bool false), (Str.ofString "iscanonical", .bool ca),
  (Str.ofString "operator", .str (if k then Str.ofString "&" else Str.ofString "|") t2), (Str.ofString "identity", .ref (if k then 284 else 288)), (Str.ofString "annihilator", .ref (if k then 288 else 284))]
-- TRUE and FALSE
abbrev trueL : List (Str × Value) := [(Str.ofString "args", .ref 286), (Str.ofString "isliteral", .bool false), (Str.ofString "sort_order", .int 0 519), (Str.ofString "iscanonical", .bool true)]
abbrev falseL : List (Str × Value) := [(Str.ofString "args", .ref 290), (Str.ofString "isliteral", .bool false), (Str.ofString "sort_order", .int 0 530), (Str.ofString "iscanonical", .bool true)]
theorem true_obj (W : Wd w G s) : ObjAt G 284 232 trueL :=
  ⟨283, [en w.params "args" 516 (.ref 286), en w.params "isliteral" 518 (.bool false), en w.params "sort_order" 521 (.int 0 519), en w.params "iscanonical" 523 (.bool true)], 4,
    W.kin 284 (instObj 232 283) (by k_is), W.kin 283 _ (by kernel_rfl), ⟨⟨_, rfl⟩, rfl, ⟨_, rfl⟩, rfl, ⟨_, rfl⟩, rfl, ⟨_, rfl⟩, rfl, trivial⟩⟩
theorem false_obj (W : Wd w G s) : ObjAt G 288 280 falseL :=
  ⟨287, [en w.params "args" 527 (.ref 290), en w.params "isliteral" 529 (.bool false), en w.params "sort_order" 532 (.int 0 530), en w.params "iscanonical" 534 (.bool true)], 4,
    W.kin 288 (instObj 280 287) (by k_is), W.kin 287 _ (by kernel_rfl), ⟨⟨_, rfl⟩, rfl, ⟨_, rfl⟩, rfl, ⟨_, rfl⟩, rfl, ⟨_, rfl⟩, rfl, trivial⟩⟩
end
-- part A5
-- a generator expression that all() runs, one turn of it at a time
section
variable {w : World} {A : Around} {R : Result → Shared → Prop}
abbrev gLoop (elt target iter : Expr) (scope : Scope) (pos : Pos) (I : Addr) (cenv : Env) : Code := .compLoop (.GeneratorExp elt [⟨target, iter, [], 0⟩] scope pos) 0 (.ref I) .none cenv
abbrev gStart (elt target iter : Expr) (scope : Scope) (pos : Pos) (I : Addr) (cenv : Env) : Code := .compStart (.GeneratorExp elt [⟨target, iter, [], 0⟩] scope pos) 0 (.ref I) .none cenv
structure GenJ (w : World) (B : Around) (a I : Addr) (g n : Nat) (cenv : Env) (elt target : Expr) (f : Nat → Bool) (J : Nat → Shared → Prop) (D Fi : Shared → Prop) : Prop where
  turn : ∀ i s E, i < n → J i s → wpAny (MD w) B (pyNext (.ref I)) (fun o s₁ => ∃ v, o = some v ∧ wpAny (MD w) B (letOwnedTupleGo target (.ref I) v) (fun _ s₂ => wpAny (MD w) B (assign target cenv v) (fun _ s₃ => wpAny (MD w) B (eval elt cenv) (fun y s₄ => y = .bool (f i) ∧ J (i + 1) s₄) E s₃) E s₂) E s₁) E s
  done : ∀ s E, J n s → wpAny (MD w) B (pyNext (.ref I)) (fun o s₁ => o = none ∧ D s₁) E s
  self : ∀ s E, J 0 s → wpAny (MD w) B (pyIter (.ref I)) (fun v s₁ => v = .ref I ∧ J 0 s₁) E s
  gen : ∀ i s, J i s → s.heap.IsGen a g ∧ s.heap.NoLimit ∧ g < s.gens.size
  set : ∀ i s x, J i s → x.bare = true → J i (s.setGen g x)
  fin : ∀ s x h', D s → x.bare = true → (∀ b o, s.heap.get? b = some o → h'.get? b = some o) → Fi { s.setGen g x with heap := h' }

def gP (D : Shared → Prop) : Nat → Shared → Shared → Prop := fun m _ s₁ => m = 0 ∧ D s₁
def gR (D : Shared → Prop) : GenEnd := fun m s₀ r s₁ => r = .ok .next ∧ gP D m s₀ s₁
def gY (n : Nat) (f : Nat → Bool) (J : Nat → Shared → Prop) : Protocol := fun m _ v s kap => ∃ i, i + m + 1 = n ∧ v = .bool (f i) ∧ J (i + 1) s ∧ ∀ s'', J (i + 1) s'' → kap (.send .none) s''

theorem seg_gLoop {a I : Addr} {g n : Nat} {cenv : Env} {elt target iter : Expr} {scope : Scope} {pos : Pos} {f : Nat → Bool} {J : Nat → Shared → Prop} {D Fi : Shared → Prop}
    (H : GenJ w (A.over (gLoop elt target iter scope pos I cenv) []) a I g n cenv elt target f J D Fi) (hco : cenv.scope.isCoroutine = false) : ∀ (k i : Nat) (s₀ s : Shared), i + k = n → J i s →
      Seg (MD w) A (gR D) (gY n f J) k s₀ (gLoop elt target iter scope pos I cenv) ((MD w).den (gLoop elt target iter scope pos I cenv)) [] s := by
  intro k
  induction k with
  | zero =>
    intro i s₀ s hk hj
    have hin : i = n := by omega
    subst hin
    show Seg _ A _ _ _ s₀ _ ((compTurn (.GeneratorExp elt [⟨target, iter, [], 0⟩] scope pos) 0 (.ref I) .none cenv).onRaise (leaving cenv)) [] s
    rw [compTurn_gen, Sem.onRaise_eq_wrap]
    refine seg_bind_wrap (wpAny_standAt ?_)
    refine seg_bind_wrap (wpAny_mono (H.done s _ hj) (fun o s₁ h => ?_) fun _ _ e => e)
    obtain ⟨rfl, h⟩ := h
    exact seg_end (.ok .next) ⟨rfl, rfl, h⟩
  | succ k ih =>
    intro i s₀ s hk hj
    show Seg _ A _ _ _ s₀ _ ((compTurn (.GeneratorExp elt [⟨target, iter, [], 0⟩] scope pos) 0 (.ref I) .none cenv).onRaise (leaving cenv)) [] s
    rw [compTurn_gen, Sem.onRaise_eq_wrap]
    refine seg_bind_wrap (wpAny_standAt ?_)
    refine seg_bind_wrap (wpAny_mono (H.turn i s _ (by omega) hj) (fun o s₁ h => ?_) fun _ _ e => e)
    obtain ⟨v, rfl, h⟩ := h
    refine seg_bind_wrap (wpAny_mono h (fun _ s₂ h => ?_) fun _ _ e => e)
    refine seg_bind_wrap (wpAny_mono h (fun _ s₃ h => ?_) fun _ _ e => e)
    refine seg_bind_wrap (wpAny_pure ?_)
    simp only [if_true]
    have hy : ∀ v, yieldOut cenv v = yieldValue v := fun v => by simp only [yieldOut, hco, Bool.false_eq_true, if_false]
    simp only [hy]
    rw [Sem.bind_eq_wrap', Sem.bind_eq_wrap', Sem.wrap_wrap, Sem.wrap_wrap]
    refine seg_wrap (wpAny_mono h (fun y s₄ h₄ => ?_) fun _ _ e => e)
    obtain ⟨rfl, h₄⟩ := h₄
    exact seg_at (seg_yield rfl rfl rfl ⟨i, by omega, rfl, h₄, fun s'' h'' => seg_again rfl (ih (i + 1) s'' s'' (by omega) h'')⟩)

theorem seg_gStart {a I : Addr} {g n : Nat} {cenv : Env} {elt target iter : Expr} {scope : Scope} {pos : Pos} {f : Nat → Bool} {J : Nat → Shared → Prop} {D Fi : Shared → Prop}
    (H : GenJ w (A.over (gLoop elt target iter scope pos I cenv) []) a I g n cenv elt target f J D Fi) (hco : cenv.scope.isCoroutine = false) (s₀ s : Shared) (hj : J 0 s) :
      Seg (MD w) A (gR D) (gY n f J) n s₀ (gStart elt target iter scope pos I cenv) ((MD w).den (gStart elt target iter scope pos I cenv)) [] s := by
  have loop := seg_gLoop (iter := iter) (scope := scope) (pos := pos) H hco n 0 s₀
  show Seg _ A _ _ _ s₀ _ ((compStart (.GeneratorExp elt [⟨target, iter, [], 0⟩] scope pos) 0 (.ref I) .none cenv).onRaise (leaving cenv)) [] s
  unfold compStart
  rw [Sem.onRaise_eq_wrap]
  show Seg _ A _ _ _ s₀ _ ((ask >>= _).wrap _ _ _ _) [] s
  refine seg_bind_wrap (wpAny_askSetting ?_)
  split
  · exact seg_again rfl (loop s (Nat.zero_add _) hj)
  · refine seg_bind_wrap (wpAny_rule ?_)
    show Seg _ A _ _ _ s₀ _ ((standAt iter.pos >>= _).wrap _ _ _ _) [] s
    refine seg_bind_wrap (wpAny_standAt (seg_bind_wrap (wpAny_mono (H.self s _ hj) (fun v s₁ h => ?_) fun _ _ e => e)))
    obtain ⟨rfl, h⟩ := h
    exact seg_again rfl (loop s₁ (Nat.zero_add _) h)

theorem all_gLoop {a I : Addr} {g n : Nat} {cenv : Env} {elt target iter : Expr} {scope : Scope} {pos : Pos} {f : Nat → Bool} {J : Nat → Shared → Prop} {D Fi : Shared → Prop}
    (H : GenJ w (A.in1.in1.over (gLoop elt target iter scope pos I cenv) []) a I g n cenv elt target f J D Fi) (hh : A.handled = none) (hroom : A.depth < recursionLimit)
    (hR1 : ∀ s, (∀ j, j < n → f j = true) → Fi s → R (.ok (.ret (.bool true))) s) (hR2 : ∀ i s, i < n → f i = false → J (i + 1) s → R (.ok (.ret (.bool false))) s) : ∀ (k i : Nat) (s : Shared), i + k = n → J i s → (∀ j, j < i → f j = true) →
    (∃ gs, s.gens[g]? = some gs ∧ gs.Goes (MD w) A.in1.in1 (gR D) (gY n f J) k (.send .none) (s.setGen g .running)) →
    codeAny (MD w) A (.builtin "all.loop" ⟨[.ref a], []⟩) R s := by
  intro k
  induction k with
  | zero =>
    intro i s hk hj ht hg
    obtain ⟨gs, hgs, hgo⟩ := hg
    have hin : i = n := by omega
    subst hin
    obtain ⟨g1, g2, g3⟩ := H.gen _ _ hj
    refine codeAny_builtin F.entry_all_loop ?_
    rw [Around.under_plainId F.plain_all_loop _]
    show wpAny _ A.in1 (pyNext (.ref a) >>= _) _ _ s
    refine wpAny_bind (wpAny_pyNext_genexpQ (P := gP D) (A := A.in1) hh g2 hroom g1 hgs hgo (fun v s₁ gs' _ hv => ?_) (fun s₁ hp h' hk' => ?_))
    · obtain ⟨j, _, _, hJ, hk⟩ := hv
      exact (show False from hk _ hJ).elim
    · refine wpAny_bind (wpAny_rule (wpAny_pure ?_))
      exact hR1 _ ht (H.fin s₁ .finished h' hp.2 rfl hk')
  | succ k ih =>
    intro i s hk hj ht hg
    obtain ⟨gs, hgs, hgo⟩ := hg
    obtain ⟨g1, g2, g3⟩ := H.gen _ _ hj
    refine codeAny_builtin F.entry_all_loop ?_
    rw [Around.under_plainId F.plain_all_loop _]
    show wpAny _ A.in1 (pyNext (.ref a) >>= _) _ _ s
    refine wpAny_bind (wpAny_pyNext_genexpQ (P := gP D) (A := A.in1) hh g2 hroom g1 hgs hgo (fun v s₁ gs' hb hv => ?_) (fun s₁ hp h' hk' => ?_))
    · obtain ⟨j, hj, rfl, hJ, hkap⟩ := hv
      have : j = i := by omega
      subst this
      refine wpAny_bind (wpAny_holding (wpAny_pure ?_))
      refine wpAny_bind (wpAny_letGo ?_)
      have hJ' := H.set _ _ gs' hJ hb
      cases hf : f j with
      | true =>
        simp only [if_true]
        refine wpAny_pure ⟨plainId_quiet F.plain_all_loop _, ih (j + 1) _ (by omega) hJ' (fun l hl => ?_) ⟨gs', ?_, hkap _ (H.set _ _ _ hJ' rfl)⟩⟩
        · rcases Nat.lt_succ_iff_lt_or_eq.mp hl with hl | rfl
          · exact ht l hl
          · exact hf
        · show (s₁.gens.setIfInBounds g gs')[g]? = some gs'
          have := (H.gen _ _ hJ).2.2
          simp [this]
      | false =>
        simp only [Bool.false_eq_true, if_false]
        refine wpAny_bind (wpAny_rule (wpAny_pure ?_))
        exact hR2 j _ (by omega) hf hJ'
    · exact absurd hp.1 (Nat.succ_ne_zero k)
end
-- part A6
abbrev tupObj (vs : List Value) : Obj := { cls := .type "tuple", data := .seq vs.toArray 0 }
def TupAt (G : Km) (t : Addr) (vs : List Value) : Prop := G t = some (tupObj vs)
theorem TupAt.mono {G G' : Km} {t : Addr} {vs : List Value} (h : G.le G') (x : TupAt G t vs) : TupAt G' t vs := h _ _ x
theorem TupAt.tup {w : World} {G : Km} {s : Shared} {t : Addr} {vs : List Value} (W : Wd w G s) (x : TupAt G t vs) : IsTup s.heap t vs.toArray := ⟨_, W.keep _ _ x, rfl, 0, rfl⟩
section
variable {X : List Addr} {w : World} {s₀ s s' : Shared} {G₀ G G' : Km} {L : Addr} {m m' : List (Str × Value)} {mu mu' : List (Addr × Obj)} {A : Around} {E : Value → Shared → Prop}
-- the heap keeps all, generators may come and go
theorem Cx.grown {h' : Heap} {gs : Array GenState} {t : Nat} (C : Cx X w s₀ G₀ G L m mu s) (hk : ∀ b o, s.heap.get? b = some o → h'.get? b = some o) (hg : AllBare gs) (hz : s.gens.size ≤ gs.size) :
    Cx X w s₀ G₀ G L m mu { s with heap := h', gens := gs, toks := t } := by
  obtain ⟨f, hn, k⟩ := C.ns
  have hn' : h'.Ns L f := hn.keeps hk
  refine ⟨⟨fun b o e => hk b o (C.wd.keep b o e), C.wd.kin, fun P hP => let ⟨ps, e, r⟩ := C.wd.tabs P hP; ⟨ps, hk _ _ e, r⟩, C.wd.off, hg⟩,
    ⟨⟨fun b o e n q => hk b o (C.ps.ex.keep b o e n q), fun P hP ps e => let ⟨more, q⟩ := C.ps.ex.grow P hP ps e; ⟨more, hk _ _ q⟩, ?_, C.ps.ex.os, C.ps.ex.drawn, Nat.le_trans C.ps.ex.gsz hz⟩, C.ps.le, C.ps.fresh⟩,
    ⟨f, hn', k⟩, fun p hp => hk _ _ (C.st p hp), C.nd, C.new, C.newL⟩
  obtain ⟨_, _, _, h, _⟩ := hn'
  exact Nat.le_of_lt (Nat.lt_of_le_of_lt C.newL (Heap.lt_size h))
-- an object of the call's own that is known no more
theorem Cx.lose {a : Addr} {o : Obj} {h' : Heap} {t : Nat} (C : Cx X w s₀ G₀ G L m ((a, o) :: mu) s) (hk : Heap.ExtBut a s.heap h') : Cx X w s₀ G₀ G L m mu { s with heap := h', toks := t } := by
  obtain ⟨n1, n2, n3⟩ := C.new a (by simp)
  have nd := C.nd
  simp only [List.map_cons] at nd
  have La : L ≠ a := fun q => (List.nodup_cons.mp nd).1 (by simp [q])
  obtain ⟨f, ⟨oL, es, ep, h1, h2⟩, k⟩ := C.ns
  refine ⟨⟨fun b o e => hk b o (fun z => by rw [z, n2] at e; cases e) (C.wd.keep b o e), C.wd.kin, fun P hP => let ⟨ps, e, r⟩ := C.wd.tabs P hP; ⟨ps, hk _ _ (fun z => n3 (z ▸ hP)) e, r⟩, C.wd.off, C.wd.bare⟩,
    ⟨⟨fun b o e n q => hk b o (fun z => n1.elim (fun h => Nat.ne_of_lt (Nat.lt_of_lt_of_le (Heap.lt_size e) h) z) fun h => q (z ▸ h)) (C.ps.ex.keep b o e n q), fun P hP ps e => let ⟨more, q⟩ := C.ps.ex.grow P hP ps e; ⟨more, hk _ _ (fun z => n3 (z ▸ hP)) q⟩, ?_, C.ps.ex.os, C.ps.ex.drawn, C.ps.ex.gsz⟩, C.ps.le, C.ps.fresh⟩,
    ⟨f, ⟨oL, es, ep, hk _ _ La h1, h2⟩, k⟩, fun p hp => hk _ _ (fun z => (List.nodup_cons.mp (List.nodup_cons.mp nd).2).1 (z ▸ List.mem_map_of_mem hp)) (C.st p (.tail _ hp)), ?_, fun b hb => C.new b ?_, C.newL⟩
  · exact Nat.le_of_lt (Nat.lt_of_le_of_lt C.newL (Heap.lt_size (hk _ _ La h1)))
  · exact List.nodup_cons.mpr ⟨fun q => (List.nodup_cons.mp nd).1 (.tail _ q), (List.nodup_cons.mp (List.nodup_cons.mp nd).2).2⟩
  · rcases List.mem_cons.mp hb with rfl | hb
    · exact .head _
    · exact .tail _ (.tail _ hb)
theorem Rm.over {k : Nat} {e : Expr} {it : Addr} {cenv : Env} {elt : Expr} {gs : List Comprehension} {scope : Scope} {pos : Pos} (r : Rm A (k + 1)) :
    Rm (A.in1.in1.in1.over (.compLoop (.GeneratorExp elt gs scope pos) 0 (.ref it) .none cenv) []) k := by
  obtain ⟨h1, h2, h3, fs, h4⟩ := r
  refine ⟨h1, ?_, ?_, cenv :: fs, ?_⟩
  · show A.depth + 0 + 1 + 4 * k ≤ 990; omega
  · show A.units + 1 + 1 + 1 + 0 + 3 + 60 * k ≤ 9800; omega
  · show pushEnvs [cenv] (pushEnvs [] A.frames) = _
    rw [h4]; rfl
end
-- part A7
def codeTabOk (K : Frag) (c P : Addr) : Bool :=
  match K.lookup c with
  | some o => (match o.cls, o.data with
    | .type "code", .fields vs => (match vs[11]?, vs[18]?, vs[7]?, vs[9]?, vs[10]? with
      | some (Value.ref P'), some (Value.str _ _), some (Value.int _ _), some (Value.bool _), some (Value.int _ _) => P' == P
      | _, _, _, _, _ => false)
    | _, _ => false)
  | none => false
theorem codeTab_of {K : Frag} {h : Heap} {c P : Addr} {ps : Array Value} (X : K.In h) (hk : codeTabOk K c P = true) (hP : h.get? P = some (tabObj ps)) (ht : TriplesOk ps.toList) (hne : c ≠ P) : h.IsCode c P ps ∧ h.TableAt c P ps := by
  unfold codeTabOk at hk
  split at hk
  · rename_i o ho
    split at hk
    · rename_i vs hc hd
      split at hk
      · rename_i P' x1 x2 x3 x4 x5 x6 x7 x8 e11 e18 e7 e9 e10
        have := beq_iff_eq.mp hk
        subst this
        have ho := X _ _ ho
        have gd : ∀ {i : Nat} {v : Value}, vs[i]? = some v → vs.getD i .none = v := fun {i v} e => by
          rw [Array.getD_eq_getD_getElem?, e]; rfl
        exact ⟨⟨o, vs, _, _, _, _, _, _, _, _, ho, hd, gd e11, gd e18, gd e7, gd e9, gd e10, hP, rfl, ht, hne⟩, ⟨o, vs, ho, hc, hd, e11⟩, hP⟩
      · cases hk
    · cases hk
  · cases hk
section
variable {X : List Addr} {w : World} {s₀ s s' : Shared} {G₀ G G' : Km} {L : Addr} {m m' : List (Str × Value)} {mu mu' : List (Addr × Obj)} {A : Around} {E : Value → Shared → Prop}
-- the code object of a generator expression: the table may grow
theorem R_gcode {env : Env} {c P : Addr} {pos : Pos} {qualname : Str} {scope : Scope} {Q : Value → Shared → Prop} (W : Wd w G s) (hc : env.code = .ref c) (hk : codeTabOk (K0 w.params) c P = true) (hP : P ∈ tabL) (hcP : c ≠ P)
    (h : ∀ code s', Wd w G s' → Ps [] s G s' G → (∀ b o, b ≠ P → s.heap.get? b = some o → s'.heap.get? b = some o) → s'.gens = s.gens → Q code s') : wpAny (MD w) A (genexprCode env pos qualname scope) Q E s := by
  obtain ⟨ps, e, ht⟩ := W.tabs P hP
  obtain ⟨x1, x2⟩ := codeTab_of W.inn hk e ht hcP
  cases hnf : codeAmong pos ps.toList with
  | some cv => exact wpAny_genexprCode_hit hc x1 hnf (h cv s W (Ps.refl _ _ _) (fun b o _ e => e) rfl)
  | none =>
    refine wpAny_genexprCodeX hc x1 x2 hnf fun c' h' tk hx hc' hlt hic hrec htab _ => ?_
    have keep : ∀ b o, b ≠ P → s.heap.get? b = some o → h'.get? b = some o := fun b o n e => hx b o n e
    have hPn : G P = none := W.off P hP
    refine h _ _ ⟨fun b o e => keep b o (fun z => by rw [z, hPn] at e; cases e) (W.keep b o e), W.kin, fun P' hP' => ?_, W.off, W.bare⟩ ⟨⟨fun b o e n _ => keep b o (fun z => n (z ▸ hP)) e, fun P' hP' ps' e' => ?_, ?_, rfl, rfl, Nat.le_refl _⟩, Km.le.refl G, fun _ e n => absurd e n⟩ keep rfl
    · by_cases q : P' = P
      · subst q
        refine ⟨_, htab.2, ?_⟩
        rw [Array.toList_append]
        exact TriplesOk_snoc _ _ _ _ ht
      · obtain ⟨ps', e', r⟩ := W.tabs P' hP'
        exact ⟨ps', keep _ _ q e', r⟩
    · by_cases q : P' = P
      · subst q
        rw [e] at e'
        cases e'
        exact ⟨_, htab.2⟩
      · exact ⟨#[], by rw [Array.append_empty]; exact keep _ _ q e'⟩
    · exact Nat.le_of_lt (Nat.lt_of_le_of_lt hc' hlt)
theorem R_bfor {n : Nat} {globals running bm : Addr} {o : Obj} {Q : Addr → Shared → Prop} (W : Wd w G s) (hb : nsIn (K0 w.params) globals "__builtins__" = some (some (.ref bm))) (hne : bm ≠ builtinsNs)
    (ho : (K0 w.params).lookup bm = some o) (hcls : o.cls = .type "module") (hdict : o.dict = some builtinsNs) (hdata : o.data = .plain) (h : Q builtinsNs s) : wpAny (MD w) A (builtinsFor globals running) Q E s := by
  unfold builtinsFor
  refine wpAny_bind ((looks_nsIn W.inn hb).here ?_)
  show wpAny _ A (if (bm == builtinsNs) = true then _ else _) Q E s
  rw [if_neg (by simpa using hne)]
  refine wpAny_bind (wpAny_load (W.inn _ _ ho) ?_)
  rw [hdata, hdict, hcls]
  exact wpAny_pure h
end
-- part A8
section
variable {X : List Addr} {w : World} {s₀ s s' : Shared} {G₀ G G' : Km} {L : Addr} {m m' : List (Str × Value)} {mu mu' : List (Addr × Obj)} {A : Around} {E : Value → Shared → Prop}
abbrev itObj (t : Addr) (i : Nat) (o : Obj) : Prop := o.cls = .type "tuple_iterator" ∧ o.data = .fields #[.ref t, .int i 0]
abbrev genObj (g : Nat) (q : Str) (t1 t2 : Tok) : Obj := { cls := .type "generator", data := .fields #[.int g 0, .str "<genexpr>" t1, .str q t2] }
theorem bare_set {gs : Array GenState} {g : Nat} {x : GenState} (h : AllBare gs) (hx : x.bare = true) : AllBare (gs.setIfInBounds g x) := fun y hy => by
  rcases Array.mem_or_eq_of_mem_setIfInBounds hy with q | q
  · exact h y q
  · exact q ▸ hx
theorem nat_all {n : Nat} {f : Nat → Bool} (h : ∀ j, j < n → f j = true) : (List.range n).all f = true := List.all_eq_true.mpr fun x hx => h x (List.mem_range.mp hx)
theorem nat_not_all {n i : Nat} {f : Nat → Bool} (hi : i < n) (h : f i = false) : (List.range n).all f = false := by
  cases q : (List.range n).all f with
  | false => rfl
  | true => rw [List.all_eq_true.mp q i (List.mem_range.mpr hi)] at h; cases h

theorem R_allgen {env : Env} {elt iter : Expr} {x : Str} {px pos pos' pn : Pos} {scope : Scope} {cl : List (Str × Addr)} {c P t : Addr} {vs : List Value} {f : Nat → Bool} {k : Nat} {Q : Value → Shared → Prop}
    (C : Cx X w s₀ G₀ G env.locals m mu s) (rm : Rm A (k + 2)) (hfn : env.scope.kind = .function) (hall : env.kindOf "all" = some .globalImplicit) (hg : env.globals = 3) (hb : env.builtins = 0)
    (hc : env.code = .ref c) (hk : codeTabOk (K0 w.params) c P = true) (hP : P ∈ tabL) (hcP : c ≠ P)
    (hco : scope.isCoroutine = false) (hclos : closureFor scope env = pure cl) (hcell : ∀ y ∈ scope.names, y.2 ≠ .cell) (h0 : scope.names.lookup (".0" : Str) = some NameKind.local)
    (hx : scope.names.lookup x = some .local) (hkind : scope.kind = .function) (hs : ∀ x, genFold iter env x = pure x)
    (hn3 : nsIn (K0 w.params) 3 "all" = some none) (hn0 : nsIn (K0 w.params) 0 "all" = some (some (.builtin "all"))) (hbu : nsIn (K0 w.params) 3 "__builtins__" = some (some (.ref 4)))
    (hm4 : (K0 w.params).lookup 4 = some ⟨.type "module", some 0, .plain, #[]⟩)
    (hiter : ∀ Q' : Value → Shared → Prop, (∀ s', Cx X w s₀ G₀ G env.locals m mu s' → Q' (.ref t) s') → wpAny (MD w) A (eval iter env) Q' E s)
    (ht : TupAt G t vs)
    (helt : ∀ sb i v G' L' cd s' mu' A' E', vs[i]? = some v → G.le G' → Cx [] w sb G G' L' [(x, v)] mu' s' → Rm A' k →
      wpAny (MD w) A' (eval elt (genEnv scope cl L' cd 0 env)) (fun y s'' => ∃ G'', y = .bool (f i) ∧ Cx [] w sb G G'' L' [] mu' s'') E' s')
    (hQ : ∀ s' G', Cx X w s₀ G₀ G' env.locals m mu s' → G.le G' → Q (.bool ((List.range vs.length).all f)) s') :
    wpAny (MD w) A (eval (.Call (.Name "all" pn) [.GeneratorExp elt [⟨.Name x px, iter, [], 0⟩] scope pos] [] pos') env) Q E s := by
  refine Call_ (R_bi C hn3 hn0 ?_ hfn hall hg hb (by decide))
  refine callWith_builtin1 (args_cons ?_)
  refine wpAny_GeneratorExp_make hco hclos hcell h0 hkind rm.depth ?_ hs
  refine hiter _ fun sb Cb => ?_
  refine iter_tuple (ht.tup Cb.wd) ?_
  have C1 := Cb.push (o := { cls := .type "tuple_iterator", data := .fields #[.ref t, .int 0 0] })
  refine ⟨C1.wd.nolimit, ?_⟩
  generalize hI : sb.heap.objs.size = I at C1 ⊢
  refine R_gcode C1.wd hc hk hP hcP fun code s3 W3 P3 hkp hgs3 => ?_
  have C3 := C1.after W3 P3
  refine R_bfor (n := 0) C3.wd (by rw [hg]; exact hbu) (by decide) hm4 rfl rfl rfl ?_
  intro h' hn' hs'
  refine args_nil ?_
  -- the state with the generator
  have keep' : ∀ b o, s3.heap.get? b = some o → h'.get? b = some o := fun b o e => hs'.extBut b o (Nat.ne_of_lt (Heap.lt_size e)) (Heap.get?_push_of_some _ e)
  have hsz : h'.objs.size = s3.heap.objs.size + 1 := by rw [hs'.1, Heap.size_push]
  generalize hq : env.qual ++ "<genexpr>" = q
  generalize ha : h'.objs.size = a
  generalize hL' : s3.heap.objs.size = L' at hn' hs' hsz
  generalize hgg : s3.gens.size = g
  generalize hcc : genEnv scope cl L' code builtinsNs env = cenv
  have keep5 : ∀ b o, s3.heap.get? b = some o → (h'.push (genObj g q (s3.toks + 1) (s3.toks + 1 + 1))).get? b = some o := fun b o e => Heap.get?_push_of_some _ (keep' b o e)
  have hIlt : I < s3.heap.objs.size := Heap.lt_size (C3.st (I, _) (.head _))
  have hIb : sb.heap.objs.size ≤ I := by rw [← hI]; exact Nat.le_refl _
  have P3b : Ps [] sb G s3 G := by
    refine Ps.trans (G' := G) ⟨?_, Km.le.refl G, fun _ e n => absurd e n⟩ P3
    exact Ex.push (Ex.refl [] sb)
  have W5 : Wd w G { s3 with gens := s3.gens.push (.fresh (gStart elt (.Name x px) iter scope pos I cenv)), toks := s3.toks + 1 + 1 + 1, heap := h'.push (genObj g q (s3.toks + 1) (s3.toks + 1 + 1)) } :=
    ⟨fun b o e => keep5 b o (W3.keep b o e), W3.kin, fun P hP => let ⟨ps, e, r⟩ := W3.tabs P hP; ⟨ps, keep5 _ _ e, r⟩, W3.off, W3.bare.push rfl⟩
  generalize hs5 : ({ s3 with gens := s3.gens.push (.fresh (gStart elt (.Name x px) iter scope pos I cenv)), toks := s3.toks + 1 + 1 + 1, heap := h'.push (genObj g q (s3.toks + 1) (s3.toks + 1 + 1)) } : Shared) = s5 at *
  have h5g : s5.gens = s3.gens.push (.fresh (gStart elt (.Name x px) iter scope pos I cenv)) := by rw [← hs5]
  have h5h : s5.heap = h'.push (genObj g q (s3.toks + 1) (s3.toks + 1 + 1)) := by rw [← hs5]
  have h5o : s5.os = s3.os := by rw [← hs5]
  have h5d : nod s5.drawn = nod s3.drawn := rfl
  rw [← h5h] at keep5
  let sb' : Shared := { sb with gens := s5.gens }
  have C5 : Cx [] w sb' G G L' [] [(I, { cls := .type "tuple_iterator", data := .fields #[.ref t, .int 0 0] }), (a, genObj g q (s3.toks + 1) (s3.toks + 1 + 1))]
      s5 := by
    have hLb : sb.heap.objs.size ≤ L' := by rw [← hL']; exact P3b.ex.size
    have nG : ∀ z, s3.heap.objs.size ≤ z → G z = none := fun z hz => by
      cases e : G z with
      | none => rfl
      | some o => exact absurd (Heap.lt_size (W3.keep _ _ e)) (Nat.not_lt.mpr hz)
    have nT : ∀ z, s3.heap.objs.size ≤ z → z ∉ tabL := fun z hz q => absurd (W3.tabs.lt q) (Nat.not_lt.mpr hz)
    refine ⟨W5, ⟨⟨fun b o e n y => keep5 b o (P3b.ex.keep b o e n y), fun P hP ps e => let ⟨more, q⟩ := P3b.ex.grow P hP ps e; ⟨more, keep5 _ _ q⟩, ?_, h5o.trans P3b.ex.os, h5d.trans P3b.ex.drawn, Nat.le_refl _⟩, Km.le.refl G, fun _ e n => absurd e n⟩,
      ⟨_, h5h ▸ hn'.keeps (fun b o e => Heap.get?_push_of_some _ e), fun x v e => nomatch e⟩, fun p hp => ?_, ?_, fun z hz => ?_, hLb⟩
    · show sb.heap.objs.size ≤ s5.heap.objs.size
      rw [h5h, Heap.size_push]; omega
    · rcases List.mem_cons.mp hp with rfl | hp
      · exact keep5 _ _ (C3.st (I, _) (.head _))
      · rcases List.mem_cons.mp hp with rfl | hp
        · show Heap.get? _ a = _
          rw [← ha, h5h]
          exact Heap.get?_push_size _ rfl
        · cases hp
    · simp only [List.map_cons, List.map_nil, List.nodup_cons, List.mem_cons, List.not_mem_nil, or_false, not_or, not_false_eq_true, List.nodup_nil, and_true]
      rw [hL'] at hIlt
      exact ⟨⟨fun h => Nat.lt_irrefl _ (h ▸ hIlt), fun h => by rw [← h, hsz] at ha; exact absurd ha (Nat.succ_ne_self _)⟩, fun h => by rw [← ha, hsz] at h; rw [h] at hIlt; omega⟩
    · simp only [List.map_cons, List.map_nil, List.mem_cons, List.not_mem_nil, or_false] at hz
      rcases hz with rfl | rfl | rfl
      · exact ⟨.inl hLb, nG _ (by rw [hL']; exact Nat.le_refl _), nT _ (by rw [hL']; exact Nat.le_refl _)⟩
      · exact ⟨.inl hIb, (C3.new z (by simp)).2⟩
      · exact ⟨.inl (by show sb.heap.objs.size ≤ _; omega), nG _ (by rw [hL']; omega), nT _ (by rw [hL']; omega)⟩
  -- the loop
  let J : Nat → Shared → Prop := fun i s' => ∃ G' o, itObj t i o ∧ Cx [] w sb' G G' L' [] [(I, o), (a, genObj g q (s3.toks + 1) (s3.toks + 1 + 1))] s'
  let D : Shared → Prop := fun s' => ∃ G', Cx [] w sb' G G' L' [] [(a, genObj g q (s3.toks + 1) (s3.toks + 1 + 1))] s'
  let Fi : Shared → Prop := fun s' => ∃ G' mu', Cx [] w sb' G G' L' [] mu' s'
  have hgz : ∀ {G' mu' s'}, Cx [] w sb' G G' L' [] mu' s' → g < s'.gens.size := fun C' => by
    have := C'.ps.ex.gsz
    show _ < _
    have e : sb'.gens.size = g + 1 := by show s5.gens.size = _; rw [h5g, Array.size_push, hgg]
    omega
  have fin : ∀ s' b, (∃ G' mu', Cx [] w sb' G G' L' [] mu' s') → b = (List.range vs.length).all f → Q (.bool b) s' := fun s' b ⟨G', mu', C'⟩ e => by
    have P' : Ps [] sb G s' G' := ⟨⟨C'.ps.ex.keep, C'.ps.ex.grow, C'.ps.ex.size, C'.ps.ex.os, C'.ps.ex.drawn, by
      have h1 := hgz C'
      have h2 := P3b.ex.gsz
      omega⟩, C'.ps.le, C'.ps.fresh⟩
    exact e ▸ hQ s' G' (Cb.after C'.wd P') P'.le
  have klocal : cenv.kindOf x = some .local := by rw [← hcc]; exact hx
  have kfun : cenv.scope.kind = .function := by rw [← hcc]; exact hkind
  have kL : cenv.locals = L' := by rw [← hcc]; rfl
  have H : ∀ B, Rm B k → GenJ w B a I g vs.length cenv elt (.Name x px) f J D Fi := fun B rB => by
    refine ⟨fun i s' E' hi hj => ?_, fun s' E' hj => ?_, fun s' E' hj => ?_, fun i s' hj => ?_, fun i s' y hj hy => ?_, fun s' y h'' hd hy hk' => ?_⟩
    · obtain ⟨G', o, ho, C'⟩ := hj
      have hv : vs[i]? = some vs[i] := List.getElem?_eq_getElem hi
      refine next_tuple_item ⟨o, C'.st (I, o) (.head _), ho⟩ ((ht.mono C'.ps.le).tup C'.wd) (by rw [List.getElem?_toArray]; exact hv) fun h2 hi2 hs2 => ?_
      obtain ⟨o2, ho2, hc2, hd2⟩ := hi2
      have C2 := C'.upd0 (t := s'.toks) hs2 ho2
      refine ⟨_, rfl, wpAny_pure ?_⟩
      refine wpAny_assign_Name ?_
      rw [← kL] at C2
      refine R_store C2 (fun s4 C4 => ?_) kfun klocal
      rw [kL] at C4
      rw [← hcc]
      refine wpAny_mono (helt sb' i _ G' L' code s4 _ B E' hv C'.ps.le C4 rB) (fun y s5 h5 => ?_) fun _ _ e => e
      obtain ⟨G5, rfl, C5⟩ := h5
      exact ⟨rfl, G5, o2, ⟨hc2, hd2⟩, C5⟩
    · obtain ⟨G', o, ho, C'⟩ := hj
      refine next_tuple_end rB.1 ⟨o, C'.st (I, o) (.head _), ho⟩ ((ht.mono C'.ps.le).tup C'.wd) (by rw [List.getElem?_toArray]; exact List.getElem?_eq_none (Nat.le_refl _)) fun h2 hs2 => ⟨rfl, G', C'.lose (t := s'.toks) hs2⟩
    · obtain ⟨G', o, ho, C'⟩ := hj
      exact wpAny_pyIter_tupleiter (i := 0) ⟨o, C'.st (I, o) (.head _), ho⟩ ⟨rfl, G', o, ho, C'⟩
    · obtain ⟨G', o, ho, C'⟩ := hj
      exact ⟨⟨_, _, _, C'.st (a, _) (.tail _ (.head _)), rfl, rfl, rfl⟩, C'.wd.nolimit, hgz C'⟩
    · obtain ⟨G', o, ho, C'⟩ := hj
      exact ⟨G', o, ho, C'.grown (t := s'.toks) (fun _ _ e => e) (bare_set C'.wd.bare hy) (by simp)⟩
    · obtain ⟨G', C'⟩ := hd
      exact ⟨G', _, C'.grown (t := s'.toks) hk' (bare_set C'.wd.bare hy) (by simp [Shared.setGen])⟩
  have J0 : J 0 s5 := ⟨G, _, ⟨rfl, rfl⟩, C5⟩
  have hga : s5.heap.IsGen a g := ⟨_, _, _, C5.st (a, _) (.tail _ (.head _)), rfl, rfl, rfl⟩
  refine call_function_tree F.kind_all F.plain_all F.entry_all (F.args_all1 _) ?_
  unfold Builtin.«all»
  refine wpAny_bind (m := oneArg "all" _) (wpAny_pure ?_)
  refine wpAny_bind (wpAny_pyIter_gen hga ?_)
  refine wpAny_pure ⟨plainId_quiet F.plain_all_loop _, ?_⟩
  have hr : Rm (A.in1.in1.over (gLoop elt (.Name x px) iter scope pos I cenv) []) k := by
    have r := (rm.over (k := k + 1) (e := elt) (it := I) (cenv := cenv) (elt := elt) (gs := [⟨.Name x px, iter, [], 0⟩]) (scope := scope) (pos := pos)).le (Nat.le_succ k)
    refine ⟨r.1, r.2.1, ?_, r.2.2.2⟩
    have h : A.units + 1 + 1 + 1 + 0 + 3 + 60 * k ≤ 9800 := r.2.2.1
    show A.units + 1 + 1 + 0 + 3 + 60 * k ≤ 9800
    omega
  refine all_gLoop (H _ hr) rm.1 rm.depth (fun s' ht hf => fin s' true hf (nat_all ht).symm) (fun i s' hi hf hj => ?_) vs.length 0 s5 (Nat.zero_add _) J0 (fun j hj => absurd hj (Nat.not_lt_zero j)) ⟨.fresh (gStart elt (.Name x px) iter scope pos I cenv), ?_, rfl, ?_⟩
  · obtain ⟨G', o, _, C'⟩ := hj
    exact fin s' false ⟨G', _, C'⟩ (nat_not_all hi hf).symm
  · rw [h5g, ← hgg]
    exact Array.getElem?_push_size ..
  · exact seg_gStart (H _ hr) (by rw [← hcc]; exact hco) _ _ ((H _ hr).set 0 s5 .running J0 rfl)
end
-- part A9
theorem bind_fn (st : Stmt) (h : st = mthAt 13 0) (qual : Str) (cl : List (Str × Addr)) (dV pm cdv ct : Value) (hd : dV = .none) (a : Value) (vs : List Value) :
    bindArgs (fnAt st qual cl dV pm cdv ct) ⟨a :: vs, []⟩ = newTuple vs >>= fun t => pure [(Str.ofString "self", a), (Str.ofString "args", t)] := by
  subst h hd
  unfold bindArgs
  have e : ∀ b : Bool, (b && (fnAt (mthAt 13 0) qual cl Value.none pm cdv ct).params.vararg.isNone) = false := fun b => by cases b <;> rfl
  simp only [e]
  rfl
theorem bind_grp (st : Stmt) (h : st = mthAt 15 0 ∨ st = mthAt 16 0 ∨ st = mthAt 17 0) (qual : Str) (cl : List (Str × Addr)) (dV pm cdv ct : Value) (hd : dV = .none) (a b c : Value) (vs : List Value) :
    bindArgs (fnAt st qual cl dV pm cdv ct) ⟨a :: b :: c :: vs, []⟩ = newTuple vs >>= fun t => pure [(Str.ofString "self", a), (Str.ofString "arg1", b), (Str.ofString "arg2", c), (Str.ofString "args", t)] := by
  subst hd
  have e : ∀ (st : Stmt), st = mthAt 15 0 ∨ st = mthAt 16 0 ∨ st = mthAt 17 0 → ∀ q : Bool, (q && (fnAt st qual cl Value.none pm cdv ct).params.vararg.isNone) = false := fun st h q => by
    rcases h with rfl | rfl | rfl <;> cases q <;> rfl
  unfold bindArgs
  simp only [e st h]
  rcases h with rfl | rfl | rfl <;> rfl
section
variable {X : List Addr} {w : World} {s₀ s₁ s s' : Shared} {G₀ G₁ G G' : Km} {L : Addr} {m m' : List (Str × Value)} {mu mu' : List (Addr × Obj)} {A : Around} {E : Value → Shared → Prop} {R : Result → Shared → Prop}
theorem Cx.rebase (P : Ps X s₀ G₀ s₁ G₁) (C : Cx X w s₁ G₁ G L m mu s) : Cx X w s₀ G₀ G L m mu s :=
  ⟨C.wd, P.trans C.ps, C.ns, C.st, C.nd, fun a ha => let ⟨n1, n2, n3⟩ := C.new a ha; ⟨n1.imp (Nat.le_trans P.ex.size) id, n2, n3⟩, Nat.le_trans P.ex.size C.newL⟩
-- a new tuple
theorem Wd.put {a : Addr} {o : Obj} (W : Wd w G s) (h : s.heap.get? a = some o) (ha : G a = none) (ht : a ∉ tabL) : Wd w (G.put a o) s :=
  ⟨fun b o' e => by
    unfold Km.put at e
    split at e
    · rename_i q; cases e; rw [q]; exact h
    · exact W.keep b o' e, fun b o' e => Km.put_le ha _ _ (W.kin b o' e), W.tabs, fun P hP => by
      unfold Km.put
      rw [if_neg (fun q : P = a => ht (q ▸ hP))]; exact W.off P hP, W.bare⟩
theorem Wd.newAt (W : Wd w G s) {a : Addr} (h : s.heap.objs.size ≤ a) : G a = none ∧ a ∉ tabL := by
  refine ⟨?_, fun q => absurd (W.tabs.lt q) (Nat.not_lt.mpr h)⟩
  cases e : G a with
  | none => rfl
  | some o => exact absurd (Heap.lt_size (W.keep _ _ e)) (Nat.not_lt.mpr h)
theorem Wd.new {o : Obj} (W : Wd w G s) (hf : o.isFreed = false := by rfl) : Wd w (G.put s.heap.objs.size o) { s with heap := s.heap.push o } ∧ Ps [] s G { s with heap := s.heap.push o } (G.put s.heap.objs.size o) := by
  obtain ⟨n1, n2⟩ := W.newAt (Nat.le_refl _)
  refine ⟨(W.push (o := o)).put (Heap.get?_push_size _ hf) n1 n2, Ex.push (Ex.refl _ _), Km.put_le n1, fun b e n => ?_⟩
  unfold Km.put at n
  split at n
  · rename_i q; rw [q]; exact Nat.le_refl _
  · exact absurd e n
theorem R_enterT {f : Addr} {st : Stmt} {qual : Str} {cl : List (Str × Addr)} {dV pm cdv ct : Value} {args vs : List Value} {binds : Value → List (Str × Value)} {k : Nat} (m : Value → List (Str × Value))
    (hf : (K0 w.params).lookup f = some (fnObj st qual cl dV pm cdv ct)) (hcd : codeIn (K0 w.params) cdv qual = true) (W : Wd w G s) (rm : Rm A (k + 1))
    (hb : bindArgs (fnAt st qual cl dV pm cdv ct) ⟨args, []⟩ = newTuple vs >>= fun t => pure (binds t)) (hz : vs.length ≤ 2000) (hcell : ∀ x ∈ (fnScope st).names, x.2 ≠ .cell) (hloc : ∀ t, ((binds t).all fun x => decide ((fnScope st).names.lookup x.1 = some .local)) = true)
    (hm : ∀ t, (binds t).reverse = m t) (hco : (fnScope st).isCoroutine = false) (hgen : (fnScope st).isGenerator = false) (hk : (fnScope st).kind = .function)
    (h : ∀ t G' L s', TupAt G' t vs → Cx [] w s G G' L (m (.ref t)) [] s' → Rm (A.deeper (envX qual (fnScope st) L f cdv cl)) k →
      wpAny (MD w) (A.deeper (envX qual (fnScope st) L f cdv cl)) (execs (fnBody st) (envX qual (fnScope st) L f cdv cl)) (fun fl s'' => R (.ok (.ret (match fl with | .ret v => v | _ => .none))) s'') (fun _ _ => False) s') :
    codeAny (MD w) A (.call (.ref f) ⟨args, []⟩) R s := by
  refine codeAny_call_function (fd := fnAt st qual cl dV pm cdv ct) (body := fnBody st) rm.depth (W.inn f _ hf) rfl hco hgen rfl (codeRec_of W.inn hcd) ?_
  rw [hb]
  refine wpAny_bind (wpAny_newTuple ?_ (Nat.le_trans hz (by decide)))
  obtain ⟨W1, P1⟩ := W.new (o := tupObj vs)
  refine wpAny_pure ?_
  refine wpAny_newFunctionEnv hcell (locs (hloc _)) (fun h₀ hns hsb => ⟨W1.nolimit.fresh _ hsb, codeAny_func ?_⟩) hk
  have hk1 : ∀ b o, (s.heap.push (tupObj vs)).get? b = some o → h₀.get? b = some o := fun b o e => hsb.extBut b o (Nat.ne_of_lt (Heap.lt_size e)) (Heap.get?_push_of_some _ e)
  refine wpAny_mono (h s.heap.objs.size _ _ _ Km.put_self ((Cx.start (m := m (.ref s.heap.objs.size)) (t := s.toks + (binds (.ref s.heap.objs.size)).length) W1 hk1 hns (Nat.le_refl _) fun x v e => ?_).rebase P1) rm.deeper) (fun _ _ z => z) fun _ _ z => z.elim
  rw [hm]; exact e
-- with cells that turn no more
theorem R_enterC {f : Addr} {st : Stmt} {qual : Str} {dV pm cdv ct : Value} {args : List Value} {binds : List (Str × Value)} {k : Nat}
    (hf : (K0 w.params).lookup f = some (fnObj st qual [] dV pm cdv ct)) (hcd : codeIn (K0 w.params) cdv qual = true) (W : Wd w G s) (rm : Rm A (k + 1))
    (hb : bindArgs (fnAt st qual [] dV pm cdv ct) ⟨args, []⟩ = pure binds)
    (hkind : ∀ L : Addr, ∀ x ∈ binds, (fnScope st).names.lookup x.1 = some .local ∨ ((fnScope st).names.lookup x.1 = some .cell ∧ ((cellsFrom L (fnScope st).names []).lookup x.1).isSome = true))
    (m cm : List (Str × Value)) (hm : ∀ L, ∀ p ∈ m, bindL (envX qual (fnScope st) L f cdv (cellsFrom (L + 1) (fnScope st).names [])).kindOf binds (fun _ => none) p.1 = some p.2)
    (hcm : ∀ L, ∀ p ∈ cm, ((cellsFrom (L + 1) (fnScope st).names []).lookup p.1).isSome = true ∧ bindC (envX qual (fnScope st) L f cdv (cellsFrom (L + 1) (fnScope st).names [])).kindOf binds (fun _ => none) p.1 = some p.2)
    (hco : (fnScope st).isCoroutine = false) (hgen : (fnScope st).isGenerator = false) (hk : (fnScope st).kind = .function)
    (h : ∀ L s' G', Cx [] w s G G' L m [] s' → (∀ p ∈ cm, ∃ c, (cellsFrom (L + 1) (fnScope st).names []).lookup p.1 = some c ∧ CellAt G' c p.2) → Rm (A.deeper (envX qual (fnScope st) L f cdv (cellsFrom (L + 1) (fnScope st).names []))) k →
      wpAny (MD w) (A.deeper (envX qual (fnScope st) L f cdv (cellsFrom (L + 1) (fnScope st).names []))) (execs (fnBody st) (envX qual (fnScope st) L f cdv (cellsFrom (L + 1) (fnScope st).names [])))
        (fun fl s'' => R (.ok (.ret (match fl with | .ret v => v | _ => .none))) s'') (fun _ _ => False) s') :
    codeAny (MD w) A (.call (.ref f) ⟨args, []⟩) R s := by
  refine codeAny_call_cells (fd := fnAt st qual [] dV pm cdv ct) (body := fnBody st) rm.depth (W.inn f _ hf) rfl W.nolimit (codeRec_of W.inn hcd) rfl hb rfl (hkind _) (fun s₁ I => ?_) hco hgen hk
  obtain ⟨⟨⟨h₁, t₁, rfl⟩, hns, hkeep, hfr⟩, hcell, hap, hab⟩ := I
  have hL : (callEnvC (fnAt st qual [] dV pm cdv ct) s.heap.objs.size f).locals = s.heap.objs.size := rfl
  have hcs : (callEnvC (fnAt st qual [] dV pm cdv ct) s.heap.objs.size f).cells = cellsFrom (s.heap.objs.size + 1) (fnScope st).names [] := rfl
  rw [hcs] at hcell hap hab
  rw [hL] at hns hab
  generalize hLL : s.heap.objs.size = L at *
  let cs := cellsFrom (L + 1) (fnScope st).names []
  let G' : Km := fun b => if b ∈ cs.map (·.2) then h₁.get? b else G b
  have ab : ∀ b ∈ cs.map (·.2), L < b := fun b hb => by
    obtain ⟨⟨n, c⟩, hp, rfl⟩ := List.mem_map.mp hb
    exact hab n c hp
  have nG : ∀ b ∈ cs.map (·.2), G b = none ∧ b ∉ tabL := fun b hb => W.newAt (by rw [hLL]; exact Nat.le_of_lt (ab b hb))
  have le : G.le G' := fun b o e => by
    show (if _ then _ else _) = _
    rw [if_neg (fun q => by rw [(nG b q).1] at e; cases e)]; exact e
  have Llt : L < h₁.objs.size := let ⟨_, _, _, h, _⟩ := hns; Heap.lt_size h
  have nL := W.newAt (a := L) (by rw [hLL]; exact Nat.le_refl _)
  have C : Cx [] w s G G' L m [] { s with heap := h₁, toks := t₁ } := by
    refine ⟨⟨fun b o e => ?_, fun a o e => le _ _ (W.kin a o e), fun P hP => let ⟨ps, e, r⟩ := W.tabs P hP; ⟨ps, hkeep _ _ e, r⟩, fun P hP => ?_, W.bare⟩,
      ⟨⟨fun b o e _ _ => hkeep b o e, fun P hP ps e => ⟨#[], by rw [Array.append_empty]; exact hkeep _ _ e⟩, by rw [hLL]; exact Nat.le_of_lt Llt, rfl, rfl, Nat.le_refl _⟩, le, fun b e n => ?_⟩,
      ⟨_, hns, fun x v e => hm L (x, v) (mem_of_lookup e)⟩, fun p hp => (nomatch hp), by simp, fun a ha => ?_, by rw [hLL]; exact Nat.le_refl _⟩
    · change (if _ then _ else _) = _ at e
      split at e
      · exact e
      · exact hkeep _ _ (W.keep b o e)
    · show (if _ then _ else _) = _
      rw [if_neg (fun q => (nG P q).2 hP)]; exact W.off P hP
    · change (if _ then _ else _) ≠ _ at n
      split at n
      · rename_i q; rw [hLL]; exact Nat.le_of_lt (ab b q)
      · exact absurd e n
    · simp only [List.map_nil, List.mem_singleton] at ha
      subst ha
      refine ⟨.inl (by rw [hLL]; exact Nat.le_refl _), ?_, nL.2⟩
      show (if _ then _ else _) = _
      rw [if_neg (fun q => Nat.lt_irrefl _ (ab _ q))]; exact nL.1
  refine wpAny_mono (h L _ G' C (fun p hp => ?_) rm.deeper) (fun _ _ z => z) fun _ _ z => z.elim
  obtain ⟨h1, h2⟩ := hcm L p hp
  obtain ⟨c, hc⟩ := Option.isSome_iff_exists.mp h1
  refine ⟨c, hc, ?_⟩
  obtain ⟨o, ho, hd⟩ := hcell p.1 c hc
  refine ⟨o, ?_, ?_⟩
  · show (if _ then _ else _) = _
    rw [if_pos (List.mem_map.mpr ⟨(p.1, c), mem_of_lookup hc, rfl⟩)]; exact ho
  · rw [hd]
    exact congrArg _ h2
end
-- part A10
open Sem (wp)
open AutoSeq1 (wpAny_loadPart')
theorem meets_tuple_nil : Meets (Builtin.«tuple.__new__» ⟨[.type "tuple"], []⟩) (fun _ R s => R (.ok (.ret (.ref s.heap.objs.size))) { s with heap := s.heap.push (tupObj []) }) :=
  .of_wp fun prog w A R s h => by
    obtain ⟨hp, g, d, tk, os⟩ := s
    have hsub := sub_tuple_self
    have hinit := init_tuple_lookup
    have hmh := madeHere_tuple
    wp_walk using wpAny_loadPart'
    exact ⟨_, rfl, h⟩
theorem typeCall_tuple_0 : checkTypeCall "tuple" ⟨[], []⟩ = pure () := by kernel_rfl
theorem newCall_tuple_0 : checkBuiltinCall "tuple.__new__" ⟨[.type "tuple"], []⟩ = pure () := by kernel_rfl
section
variable {prog : Program} {w : World} {A : Around} {E : Value → Shared → Prop} {s : Shared}
theorem call_tuple_nil {Q : Value → Shared → Prop} (h : Q (.ref s.heap.objs.size) { s with heap := s.heap.push (tupObj []) }) : wpAny (model prog w) A (call (.type "tuple") []) Q E s :=
  callType_new F.called_tuple (by decide) typeCall_tuple_0 newCall_tuple_0 (fun obj => by first | exact F.args_object_init_1 obj | (unfold argsOk; kernel_rfl)) F.entry_tuple_new
    meets_tuple_nil ⟨⟨_, Heap.get?_push_size _ rfl, rfl⟩, h⟩
end
-- part A11
section
variable {X : List Addr} {w : World} {s₀ s₁ s s' : Shared} {G₀ G₁ G G' : Km} {L : Addr} {m m' : List (Str × Value)} {mu mu' : List (Addr × Obj)} {A : Around} {E : Value → Shared → Prop} {R : Result → Shared → Prop}
-- an object of the caller's that this call may turn
theorem Cx.own {d : Addr} {o : Obj} (C : Cx [] w s₀ G₀ G L m [] s) (hd : s.heap.get? d = some o) (hlt : d < s₀.heap.objs.size) (hG : G d = none) (ht : d ∉ tabL) : Cx [d] w s₀ G₀ G L m [(d, o)] s := by
  refine ⟨C.wd, C.ps.more (fun _ h => nomatch h), C.ns, fun p hp => ?_, ?_, fun a ha => ?_, C.newL⟩
  · rcases List.mem_cons.mp hp with rfl | hp
    · exact hd
    · cases hp
  · simp only [List.map_cons, List.map_nil, List.nodup_cons, List.mem_cons, List.not_mem_nil, or_false, not_false_eq_true, List.nodup_nil, and_true]
    exact fun e => absurd C.newL (Nat.not_le.mpr (e ▸ hlt))
  · simp only [List.map_cons, List.map_nil, List.mem_cons, List.not_mem_nil, or_false] at ha
    rcases ha with rfl | rfl
    · have x := C.new a (.head _)
      exact ⟨.inl C.newL, x.2⟩
    · exact ⟨.inr (.head _), hG, ht⟩
theorem Ps.none {X : List Addr} {d : Addr} (P : Ps X s G s' G') (hd : d < s.heap.objs.size) (hG : G d = none) : G' d = none := by
  cases e : G' d with
  | none => rfl
  | some o => exact absurd hd (Nat.not_lt.mpr (P.fresh d hG (by rw [e]; exact fun z => nomatch z)))
-- entries that know their own activation (for super())
theorem R_enterAt {f : Addr} {st : Stmt} {qual : Str} {cl : List (Str × Addr)} {dV pm cdv ct : Value} {args : List Value} {binds : List (Str × Value)} {k : Nat} (m : List (Str × Value))
    (hf : (K0 w.params).lookup f = some (fnObj st qual cl dV pm cdv ct)) (hcd : codeIn (K0 w.params) cdv qual = true) (W : Wd w G s) (rm : Rm A (k + 1))
    (hb : BindsTo s (fnAt st qual cl dV pm cdv ct) ⟨args, []⟩ binds) (hcell : ∀ x ∈ (fnScope st).names, x.2 ≠ .cell) (hloc : (binds.all fun x => decide ((fnScope st).names.lookup x.1 = some .local)) = true)
    (hm : binds.reverse = m) (hco : (fnScope st).isCoroutine = false) (hgen : (fnScope st).isGenerator = false) (hk : (fnScope st).kind = .function)
    (h : ∀ L s', Cx [] w s G G L m [] s' → Rm (A.deeper (envX qual (fnScope st) L f cdv cl)) k →
      _root_.PySem.wpAt (MD w) (A.deeper (envX qual (fnScope st) L f cdv cl)) (.func (fnBody st) (envX qual (fnScope st) L f cdv cl)) (execs (fnBody st) (envX qual (fnScope st) L f cdv cl)) (fun fl s'' => R (.ok (.ret (match fl with | .ret v => v | _ => .none))) s'') (fun _ _ => False) s') :
    codeAny (MD w) A (.call (.ref f) ⟨args, []⟩) R s := by
  subst hm
  refine ks_codeAny_call_defAt (fd := fnAt st qual cl dV pm cdv ct) (body := fnBody st) rm.depth (W.inn f _ hf) rfl W.nolimit (codeRec_of W.inn hcd) rfl hb hcell (locs hloc) (fun h₀ hn hk => ?_) hco hgen hk
  exact ks_wpAt_mono (h _ _ (Cx.start W hk hn (Nat.le_refl _) fun x v e => e) rm.deeper) (fun _ _ z => z) fun _ _ z => z.elim
theorem R_enterTAt {f : Addr} {st : Stmt} {qual : Str} {cl : List (Str × Addr)} {dV pm cdv ct : Value} {args vs : List Value} {binds : Value → List (Str × Value)} {k : Nat} (m : Value → List (Str × Value))
    (hf : (K0 w.params).lookup f = some (fnObj st qual cl dV pm cdv ct)) (hcd : codeIn (K0 w.params) cdv qual = true) (W : Wd w G s) (rm : Rm A (k + 1))
    (hb : bindArgs (fnAt st qual cl dV pm cdv ct) ⟨args, []⟩ = newTuple vs >>= fun t => pure (binds t)) (hz : vs.length ≤ 2000) (hcell : ∀ x ∈ (fnScope st).names, x.2 ≠ .cell) (hloc : ∀ t, ((binds t).all fun x => decide ((fnScope st).names.lookup x.1 = some .local)) = true)
    (hm : ∀ t, (binds t).reverse = m t) (hco : (fnScope st).isCoroutine = false) (hgen : (fnScope st).isGenerator = false) (hk : (fnScope st).kind = .function)
    (h : ∀ t G' L s', TupAt G' t vs → Cx [] w s G G' L (m (.ref t)) [] s' → Rm (A.deeper (envX qual (fnScope st) L f cdv cl)) k →
      _root_.PySem.wpAt (MD w) (A.deeper (envX qual (fnScope st) L f cdv cl)) (.func (fnBody st) (envX qual (fnScope st) L f cdv cl)) (execs (fnBody st) (envX qual (fnScope st) L f cdv cl)) (fun fl s'' => R (.ok (.ret (match fl with | .ret v => v | _ => .none))) s'') (fun _ _ => False) s') :
    codeAny (MD w) A (.call (.ref f) ⟨args, []⟩) R s := by
  refine codeAny_call_function (fd := fnAt st qual cl dV pm cdv ct) (body := fnBody st) rm.depth (W.inn f _ hf) rfl hco hgen rfl (codeRec_of W.inn hcd) ?_
  rw [hb]
  refine wpAny_bind (wpAny_newTuple ?_ (Nat.le_trans hz (by decide)))
  obtain ⟨W1, P1⟩ := W.new (o := tupObj vs)
  refine wpAny_pure ?_
  refine wpAny_newFunctionEnv hcell (locs (hloc _)) (fun h₀ hns hsb => ⟨W1.nolimit.fresh _ hsb, ks_codeAny_funcAt ?_⟩) hk
  have hk1 : ∀ b o, (s.heap.push (tupObj vs)).get? b = some o → h₀.get? b = some o := fun b o e => hsb.extBut b o (Nat.ne_of_lt (Heap.lt_size e)) (Heap.get?_push_of_some _ e)
  refine ks_wpAt_mono (h s.heap.objs.size _ _ _ Km.put_self ((Cx.start (m := m (.ref s.heap.objs.size)) (t := s.toks + (binds (.ref s.heap.objs.size)).length) W1 hk1 hns (Nat.le_refl _) fun x v e => ?_).rebase P1) rm.deeper) (fun _ _ z => z) fun _ _ z => z.elim
  rw [hm]; exact e
-- super().__init__ as the first statement
theorem Cx.keepNew {h' : Heap} {t : Nat} {a : Addr} {o : Obj} (C : Cx X w s₀ G₀ G L m mu s) (hk : ∀ b o, s.heap.get? b = some o → h'.get? b = some o) (ha : s.heap.objs.size ≤ a) (ho : h'.get? a = some o) (hX : ∀ x ∈ X, x < s.heap.objs.size) :
    Cx X w s₀ G₀ (G.put a o) L m mu { s with heap := h', toks := t } := by
  have nw := C.wd.newAt ha
  have C1 := C.grown (t := t) hk C.wd.bare (Nat.le_refl _)
  have La : L ≠ a := fun e => Nat.lt_irrefl _ (Nat.lt_of_lt_of_le (e ▸ C.Llt) ha)
  have ma : ∀ p ∈ mu, p.1 ≠ a := fun p hp e => Nat.lt_irrefl _ (Nat.lt_of_lt_of_le (e ▸ C.lt p.1 (.tail _ (List.mem_map_of_mem hp))) ha)
  have C2 : Cx X w s₀ G₀ G L m ((a, o) :: mu) { s with heap := h', toks := t } := by
    refine ⟨C1.wd, C1.ps, C1.ns, fun p hp => ?_, ?_, fun b hb => ?_, C1.newL⟩
    · rcases List.mem_cons.mp hp with rfl | hp
      · exact ho
      · exact C1.st p hp
    · simp only [List.map_cons]
      refine List.nodup_cons.mpr ⟨fun q => ?_, List.nodup_cons.mpr ⟨fun q => ?_, (List.nodup_cons.mp C1.nd).2⟩⟩
      · rcases List.mem_cons.mp q with e | q
        · exact La e
        · exact (List.nodup_cons.mp C1.nd).1 q
      · obtain ⟨p, hp, e⟩ := List.mem_map.mp q
        exact ma p hp e
    · simp only [List.map_cons] at hb
      rcases List.mem_cons.mp hb with rfl | hb
      · exact C1.new _ (.head _)
      · rcases List.mem_cons.mp hb with rfl | hb
        · exact ⟨.inl (Nat.le_trans C.ps.ex.size ha), nw⟩
        · exact C1.new b (.tail _ hb)
  exact C2.freeze fun q => Nat.lt_irrefl _ (Nat.lt_of_lt_of_le (hX _ q) ha)

def supOk (K : Frag) (cda cc D : Addr) : Bool :=
  (match K.lookup cda with
    | some ⟨_, _, .fields vs, _⟩ => (match vs[2]? with | some (Value.str file _) => (PG.main.file : Str) == file | _ => false)
    | _ => false) &&
  (match K.lookup cc with
    | some ⟨_, _, .cell (some (.ref D')), _⟩ => D' == D
    | _ => false) && (clsIn K D).isSome && (nsIn K 3 "super" == some none) && (nsIn K 0 "super" == some (some (.type "super"))) && (nsIn K cStatics "thirdparty.any" == some none)
def supIn (K : Frag) (C D f2 : Addr) (nm : Str) : Bool := (clsIn K C).isSome && (mroIn K C (.ref D) == some true) && (ks_superIn K C D nm == some (some (.ref f2))) && (typeIn K (.ref f2) == some (.type "function"))
theorem getattr_super {h : Heap} {g : Array GenState} {d : Drawn} {t : Nat} {os : OsState} {so D x C f : Addr} {of : Obj} {l₀ l : List Value} {K : Frag} {name : Str} {Q : Value → Shared → Prop}
    (hso : h.get? so = some (ks_superObj D x C)) (hno : Looks (MD w) h (opaqueClassAbove (.ref C)) none) (hC : Looks (MD w) h (mroOf (.ref C)) l₀) (hl : (l₀.dropWhile (· != .ref D)).drop 1 = l) (X : K.In h)
    (hf : alongIn K name l = some (some (.ref f))) (hfo : h.get? f = some of) (hfc : of.cls = .type "function") (hxC : x ≠ C) (hn : (name == ("__class__" : Str)) = false)
    (hq : Q (.ref h.objs.size) ⟨h.push (methodObj (.ref f) (.ref x)), g, d, t + 1, os⟩) : wpAny (MD w) A (getAttr (.ref so) name true) Q E ⟨h, g, d, t, os⟩ := by
  have hT : ∀ t', (⟨h, g, d, t', os⟩ : Shared).TypeIs (.ref so) "super" := fun _ => ⟨_, hso, rfl⟩
  have hlk := PySem.F.ks_slot_super_ga.lookup
  unfold getAttr getAttrBy
  refine wpAny_bind (wpAny_mkText (wpAny_holding (wpAny_bind (wpAny_typeOf (hT _) (wpAny_bind (wpAny_of_eq hlk ?_))))))
  show wpAny _ _ (getAttrByItsOwn (.ref so) (.str name t) (.type "super") (.builtin "super.__getattribute__") true true) _ _ _
  unfold getAttrByItsOwn hookBefore callGetattribute boundAndCalled
  refine wpAny_bind (wpAny_of_eq (show (if onTheHeap (.type "super") then typeLookup (.type "super") "__getattr__" else pure none) = pure none from rfl) ?_)
  refine wpAny_bind (wpAny_attempt (wpAny_holding ?_))
  show wpAny _ _ (bindSpecial (.builtin "super.__getattribute__") (.ref so) >>= _) _ _ _
  refine wpAny_bind (wpAny_of_eq (PySem.F.ks_slot_super_ga.bind _) ?_)
  refine wpAny_mono (Q := fun v s' => v = .ref h.objs.size ∧ s' = ⟨h.push (methodObj (.ref f) (.ref x)), g, d, t + 1, os⟩) (E := fun _ _ => False)
    (wpAny_call_entry PySem.F.ks_slot_super_ga (hT _) PySem.F.ks_entry_super_ga (ks_wpAny_super_ga hso hno hC hl X hf hfo hfc hxC hn ⟨_, rfl, rfl, rfl⟩) (PySem.F.ks_gaArgs_super _ _)) (fun v s' hv => ?_) fun _ _ z => z.elim
  obtain ⟨rfl, rfl⟩ := hv
  exact wpAny_pure hq
theorem R_super {body rest : List Stmt} {q : Str} {scope : Scope} {f cc cda x Cc d D f2 : Addr} {p0 p1 ap pos pos2 : Pos} {nm : Str} {args : List Expr} {st : Stmt} {qual : Str} {clo : List (Str × Addr)} {dV pm cdv ct : Value} {gm : Value → Sem (Value × List Value)} {Q : Flow → Shared → Prop}
    (C : Cx X w s₀ G₀ G L m mu s) (hX : ∀ x ∈ X, x < s.heap.objs.size)
    (hf : (K0 w.params).lookup f = some (fnObj st qual clo dV pm cdv ct)) (hp : ((fnPar st).posonlyargs ++ (fnPar st).args).head?.map (·.arg) = some (Str.ofString "self")) (hv : m.lookup (Str.ofString "self") = some (.ref x)) (hx : G x = some (instObj Cc d))
    (hs : supOk (K0 w.params) cda cc D = true) (hsi : supIn (K0 w.params) Cc D f2 nm = true) (hn : (nm == ("__class__" : Str)) = false)
    (hks : scope.names.lookup ("super" : Str) = some .globalImplicit) (hkc : scope.names.lookup ("__class__" : Str) = some .free) (hka : scope.names.lookup (Str.ofString "self") = some .local) (hk : scope.kind = .function)
    (htop : (PG.main.scope.names.lookup ("super" : Str)).isSome = false)
    (hi : interactive (envX q scope L f (.ref cda) [("__class__", cc)]) = false) (hsw : swapsWith (.Call (.Attribute (.Call (.Name "super" p0) [] [] p1) nm ap) args [] pos) none pos2.line (envX q scope L f (.ref cda) [("__class__", cc)]) = pure false)
    (he : eval (.Call (.Attribute (.Call (.Name "super" p0) [] [] p1) nm ap) args [] pos) (envX q scope L f (.ref cda) [("__class__", cc)]) = (do
      let ov ← attributeBase (.Call (.Name "super" p0) [] [] p1) nm (envX q scope L f (.ref cda) [("__class__", cc)]) (eval (.Call (.Name "super" p0) [] [] p1) (envX q scope L f (.ref cda) [("__class__", cc)]))
      standAt ap.atName
      let (g, first) ← holding [ov] (gm ov)
      callWith pos g first (backTo pos (starEach args (envX q scope L f (.ref cda) [("__class__", cc)]))) (backToKw pos (keywordEach [] (envX q scope L f (.ref cda) [("__class__", cc)])))))
    (hgm : (∃ pl, gm = fun ov => getMethod ov nm pl) ∨ gm = fun ov => (do let v ← getAttr ov nm true; pure (v, [])))
    (h : ∀ qa s' G', G.le G' → Cx X w s₀ G₀ G' L m mu s' → G' qa = some (methodObj (.ref f2) (.ref x)) →
      wpAny (MD w) A (callWith pos (.ref qa) [] (backTo pos (starEach args (envX q scope L f (.ref cda) [("__class__", cc)]))) []) (fun _ s2 => wpAny (MD w) A (execs rest (envX q scope L f (.ref cda) [("__class__", cc)])) Q E s2) E s') :
    _root_.PySem.wpAt (MD w) A (.func body (envX q scope L f (.ref cda) [("__class__", cc)])) (execs (.Expr (.Call (.Attribute (.Call (.Name "super" p0) [] [] p1) nm ap) args [] pos) pos2 :: rest) (envX q scope L f (.ref cda) [("__class__", cc)])) Q E s := by
  refine ks_wpAt_execs_cons (ks_wpAt_Expr_any ?_ hi hsw)
  obtain ⟨ar, hp, har⟩ := Option.map_eq_some_iff.mp hp
  unfold supOk at hs
  unfold supIn at hsi
  simp only [Bool.and_eq_true, beq_iff_eq] at hs hsi
  obtain ⟨⟨⟨⟨⟨hs1, hs2⟩, hD⟩, hs3⟩, hs0⟩, hst⟩ := hs
  obtain ⟨⟨⟨hC, hsub⟩, hm⟩, ht⟩ := hsi
  obtain ⟨cdC, hC⟩ := Option.isSome_iff_exists.mp hC
  obtain ⟨cdD, hD⟩ := Option.isSome_iff_exists.mp hD
  split at hs1
  case h_2 => cases hs1
  rename_i ccl cdd vs ccs hcode
  split at hs1
  case h_2 => cases hs1
  rename_i file tf hvs
  have hfile := hs1
  split at hs2
  case h_2 => cases hs2
  rename_i cl cld D' csl hcell
  have := beq_iff_eq.mp hs2
  subst this
  rw [← har] at hv hka
  rw [he]
  refine _root_.PySem.wpAt_bind ?_
  have X0 := C.inn
  obtain ⟨oD, hD1, hD2⟩ : ∃ oD, s.heap.get? D' = some oD ∧ oD.data = .cls cdD := by
    unfold clsIn at hD
    split at hD
    · rename_i c d cd' sl ho
      cases hD
      exact ⟨_, X0 _ _ ho, rfl⟩
    · cases hD
  have hxs := C.get hx
  refine ks_wpAt_super_base (env := envX q scope L f (.ref cda) [("__class__", cc)]) hks hkc (by exact hn) rfl (X0 _ _ hf) rfl hp rfl (X0 _ _ hcode) rfl hvs hfile htop ?_
  refine ks_loadName_global hk hks ?_
  unfold loadGlobal
  refine wpAny_bind ((looks_nsIn X0 hs3).here (wpAny_bind ((looks_nsIn X0 hs0).here (wpAny_pure ⟨rfl, ?_⟩))))
  refine wpAny_loadName_free hk hkc rfl ⟨_, X0 _ _ hcell, rfl⟩ ?_
  obtain ⟨fn, hns, kn⟩ := C.ns
  refine wpAny_loadName_local hk hka hns (kn _ _ hv) ?_
  refine ks_wpAny_isType_cls hD1 hD2 ⟨rfl, ?_⟩
  refine ks_wpAny_call_super hD1 hD2 hxs rfl (fun c e => nomatch e) (looks_mroIn X0 hsub) (fun h' e kp => ?_)
  have C1 := C.keepNew (t := s.toks) kp (Nat.le_refl _) e hX
  have hlt1 : s.heap.objs.size < h'.objs.size := Heap.lt_size e
  have X1 : (K0 w.params).In h' := C1.inn
  have hm' := hm
  unfold ks_superIn at hm'
  rw [hC] at hm'
  obtain ⟨of, hof, hofc⟩ : ∃ of, h'.get? f2 = some of ∧ of.cls = .type "function" := by
    have ht' : ((K0 w.params).lookup f2).map (·.cls) = some (.type "function") := ht
    cases z : (K0 w.params).lookup f2 with
    | none => rw [z] at ht'; cases ht'
    | some of => rw [z] at ht'; exact ⟨of, X1 _ _ z, Option.some.inj ht'⟩
  have hxC : x ≠ Cc := by
    rintro rfl
    unfold clsIn at hC
    split at hC
    · rename_i c d cd' sl ho
      have e := X0 _ _ ho
      rw [hxs] at e
      cases e
    · cases hC
  refine _root_.PySem.wpAt_of_wpAny (wpAny_bind (wpAny_standAt (wpAny_bind (wpAny_holding ?_))))
  have C2 := C1.keepNew (t := s.toks + 1) (h' := h'.push (methodObj (.ref f2) (.ref x))) (a := h'.objs.size) (o := methodObj (.ref f2) (.ref x)) (fun b o e => Heap.get?_push_of_some _ e) (Nat.le_refl _) (Heap.get?_push_at rfl rfl)
      (fun y hy => Nat.lt_trans (hX y hy) hlt1)
  have le1 : G.le (G.put s.heap.objs.size (ks_superObj D' x Cc)) := Km.put_le (C.wd.newAt (Nat.le_refl _)).1
  have fin := wpAny_mono (h _ _ _ (le1.trans (Km.put_le (C1.wd.newAt (Nat.le_refl _)).1)) C2 Km.put_self) (fun _ _ z => _root_.PySem.wpAt_of_wpAny (c := .func body (envX q scope L f (.ref cda) [("__class__", cc)])) z) fun _ _ z => z
  have hmro : Looks (MD w) h' (mroOf (.ref Cc)) cdC.mro := fun A Q E s k q => wpAny_bind ((looks_clsIn X1 hC) A _ E s k (wpAny_pure q))
  rcases hgm with ⟨pl, rfl⟩ | rfl
  · exact ks_wpAny_getMethod_super (h := h') e (looks_opaque X1 hst) (l₀ := cdC.mro) hmro rfl X1 hm' hof hofc hxC hn fin
  · exact wpAny_bind (getattr_super (h := h') e (looks_opaque X1 hst) (l₀ := cdC.mro) hmro rfl X1 hm' hof hofc hxC hn (wpAny_pure fin))
-- stars
theorem R_star {t : Addr} {vs : List Value} {Q : List Value → Shared → Prop} (C : Cx X w s₀ G₀ G L m mu s) (ht : TupAt G t vs) (hz : vs.length ≤ 2000) (h : ∀ s', Cx X w s₀ G₀ G L m mu s' → Q vs s') : StarOf (MD w) A E (.ref t) Q s := by
  have D := C.get ht
  have hT' : s.TypeIs (.ref t) "tuple" := ⟨_, D, rfl⟩
  unfold StarOf notIterableAtAll
  refine wpAny_bind (wpAny_specialOf hT' PySem.F.slot_tuple_iter.lookup (wpAny_pure ⟨rfl, ?_⟩))
  refine wpAny_collect_seq (T := "tuple") t (.inr rfl) D rfl rfl (fun h' hk => ?_) (by show vs.toArray.size ≤ sizeLine; rw [List.size_toArray]; exact Nat.le_trans hz (by decide))
  have := h _ (C.grown (t := s.toks) hk C.wd.bare (Nat.le_refl _))
  simpa using this
-- a call of a method object
abbrev backR (Q : Value → Shared → Prop) (E : Value → Shared → Prop) : Result → Shared → Prop := fun r s' => match r with | .ok (.ret v) => Q v s' | .ok _ => False | .error e => E e s'
theorem R_callM0 {qa f x : Addr} {env : Env} {pos : Pos} {Q : Value → Shared → Prop} (C : Cx X w s₀ G₀ G L m mu s) (hq : G qa = some (methodObj (.ref f) (.ref x))) (hf : fnIn (K0 w.params) f = true)
    (h : codeAny (MD w) A (.call (.ref f) ⟨[.ref x], []⟩) (backR Q E) s) : wpAny (MD w) A (callWith pos (.ref qa) [] (backTo pos (starEach [] env)) []) Q E s :=
  callWith_M0 ⟨C.get hq, C.inn⟩ hf (wpAny_call (method_call (C.get hq) h))
theorem R_callM {qa f x : Addr} {env : Env} {pos : Pos} {e : Expr} {rest : List Expr} {Q : Value → Shared → Prop} (C : Cx X w s₀ G₀ G L m mu s) (hq : G qa = some (methodObj (.ref f) (.ref x))) (hf : fnIn (K0 w.params) f = true)
    (h : wpAny (MD w) A (spliced (backTo pos (starEach (e :: rest) env))) (fun vs s1 => Cx X w s₀ G₀ G L m mu s1 ∧ codeAny (MD w) A (.call (.ref f) ⟨.ref x :: vs, []⟩) (backR Q E) s1) E s)
    (he : starEach (e :: rest) env = (false, eval e env) :: starEach rest env := by rfl) : wpAny (MD w) A (callWith pos (.ref qa) [] (backTo pos (starEach (e :: rest) env)) []) Q E s := by
  rw [he] at h ⊢
  have h' : wpAny (MD w) A (evalArgs (.ref qa) true (backTo pos ((false, eval e env) :: starEach rest env)) []) (fun a s₁ => MethP (K0 w.params) qa f (.ref x) s₁.heap ∧ wpAny (MD w) A (call (.ref qa) ([] ++ a.pos) a.kw) Q E s₁) E s :=
    evalArgs_plain (wpAny_mono h (fun vs s1 ⟨C1, h1⟩ => ⟨⟨C1.get hq, C1.inn⟩, wpAny_call (method_call (C1.get hq) h1)⟩) fun _ _ z => z)
  cases q : (backTo pos ((false, eval e env) :: starEach rest env)).any (·.1) with
  | true => exact ks_call q (keeps_M hf) h'
  | false => exact callWith_of (by rw [q]; rfl) (keeps_M hf) h'
end
-- part A12
def isCls (C : Addr) : Prop := C = 344 ∨ C = 440 ∨ C = 563 ∨ C = 612
def attrNames : List Str := [Str.ofString "sort_order", Str.ofString "args", Str.ofString "isliteral", Str.ofString "iscanonical", Str.ofString "obj", Str.ofString "operator", Str.ofString "identity", Str.ofString "annihilator"]
theorem put_ok {P : Params} {C : Addr} (h : isCls C) {nm : Str} (hn : nm ∈ attrNames) : putOk (K0 P) C nm = true := by
  simp only [attrNames, List.mem_cons, List.not_mem_nil, or_false] at hn
  rcases h with rfl | rfl | rfl | rfl <;> rcases hn with rfl | rfl | rfl | rfl | rfl | rfl | rfl | rfl <;> kernel_rfl
def MadeAt (s : Shared) (d : Addr) (l : List (Str × Value)) : Prop := ∃ es n, s.heap.get? d = some (dictOf es n) ∧ EsAre es l
theorem EsAre.len : ∀ {es : List DictEntry} {l : List (Str × Value)}, EsAre es l → es.length = l.length
  | [], [], _ => rfl
  | _ :: _, _ :: _, ⟨_, _, r⟩ => congrArg (· + 1) r.len
theorem EsAre.norm {es : List DictEntry} {l l' : List (Str × Value)} (h : EsAre es l) (e : l = l') : EsAre es l' := e ▸ h
section
variable {X : List Addr} {w : World} {s₀ s s' : Shared} {G₀ G G' : Km} {L : Addr} {m m' : List (Str × Value)} {mu mu' : List (Addr × Obj)} {A : Around} {E : Value → Shared → Prop}
theorem Cx.objMu {a d Cc : Addr} {es : List DictEntry} {n : Nat} {l : List (Str × Value)} (C : Cx X w s₀ G₀ G L m ((d, dictOf es n) :: mu) s) (ha : G a = some (instObj Cc d)) (he : EsAre es l) : ObjH s.heap a Cc l :=
  ⟨d, es, n, C.get ha, C.st (d, dictOf es n) (.head _), he⟩
theorem Cx.afterX0 {d : Addr} {o o' : Obj} (C : Cx X w s₀ G₀ G L m ((d, o) :: mu) s) (W : Wd w G' s') (P : Ps [d] s G s' G') (ho : s'.heap.get? d = some o') : Cx X w s₀ G₀ G' L m ((d, o') :: mu) s' := Cx.afterX (pre := []) C W P ho
theorem Cx.set0 {a d Cc : Addr} {es : List DictEntry} {n : Nat} {name : Str} {v : Value} {Q : Unit → Shared → Prop} (C : Cx X w s₀ G₀ G L m ((d, dictOf es n) :: mu) s) (ha : s.heap.get? a = some (instObj Cc d))
    (hk : putOk (K0 w.params) Cc name = true) {l : List (Str × Value)} (he : EsAre es l) (hz : l.length ≤ 900)
    (h : ∀ s' es' n', EsAre es' (putA name v l) → Cx X w s₀ G₀ G L m ((d, dictOf es' n') :: mu) s' → Q () s') : wpAny (MD w) A (setAttr (.ref a) name v) Q E s :=
  Cx.set (pre := []) C ha hk he (he.len ▸ hz) fun s' es' n' e _ C' => h s' es' n' e C'
theorem R_tuple0 {Q : Value → Shared → Prop} (C : Cx X w s₀ G₀ G L m mu s) (hX : ∀ x ∈ X, x < s₀.heap.objs.size) (h : ∀ tp s' G', G.le G' → TupAt G' tp [] → Cx X w s₀ G₀ G' L m mu s' → Q (.ref tp) s') : wpAny (MD w) A (call (.type "tuple") []) Q E s :=
  call_tuple_nil (h _ _ _ (Km.put_le (C.wd.newAt (Nat.le_refl _)).1) Km.put_self
    (C.keepNew (t := s.toks) (fun b o e => Heap.get?_push_of_some _ e) (Nat.le_refl _) (Heap.get?_push_size _ rfl) fun x hx => Nat.lt_of_lt_of_le (hX x hx) C.ps.ex.size))
theorem R_tupleT {t : Addr} {vs : List Value} {Q : Value → Shared → Prop} (C : Cx X w s₀ G₀ G L m mu s) (ht : TupAt G t vs) (h : Q (.ref t) s) : wpAny (MD w) A (call (.type "tuple") [.ref t]) Q E s :=
  call_tuple_same (items := vs.toArray) ⟨_, C.get ht, rfl, 0, rfl⟩ h
theorem R_item {t : Addr} {vs : List Value} {value slice : Expr} {k : Int} {u : Tok} {j : Nat} {x : Value} {Q : Value → Shared → Prop} (C : Cx X w s₀ G₀ G L m mu s) (ht : TupAt G t vs) (hj : seqIndex? k vs.length = some j) (hx : vs[j]? = some x)
    (hlo : -(2 ^ 63) ≤ k) (hhi : k < 2 ^ 63) (h : Q x s) (hs : subscripted slice false (.ref t) (.int k u) = operate [.ref t, .int k u] (getItem (.ref t) (.int k u))) : wpAny (MD w) A (subscriptTail value slice (.ref t) (.int k u)) Q E s :=
  tail_any (T := "tuple") ⟨_, C.get ht, rfl⟩ slot_tuple_getitem.lookup (getItem_tuple (ht.tup C.wd) hlo hhi (by rw [List.size_toArray]; exact hj) (by rw [List.getElem?_toArray]; exact hx) h) hs
end
-- part A13
def exCls : List Addr := [344, 440, 563, 612, 232, 280]
def mroTab (D : Addr) : List Addr :=
  if D = 344 then [344, 142] else if D = 440 then [440, 372, 142] else if D = 563 then [563, 514, 372, 142] else if D = 612 then [612, 514, 372, 142] else if D = 232 then [232, 184, 142] else [280, 184, 142]
def isiTab (D C : Addr) : Bool := (mroTab D).contains C
def tgCls : List Addr := [142, 344, 440, 563, 612, 184, 232, 280]
theorem isi_tab {P : Params} {D C : Addr} (hD : D ∈ exCls) (hC : C ∈ tgCls) : (isIn (K0 P) (.ref D) C == isiTab D C && kin_not (K0 P) D C == !isiTab D C) = true := by
  simp only [exCls, tgCls, List.mem_cons, List.not_mem_nil, or_false] at hD hC
  rcases hD with rfl | rfl | rfl | rfl | rfl | rfl <;> rcases hC with rfl | rfl | rfl | rfl | rfl | rfl | rfl | rfl <;> kernel_rfl
def isiOk (K : Frag) (D : Addr) : Bool :=
  plainGet K D "__class__" && hasDictIn K D && (findIn K (.ref D) "__class__" == some (some (.builtin "object.__class__"))) && (specialIn K (.builtin "object.__class__") "__get__" == some (some (.builtin "getset_descriptor.__get__"))) &&
    (takesIn K (.builtin "object.__class__") == some true) && (mroIn K D (.type "object") == some true)
theorem isi_ok {P : Params} {D : Addr} (hD : D ∈ exCls) : isiOk (K0 P) D = true := by
  simp only [exCls, List.mem_cons, List.not_mem_nil, or_false] at hD
  rcases hD with rfl | rfl | rfl | rfl | rfl | rfl <;> kernel_rfl
section
variable {X : List Addr} {w : World} {s₀ s s' : Shared} {G₀ G G' : Km} {L : Addr} {m m' : List (Str × Value)} {mu mu' : List (Addr × Obj)} {A : Around} {E : Value → Shared → Prop}
theorem R_isi {a D T : Addr} {l : List (Str × Value)} {Q : Value → Shared → Prop} (C : Cx X w s₀ G₀ G L m mu s) (I : ObjH s.heap a D l) (hD : D ∈ exCls) (hT : T ∈ tgCls)
    (h : ∀ s', Cx X w s₀ G₀ G L m mu s' → Q (.bool (isiTab D T)) s') : wpAny (MD w) A (call (.builtin "isinstance") [.ref a, .ref T]) Q E s := by
  have t := isi_tab (P := w.params) hD hT
  rw [Bool.and_eq_true, beq_iff_eq, beq_iff_eq] at t
  obtain ⟨t1, t2⟩ := t
  cases q : isiTab D T with
  | true =>
    rw [q] at t1 h
    exact isi_call C.inn (fun M => I.type) t1 (fun e => nomatch e) (h _ C)
  | false =>
    rw [q] at t2 h
    have o := isi_ok (P := w.params) hD
    unfold isiOk at o
    simp only [Bool.and_eq_true, beq_iff_eq] at o
    obtain ⟨⟨⟨⟨⟨o1, o2⟩, o3⟩, o4⟩, o5⟩, o6⟩ := o
    obtain ⟨d, es, n, I, he⟩ := I.inst
    exact kin_callC C.inn I t2 o1 o2 o3 o4 o5 o6 (h _ (C.toks _))
theorem R_isiT {a D T : Addr} {l : List (Str × Value)} {Q : Value → Shared → Prop} (C : Cx X w s₀ G₀ G L m mu s) (I : ObjH s.heap a D l) (hD : D ∈ exCls) (hT : T ∈ tgCls) (hb : isiTab D T = true)
    (h : ∀ s', Cx X w s₀ G₀ G L m mu s' → Q (.bool true) s') : wpAny (MD w) A (call (.builtin "isinstance") [.ref a, .ref T]) Q E s := R_isi C I hD hT (by rw [hb]; exact h)
theorem R_isiF {a D T : Addr} {l : List (Str × Value)} {Q : Value → Shared → Prop} (C : Cx X w s₀ G₀ G L m mu s) (I : ObjH s.heap a D l) (hD : D ∈ exCls) (hT : T ∈ tgCls) (hb : isiTab D T = false)
    (h : ∀ s', Cx X w s₀ G₀ G L m mu s' → Q (.bool false) s') : wpAny (MD w) A (call (.builtin "isinstance") [.ref a, .ref T]) Q E s := R_isi C I hD hT (by rw [hb]; exact h)
def IsEx (G : Km) (v : Value) : Prop := ∃ a D l, v = .ref a ∧ ObjAt G a D l ∧ D ∈ exCls
theorem IsEx.mono {G G' : Km} {v : Value} (h : G.le G') (x : IsEx G v) : IsEx G' v := let ⟨a, D, l, e, o, m⟩ := x; ⟨a, D, l, e, o.mono h, m⟩
theorem R_class {a D : Addr} {l : List (Str × Value)} {expr : Bool} {Q : Value → Shared → Prop} (C : Cx X w s₀ G₀ G L m mu s) (I : ObjH s.heap a D l) (hD : D ∈ exCls)
    (h : ∀ s', Cx X w s₀ G₀ G L m mu s' → Q (.ref D) s') : wpAny (MD w) A (getAttr (.ref a) "__class__" expr) Q E s := by
  have o := isi_ok (P := w.params) hD
  unfold isiOk at o
  simp only [Bool.and_eq_true, beq_iff_eq] at o
  obtain ⟨⟨⟨⟨⟨o1, o2⟩, o3⟩, o4⟩, o5⟩, o6⟩ := o
  obtain ⟨d, es, n, I, he⟩ := I.inst
  exact get_bind C.inn I (plainGet_of o1).1 (findObj_data (by obtain ⟨cd, hc, _⟩ := any_some o2; rw [hc]; rfl) o3 o4 o5) (plainGet_of o1).2
    (wpAny_call (class_get (s := { s with toks := s.toks + 1 }) (ox := instObj D d) (od := some (dictOf es n)) C.inn I o6 (handed_on rfl (h _ (C.toks _)))))
end
-- part A14
def SeqAt (G : Km) (t : Addr) (vs : List Value) : Prop := ∃ T n, (T = "list" ∨ T = "tuple") ∧ G t = some { cls := .type T, data := .seq vs.toArray n }
theorem SeqAt.mono {G G' : Km} {t : Addr} {vs : List Value} (h : G.le G') (x : SeqAt G t vs) : SeqAt G' t vs := let ⟨T, n, h1, h2⟩ := x; ⟨T, n, h1, h _ _ h2⟩
theorem TupAt.seq {G : Km} {t : Addr} {vs : List Value} (x : TupAt G t vs) : SeqAt G t vs := ⟨"tuple", 0, .inr rfl, x⟩
section
variable {X : List Addr} {w : World} {s₀ s s' s₁ s₂ : Shared} {G₀ G G' G₁ G₂ : Km} {L : Addr} {m m' : List (Str × Value)} {mu mu' : List (Addr × Obj)} {A : Around} {E : Value → Shared → Prop} {R : Result → Shared → Prop}
theorem Ps.drop {d : Addr} (P : Ps [] s G s₁ G₁) (P2 : Ps [d] s₁ G₁ s₂ G₂) (hd : s.heap.objs.size ≤ d) (ht : d ∉ tabL) : Ps [] s G s₂ G₂ := by
  refine ⟨⟨fun b o e n _ => ?_, fun P' hP ps e => ?_, Nat.le_trans P.ex.size P2.ex.size, P2.ex.os.trans P.ex.os, P2.ex.drawn.trans P.ex.drawn, Nat.le_trans P.ex.gsz P2.ex.gsz⟩, P.le.trans P2.le, fun b e n => ?_⟩
  · exact P2.ex.keep b o (P.ex.keep b o e n (fun h => nomatch h)) n fun h => Nat.lt_irrefl _ (Nat.lt_of_lt_of_le (List.mem_singleton.mp h ▸ Heap.lt_size e) hd)
  · obtain ⟨m1, e1⟩ := P.ex.grow P' hP ps e
    obtain ⟨m2, e2⟩ := P2.ex.grow P' hP _ e1
    exact ⟨m1 ++ m2, by rw [e2, Array.append_assoc]⟩
  · cases q : G₁ b with
    | none => exact Nat.le_trans P.ex.size (P2.fresh b q n)
    | some o => exact P.fresh b e (by rw [q]; exact fun z => nomatch z)
-- a new object whose dict still stands open
structure NewObj (w : World) (s : Shared) (G : Km) (s' : Shared) (G' : Km) (x d C : Addr) (l : List (Str × Value)) : Prop where
  wd : Wd w G' s'
  ps : Ps [] s G s' G'
  at_ : G' x = some (instObj C d)
  new : s.heap.objs.size ≤ d
  off : G' d = none
  tab : d ∉ tabL
  made : MadeAt s' d l
theorem NewObj.freeze {x d C : Addr} {l : List (Str × Value)} (N : NewObj w s G s' G' x d C l) : ∃ G'', Wd w G'' s' ∧ Ps [] s G s' G'' ∧ ObjAt G'' x C l ∧ G'.le G'' := by
  obtain ⟨es, n, h, he⟩ := N.made
  refine ⟨G'.put d (dictOf es n), N.wd.put h N.off N.tab, ⟨N.ps.ex, N.ps.le.trans (Km.put_le N.off), fun b e q => ?_⟩, ⟨d, es, n, Km.put_le N.off _ _ N.at_, Km.put_self, he⟩, Km.put_le N.off⟩
  unfold Km.put at q
  split at q
  · rename_i z; rw [z]; exact N.new
  · exact N.ps.fresh b e q
theorem NewObj.of {x d C : Addr} {l : List (Str × Value)} (P : Ps [] s G s₁ G₁) (N : NewObj w s₁ G₁ s' G' x d C l) : NewObj w s G s' G' x d C l := ⟨N.wd, P.trans N.ps, N.at_, Nat.le_trans P.ex.size N.new, N.off, N.tab, N.made⟩
theorem Rm.under {k : Nat} {C : Addr} {vs : List Value} (r : Rm A (k + 1)) : Rm (A.under (.builtin "type.__call__" ⟨.ref C :: vs, []⟩)) k := by
  obtain ⟨h1, h2, h3, fs, h4⟩ := r
  have e1 : (Code.builtin "type.__call__" ⟨.ref C :: vs, []⟩).weight = 1 := by kernel_rfl
  have e2 : (Code.builtin "type.__call__" ⟨.ref C :: vs, []⟩).cUnits = 1 := by kernel_rfl
  have e3 : (Code.builtin "type.__call__" ⟨.ref C :: vs, []⟩).envs = [] := by kernel_rfl
  refine ⟨h1, ?_, ?_, fs, by show pushEnvs (Code.builtin "type.__call__" ⟨.ref C :: vs, []⟩).envs A.frames = _; rw [e3]; exact h4⟩
  · show A.depth + (Code.builtin "type.__call__" ⟨.ref C :: vs, []⟩).weight + 4 * k ≤ 990; omega
  · show A.units + (Code.builtin "type.__call__" ⟨.ref C :: vs, []⟩).cUnits + 60 * k ≤ 9800; omega
theorem make_obj {C fI : Addr} {vs : List Value} {k : Nat} (W : Wd w G s) (rm : Rm A (k + 1)) (hm : makesIn (K0 w.params) C = true) (hi : findIn (K0 w.params) (.ref C) "__init__" = some (some (.ref fI))) (hf : typeIn (K0 w.params) (.ref fI) = some (.type "function"))
    (h : ∀ x d s1 G1, Wd w G1 s1 → Ps [] s G s1 G1 → G1 x = some (instObj C d) → s1.heap.get? d = some (dictOf [] 0) → G1 d = none → d ∉ tabL → s.heap.objs.size ≤ d → Rm (A.under (.builtin "type.__call__" ⟨.ref C :: vs, []⟩)) k →
      codeAny (MD w) (A.under (.builtin "type.__call__" ⟨.ref C :: vs, []⟩)) (.call (.ref fI) ⟨.ref x :: vs, []⟩) (InitBack x R) s1) : codeAny (MD w) A (.call (.ref C) ⟨vs, []⟩) R s := by
  obtain ⟨hh, g, dr, t, os⟩ := s
  have W1 : Wd w G ⟨hh.push emptyDict, g, dr, t, os⟩ := W.push (s := ⟨hh, g, dr, t, os⟩)
  have P1 : Ps [] ⟨hh, g, dr, t, os⟩ G ⟨hh.push emptyDict, g, dr, t, os⟩ G := ⟨Ex.push (s := ⟨hh, g, dr, t, os⟩) (Ex.refl _ _), Km.le.refl G, fun _ e n => absurd e n⟩
  obtain ⟨W2, P2⟩ := W1.new (o := instObj C hh.objs.size)
  have e1 : (hh.push emptyDict).objs.size = hh.objs.size + 1 := Heap.size_push ..
  have nw := W.newAt (s := ⟨hh, g, dr, t, os⟩) (a := hh.objs.size) (Nat.le_refl _)
  refine make_core (makes_of W.inn hm) (looks_findIn W.inn hi) (fun self => _root_.PySem.W.bind_fn W.inn self hf) (.inl rfl) ?_
  refine h (hh.objs.size + 1) hh.objs.size _ _ W2 (P1.trans P2) ?_ ?_ ?_ nw.2 (Nat.le_refl _) rm.under
  · show Km.put G (hh.push emptyDict).objs.size _ (hh.objs.size + 1) = _
    rw [e1]; exact Km.put_self
  · exact Heap.get?_push_of_some _ (Heap.get?_push_size _ rfl)
  · show Km.put G (hh.push emptyDict).objs.size _ hh.objs.size = _
    rw [e1]
    unfold Km.put
    rw [if_neg (Nat.ne_of_lt (Nat.lt_succ_self _))]; exact nw.1
theorem R_starS {t : Addr} {vs : List Value} {Q : List Value → Shared → Prop} (C : Cx X w s₀ G₀ G L m mu s) (ht : SeqAt G t vs) (hz : vs.length ≤ 2000) (h : ∀ s', Cx X w s₀ G₀ G L m mu s' → Q vs s') : StarOf (MD w) A E (.ref t) Q s := by
  obtain ⟨T, n, hT, hG⟩ := ht
  have D := C.get hG
  have hT' : s.TypeIs (.ref t) T := ⟨_, D, rfl⟩
  have z : wpAny (MD w) A (collect (.ref t)) Q E s := by
    refine wpAny_collect_seq (T := T) t hT D rfl rfl (fun h' hk => ?_) (by show vs.toArray.size ≤ sizeLine; rw [List.size_toArray]; exact Nat.le_trans hz (by decide))
    have := h _ (C.grown (t := s.toks) hk C.wd.bare (Nat.le_refl _))
    simpa using this
  unfold StarOf notIterableAtAll
  rcases hT with rfl | rfl
  · exact wpAny_bind (wpAny_specialOf hT' PySem.F.slot_list_iter.lookup (wpAny_pure ⟨rfl, z⟩))
  · exact wpAny_bind (wpAny_specialOf hT' PySem.F.slot_tuple_iter.lookup (wpAny_pure ⟨rfl, z⟩))
theorem Wd.weaken (W : Wd w G s) (W' : Wd w G' s') (le : G.le G') : Wd w G s' := ⟨fun b o e => W'.keep b o (le b o e), W.kin, W'.tabs, W.off, W'.bare⟩
theorem Ps.weaken (P : Ps X s G s' G') : Ps X s G s' G := ⟨P.ex, Km.le.refl G, fun _ e n => absurd e n⟩
-- a goal that the walk leaves alone
def Held (P : Prop) : Prop := P
theorem of_held {P : Prop} (h : Held P) : P := h
-- loops whose next turn stands behind a word
def Again (I : Nat → Shared → Prop) (n : Nat) (s : Shared) : Prop := ∃ m, m < n ∧ I m s
theorem R_while {test : Expr} {body orelse : List Stmt} {env : Env} (I : Nat → Shared → Prop)
    (turn : ∀ n s, I n s →
      wpAny (MD w) A (isTrue test env (eval test env)) (fun b s₂ =>
        if b then wpAny (MD w) A (execs body env) (fun f s₃ => match f with
            | .next | .cont => Again I n s₃
            | .brk => R (.ok .next) s₃
            | .ret v => R (.ok (.ret v)) s₃) (notedBy (MD w) A env fun e s' => R (.error e) s') s₂
        else wpAny (MD w) A (execs orelse env) (fun f s₃ => R (.ok f) s₃) (notedBy (MD w) A env fun e s' => R (.error e) s') s₂)
        (notedBy (MD w) A env fun e s' => R (.error e) s') s)
    (n : Nat) (h : I n s) : codeAny (MD w) A (.whileLoop test body orelse env) R s := codeAny_whileLoop I turn n h
theorem R_for {target : Expr} {it : Value} {body orelse : List Stmt} {env : Env} (I : Nat → Shared → Prop)
    (turn : ∀ n s, I n s → wpAny (MD w) A (pyNext it) (fun r s₁ => match r with
      | none => wpAny (MD w) A (execs orelse env) (fun f s₃ => R (.ok f) s₃) (notedBy (MD w) A env fun e s' => R (.error e) s') s₁
      | some v => wpAny (MD w) A (assign target env v) (fun _ s₂ => wpAny (MD w) A (execs body env) (fun f s₃ => match f with
          | .next | .cont => Again I n s₃
          | .brk => R (.ok .next) s₃
          | .ret v => R (.ok (.ret v)) s₃) (notedBy (MD w) A env fun e s' => R (.error e) s') s₂) (notedBy (MD w) A env fun e s' => R (.error e) s') s₁) (notedBy (MD w) A env fun e s' => R (.error e) s') s)
    (n : Nat) (h : I n s) (ht : ∀ v, letOwnedTupleGo target it v = pure ()) : codeAny (MD w) A (.forLoop target it body orelse env) R s := codeAny_forLoop I turn n h ht
end
-- part A15
def eqFn (D : Addr) : Addr := if D = 344 then 327 else if D = 232 then 208 else if D = 280 then 256 else 90
def ltFn (D : Addr) : Addr := if D = 344 then 334 else 437
theorem eq_tab {P : Params} {D : Addr} (hD : D ∈ exCls) : (findIn (K0 P) (.ref D) "__eq__" == some (some (.ref (eqFn D))) && isFn (K0 P) (.ref (eqFn D)) && findIn (K0 P) (.ref D) "__gt__" == some (some (.ref 111)) && isFn (K0 P) (.ref 111)) = true := by
  simp only [exCls, List.mem_cons, List.not_mem_nil, or_false] at hD
  rcases hD with rfl | rfl | rfl | rfl | rfl | rfl <;> kernel_rfl
theorem lt_tab {P : Params} {D : Addr} (hD : D = 344 ∨ D = 440) : (findIn (K0 P) (.ref D) "__lt__" == some (some (.ref (ltFn D))) && isFn (K0 P) (.ref (ltFn D))) = true := by
  rcases hD with rfl | rfl <;> kernel_rfl
theorem nf_tab {P : Params} {D D' : Addr} (hD : D ∈ exCls) (hD' : D' ∈ exCls) : notFirst (K0 P) D (.ref D') = true := by
  simp only [exCls, List.mem_cons, List.not_mem_nil, or_false] at hD hD'
  rcases hD with rfl | rfl | rfl | rfl | rfl | rfl <;> rcases hD' with rfl | rfl | rfl | rfl | rfl | rfl <;> kernel_rfl
section
variable {w : World} {s s' s1 : Shared} {G G' : Km} {A : Around} {E : Value → Shared → Prop}
theorem tryCmp {a b D f : Addr} {l : List (Str × Value)} {nm : Str} {Q : Option Value → Shared → Prop} (W : Wd w G s) (Ia : ObjAt G a D l) (hf : findIn (K0 w.params) (.ref D) nm = some (some (.ref f))) (hi : isFn (K0 w.params) (.ref f) = true)
    (h : codeAny (MD w) A (.call (.ref f) ⟨[.ref a, .ref b], []⟩) (fun r s1 => ∃ v, r = .ok (.ret v) ∧ Q (match v with | .notImplemented => none | v => some v) s1) s) : wpAny (MD w) A (tryCompare (.ref a) nm (.ref b)) Q E s := by
  obtain ⟨d, es, n, I, _⟩ := (Ia.here W).inst
  unfold tryCompare
  refine wpAny_bind (ifBound_K W.inn I hf hi (wpAny_call (codeAny_mono h fun r s1 hr => ?_)))
  obtain ⟨v, rfl, hq⟩ := hr
  show wpAny _ _ (match some v with | some .notImplemented | none => pure none | some v => pure (some v)) _ _ _
  cases v <;> exact wpAny_pure hq
theorem R_cmp {op : CmpOp} {a b D D' f g : Addr} {la lb : List (Str × Value)} {Q : Value → Shared → Prop} (W : Wd w G s) (hu : A.units < cLine) (Ia : ObjAt G a D la) (Ib : ObjAt G b D' lb) (hD : D ∈ exCls) (hD' : D' ∈ exCls)
    (hf : findIn (K0 w.params) (.ref D) (cmpInfo op).2.1 = some (some (.ref f))) (hi : isFn (K0 w.params) (.ref f) = true) (hg : findIn (K0 w.params) (.ref D') (cmpInfo op).2.2 = some (some (.ref g))) (hj : isFn (K0 w.params) (.ref g) = true)
    (h : codeAny (MD w) A (.call (.ref f) ⟨[.ref a, .ref b], []⟩) (fun r s1 => ∃ v, r = .ok (.ret v) ∧ ((v ≠ .notImplemented ∧ Q v s1) ∨ (v = .notImplemented ∧ ∃ G1, Wd w G1 s1 ∧ G.le G1 ∧
      codeAny (MD w) A (.call (.ref g) ⟨[.ref b, .ref a], []⟩) (fun r s2 => ∃ v, r = .ok (.ret v) ∧ ((v ≠ .notImplemented ∧ Q v s2) ∨ (v = .notImplemented ∧ op = .Eq ∧ a ≠ b ∧ ∃ G2, Wd w G2 s2 ∧ G1.le G2 ∧ Q (.bool false) s2))) s1))) s) :
    wpAny (MD w) A (richCompare op (.ref a) (.ref b)) Q E s := by
  obtain ⟨d, es, n, I, _⟩ := (Ia.here W).inst
  obtain ⟨d', es', n', I', _⟩ := (Ib.here W).inst
  have tail : ∀ {s1 : Shared} {G1 : Km}, Wd w G1 s1 → G.le G1 → codeAny (MD w) A (.call (.ref g) ⟨[.ref b, .ref a], []⟩) (fun r s2 => ∃ v, r = .ok (.ret v) ∧ ((v ≠ .notImplemented ∧ Q v s2) ∨ (v = .notImplemented ∧ op = .Eq ∧ a ≠ b ∧ ∃ G2, Wd w G2 s2 ∧ G1.le G2 ∧ Q (.bool false) s2))) s1 →
      wpAny (MD w) A (do
        if let some v ← tryCompare (.ref b) (cmpInfo op).2.2 (.ref a) then return v
        match op with
        | .Eq => rule "compare.eq-identity"; return .bool (← isSame (.ref a) (.ref b))
        | .NotEq => rule "compare.ne-identity"; return .bool (!(← isSame (.ref a) (.ref b)))
        | _ =>
          rule "compare.unsupported"
          raiseError "TypeError" s!"'{(cmpInfo op).1}' not supported between instances of '{← typeNameOf (.ref a)}' and '{← typeNameOf (.ref b)}'") Q E s1 := by
    intro s1 G1 W1 le hc
    refine wpAny_bind (tryCmp W1 (Ib.mono le) hg hj (codeAny_mono hc fun r s2 hr => ?_))
    obtain ⟨v, rfl, hq⟩ := hr
    refine ⟨v, rfl, ?_⟩
    rcases hq with ⟨hv, hq⟩ | ⟨rfl, rfl, hab, G2, W2, le2, hq⟩
    · cases v <;> first | exact absurd rfl hv | exact wpAny_pure hq
    · show wpAny _ _ (rule "compare.eq-identity" >>= _) _ _ _
      refine wpAny_bind (wpAny_rule (wpAny_bind ?_))
      obtain ⟨_, _, _, J, _⟩ := ((Ia.mono (le.trans le2)).here W2).inst
      obtain ⟨_, _, _, J', _⟩ := ((Ib.mono (le.trans le2)).here W2).inst
      exact wpAny_isSame_ref_other hab J.at_ J'.at_ (by intro e; cases e) (wpAny_pure hq)
  have main : wpAny (MD w) A (do
        if let some v ← tryCompare (.ref a) (cmpInfo op).2.1 (.ref b) then return v
        if let some v ← tryCompare (.ref b) (cmpInfo op).2.2 (.ref a) then return v
        match op with
        | .Eq => rule "compare.eq-identity"; return .bool (← isSame (.ref a) (.ref b))
        | .NotEq => rule "compare.ne-identity"; return .bool (!(← isSame (.ref a) (.ref b)))
        | _ =>
          rule "compare.unsupported"
          raiseError "TypeError" s!"'{(cmpInfo op).1}' not supported between instances of '{← typeNameOf (.ref a)}' and '{← typeNameOf (.ref b)}'") Q E s := by
    refine wpAny_bind (tryCmp W Ia hf hi (codeAny_mono h fun r s1 hr => ?_))
    obtain ⟨v, rfl, hq⟩ := hr
    refine ⟨v, rfl, ?_⟩
    rcases hq with ⟨hv, hq⟩ | ⟨rfl, G1, W1, le, hq⟩
    · cases v <;> first | exact absurd rfl hv | exact wpAny_pure hq
    · exact tail W1 le hq
  unfold richCompare
  simp only [oneThing_ref]
  refine wpAny_holding (wpAny_bind (wpAny_cRoomFor hu ?_))
  refine wpAny_bind (I.type.here (wpAny_bind (I'.type.here ?_)))
  have hn := nf_tab (P := w.params) hD hD'
  split
  · rename_i q
    have e : subIn (K0 w.params) (.ref D') (.ref D) = some false := by
      rcases Bool.or_eq_true_iff.mp hn with e | e
      · rw [beq_iff_eq.mp e] at q; simp at q
      · exact beq_iff_eq.mp e
    refine wpAny_bind ((looks_subIn W.inn e).here ?_)
    simp only [Bool.false_eq_true, if_false, Bool.not_false, if_true]
    exact main
  · refine wpAny_bind (wpAny_pure ?_)
    simp only [Bool.false_eq_true, if_false, Bool.not_false, if_true]
    exact main
theorem is_refs {M : Model} {a b : Addr} {v : Bool} {Q : Value → Shared → Prop} (hv : wpAny M A (isSame (.ref a) (.ref b)) (fun r s' => r = v ∧ s' = s) E s) (h : Q (.bool v) s) : wpAny M A (compareOp .Is (.ref a) (.ref b)) Q E s := by
  unfold compareOp
  refine wpAny_bind (wpAny_mono hv (fun r s' z => ?_) fun _ _ e => e)
  obtain ⟨rfl, rfl⟩ := z
  exact wpAny_pure h
theorem R_isEq {M : Model} {a : Addr} {Q : Value → Shared → Prop} (h : Q (.bool true) s) : wpAny M A (compareOp .Is (.ref a) (.ref a)) Q E s := is_refs (wpAny_isSame_ref_self ⟨rfl, rfl⟩) h
theorem R_isNe {a b D D' : Addr} {la lb : List (Str × Value)} {Q : Value → Shared → Prop} (hab : a ≠ b) (Ia : ObjH s.heap a D la) (Ib : ObjH s.heap b D' lb) (h : Q (.bool false) s) : wpAny (MD w) A (compareOp .Is (.ref a) (.ref b)) Q E s := by
  obtain ⟨_, _, _, I, _⟩ := Ia.inst
  obtain ⟨_, _, _, I', _⟩ := Ib.inst
  exact is_refs (wpAny_isSame_ref_other hab I.at_ I'.at_ (by intro e; cases e) ⟨rfl, rfl⟩) h
end
-- part A16
def EqP (w : World) (n : Nat) (G : Km) (a b : Addr) (r : Bool) : Prop := ∀ (A : Around) (E : Value → Shared → Prop) (s : Shared) (G' : Km) (Q : Value → Shared → Prop), Wd w G' s → G.le G' → Rm A n →
  (∀ s', Wd w G' s' → Ps [] s G' s' G' → Q (.bool r) s') → wpAny (MD w) A (richCompare .Eq (.ref a) (.ref b)) Q E s
def EqB (w : World) (n : Nat) (G : Km) (a b : Addr) (r : Bool) : Prop := (a = b ∧ r = true) ∨ (a ≠ b ∧ EqP w n G a b r)
theorem EqP.up {w : World} {n n' : Nat} {G : Km} {a b : Addr} {r : Bool} (h : n ≤ n') (x : EqP w n G a b r) : EqP w n' G a b r := fun A E s G2 Q W le rm => x A E s G2 Q W le (rm.le h)
theorem EqP.mono {w : World} {n : Nat} {G G' : Km} {a b : Addr} {r : Bool} (h : G.le G') (x : EqP w n G a b r) : EqP w n G' a b r := fun A E s G2 Q W le => x A E s G2 Q W (h.trans le)
theorem EqB.up {w : World} {n n' : Nat} {G : Km} {a b : Addr} {r : Bool} (h : n ≤ n') (x : EqB w n G a b r) : EqB w n' G a b r := x.imp id fun ⟨q, y⟩ => ⟨q, y.up h⟩
theorem EqB.mono {w : World} {n : Nat} {G G' : Km} {a b : Addr} {r : Bool} (h : G.le G') (x : EqB w n G a b r) : EqB w n G' a b r := x.imp id fun ⟨n, y⟩ => ⟨n, y.mono h⟩
def EqAll (w : World) (n : Nat) (G : Km) (b : Addr) : List Value → List Bool → Prop
  | [], [] => True
  | v :: vs, r :: rs => (∃ a, v = .ref a ∧ EqB w n G a b r) ∧ EqAll w n G b vs rs
  | _, _ => False
section
variable {X : List Addr} {w : World} {s₀ s s' s1 : Shared} {G₀ G G' : Km} {L : Addr} {m : List (Str × Value)} {mu : List (Addr × Obj)} {A : Around} {E : Value → Shared → Prop}
theorem R_eqBool {n : Nat} {a b : Addr} {r : Bool} {Q : Bool → Shared → Prop} (W : Wd w G s) (rm : Rm A n) (e : EqB w n G a b r) (h : ∀ s', Wd w G s' → Ps [] s G s' G → Q r s') : wpAny (MD w) A (eqBool (.ref a) (.ref b)) Q E s := by
  unfold eqBool
  refine wpAny_holding ?_
  rcases e with ⟨rfl, rfl⟩ | ⟨hne, e⟩
  · rw [if_pos (beq_self_eq_true _)]
    exact wpAny_bind (wpAny_rule (wpAny_pure (h s W (Ps.refl _ _ _))))
  · rw [if_neg (by simpa using hne)]
    exact wpAny_bind (e A E s G _ W (Km.le.refl G) rm fun s' W' P' => wpAny_truthy_bool (h s' W' P'))
abbrev finP (w : World) (A : Around) (Q : Value → Shared → Prop) (E : Value → Shared → Prop) : Fin → Shared → Prop := fun fin s' => match fin with
  | .done f => backR Q E (.ok f) s'
  | .again c' => c'.quiet = true ∧ codeAny (MD w) A c' (backR Q E) s'
theorem wpAny_call_slot {T : String} {name : Str} {id : String} {b : Builtin} {self : Value} {rest : List Value} {Q : Value → Shared → Prop} (hs : Slot T name id) (hT : s.TypeIs self T) (hb : entryFor table id = some b) (ha : argsOk id ⟨self :: rest, []⟩)
    (hc : wpAny (MD w) A.in1 (b ⟨self :: rest, []⟩) (finP w A Q E) E s) : wpAny (MD w) A (call (.builtin id) (self :: rest)) Q E s :=
  wpAny_call (codeAny_call_builtin hs.plain hb (hs.check _ _ _ _ _ _ _ _ hT ha hc))
-- in a tuple
theorem in_tup {n : Nat} {t b : Addr} {vs : List Value} {rs : List Bool} {Q : Bool → Shared → Prop} (C : Cx X w s₀ G₀ G L m mu s) (rm : Rm A (n + 1)) (ht : TupAt G t vs) (he : EqAll w n G b vs rs) (h : ∀ s', Cx X w s₀ G₀ G L m mu s' → Q (rs.any id) s') :
    wpAny (MD w) A (contains (.ref t) (.ref b)) Q E s := by
  have T := ht.tup C.wd
  unfold contains
  refine wpAny_holding ?_
  refine wpAny_bind (wpAny_specialOf T.typeIs PyProof.Rows.slot_tuple_contains.lookup ?_)
  rw [if_neg (by decide)]
  refine wpAny_bind (wpAny_callSpecialUnlessNone?_slot (name := Str.ofString "__contains__") T.typeIs PyProof.Rows.slot_tuple_contains (wpAny_call_entry PyProof.Rows.slot_tuple_contains T.typeIs PyProof.Rows.entry_tuple_contains ?_ (PyProof.Rows.args_tuple_contains _ _)))
  show wpAny _ _ (Builtin.Tuple.tupleItemsOf (.ref t) >>= _) _ _ s
  refine wpAny_bind (tupleItemsOf_ T ?_)
  refine wpAny_bind (forIn_array_ _ (fun rest c s' => c.1 = none ∧ Cx X w s₀ G₀ G L m mu s' ∧ ∃ qs, EqAll w n G b rest qs ∧ qs.any id = rs.any id) _ ?_ ?_ vs.toArray _ ⟨rfl, C, rs, by simpa using he, rfl⟩)
  · rintro y rest c s' ⟨hc, C', qs, hq, hr⟩
    cases qs with
    | nil => exact hq.elim
    | cons r qs =>
      obtain ⟨⟨a, rfl, hab⟩, hq⟩ := hq
      refine wpAny_bind (R_eqBool C'.wd (rm.in1) hab fun s2 W2 P2 => ?_)
      have C2 := C'.after W2 P2
      rw [List.any_cons] at hr
      cases r with
      | true =>
        rw [id, Bool.true_or] at hr
        exact wpAny_bind (wpAny_pure (wpAny_pure (wpAny_pure ⟨_, rfl, wpAny_truthy_bool (hr ▸ h _ C2)⟩)))
      | false =>
        rw [id, Bool.false_or] at hr
        exact wpAny_pure ⟨rfl, C2, qs, hq, hr⟩
  · rintro ⟨b1, b2⟩ s' ⟨hb, C', qs, hq, hr⟩
    cases qs with
    | cons r qs => exact hq.elim
    | nil =>
      simp only at hb
      subst hb
      exact wpAny_pure ⟨_, rfl, wpAny_truthy_bool (by rw [← hr] at h; exact h _ C')⟩
-- in a list of the call's own
abbrev lstObj (vs : List Value) (n : Nat) : Obj := { cls := .type "list", data := .seq vs.toArray n }
theorem in_loop {k : Nat} {t b : Addr} {n : Nat} {vs : List Value} {R : Result → Shared → Prop} (rm : Rm A (k + 2)) (hm : (t, lstObj vs n) ∈ mu) : ∀ (rest : List Value) (qs : List Bool) (i : Nat) (s : Shared), Cx X w s₀ G₀ G L m mu s → vs.drop i = rest → EqAll w k G b rest qs →
    (∀ s', Cx X w s₀ G₀ G L m mu s' → R (.ok (.ret (.bool (qs.any id)))) s') → codeAny (MD w) A (.builtin "list.__contains__.loop" ⟨[.ref t, .ref b, rawInt i], []⟩) R s := by
  intro rest
  induction rest with
  | nil =>
    intro qs i s C hd he h
    cases qs with
    | cons => exact he.elim
    | nil =>
      refine codeAny_builtin PySem.MeetsSeq.entry_contains_loop ?_
      rw [Around.under_plainId PySem.MeetsSeq.plain_contains_loop _]
      show wpAny _ _ (Builtin.List.listItems (.ref t) >>= _) _ _ s
      have hx : vs[i]? = none := by rw [List.getElem?_eq_none_iff]; exact List.drop_eq_nil_iff.mp hd
      unfold Builtin.List.listItems
      refine wpAny_bind (wpAny_bind (wpAny_seqItems (C.getMu hm) rfl (wpAny_pure ?_)))
      simp only [List.getElem?_toArray, rawInt, Int.toNat_natCast, hx]
      exact wpAny_pure (h _ C)
  | cons v rest ih =>
    intro qs i s C hd he h
    cases qs with
    | nil => exact he.elim
    | cons q qs =>
      obtain ⟨⟨a, rfl, hab⟩, he⟩ := he
      refine codeAny_builtin PySem.MeetsSeq.entry_contains_loop ?_
      rw [Around.under_plainId PySem.MeetsSeq.plain_contains_loop _]
      show wpAny _ _ (Builtin.List.listItems (.ref t) >>= _) _ _ s
      have hx : vs[i]? = some (.ref a) := by
        have := congrArg (·[0]?) hd
        simpa using this
      have hd' : vs.drop (i + 1) = rest := by
        have := congrArg List.tail hd
        simpa using this
      unfold Builtin.List.listItems
      refine wpAny_bind (wpAny_bind (wpAny_seqItems (C.getMu hm) rfl (wpAny_pure ?_)))
      simp only [List.getElem?_toArray, rawInt, Int.toNat_natCast, hx]
      refine wpAny_bind (R_eqBool C.wd (rm.in1.le (Nat.le_succ k)) hab fun s2 W2 P2 => ?_)
      have C2 := C.after W2 P2
      rw [List.any_cons] at h
      cases q with
      | true => exact wpAny_pure (h _ C2)
      | false =>
        simp only [Bool.false_eq_true, if_false]
        exact wpAny_pure ⟨plainId_quiet PySem.MeetsSeq.plain_contains_loop _, ih qs (i + 1) s2 C2 hd' he (by simpa using h)⟩
theorem in_list {k : Nat} {t b : Addr} {n : Nat} {vs : List Value} {rs : List Bool} {Q : Bool → Shared → Prop} (C : Cx X w s₀ G₀ G L m mu s) (rm : Rm A (k + 2)) (hm : (t, lstObj vs n) ∈ mu) (he : EqAll w k G b vs rs) (h : ∀ s', Cx X w s₀ G₀ G L m mu s' → Q (rs.any id) s') :
    wpAny (MD w) A (contains (.ref t) (.ref b)) Q E s := by
  have hT : s.TypeIs (.ref t) "list" := ⟨_, C.getMu hm, rfl⟩
  unfold contains
  refine wpAny_holding ?_
  refine wpAny_bind (wpAny_specialOf hT PyProof.Rows.slot_list_contains.lookup ?_)
  rw [if_neg (by decide)]
  refine wpAny_bind (wpAny_callSpecialUnlessNone?_slot (name := Str.ofString "__contains__") hT PyProof.Rows.slot_list_contains (wpAny_call_slot PyProof.Rows.slot_list_contains hT PyProof.Rows.entry_list_contains (PyProof.Rows.args_list_contains _ _) ?_))
  show wpAny _ _ (again (.builtin "list.__contains__.loop" ⟨[.ref t, .ref b, rawInt 0], []⟩)) _ _ s
  exact wpAny_pure ⟨plainId_quiet PySem.MeetsSeq.plain_contains_loop _, in_loop rm hm vs rs 0 s C rfl he fun s' C' => wpAny_truthy_bool (h s' C')⟩
theorem R_inT {n : Nat} {t b : Addr} {vs : List Value} {rs : List Bool} {Q : Value → Shared → Prop} (C : Cx X w s₀ G₀ G L m mu s) (rm : Rm A (n + 1)) (ht : TupAt G t vs) (he : EqAll w n G b vs rs) (h : ∀ s', Cx X w s₀ G₀ G L m mu s' → Q (.bool (rs.any id)) s') :
    wpAny (MD w) A (compareOp .In (.ref b) (.ref t)) Q E s := wpAny_bind (m := contains (.ref t) (.ref b)) (in_tup C rm ht he fun s' C' => wpAny_pure (h s' C'))
theorem R_inL {k : Nat} {t b : Addr} {n : Nat} {vs : List Value} {rs : List Bool} {Q : Value → Shared → Prop} (C : Cx X w s₀ G₀ G L m mu s) (rm : Rm A (k + 2)) (hm : (t, lstObj vs n) ∈ mu) (he : EqAll w k G b vs rs) (h : ∀ s', Cx X w s₀ G₀ G L m mu s' → Q (.bool (rs.any id)) s') :
    wpAny (MD w) A (compareOp .In (.ref b) (.ref t)) Q E s := wpAny_bind (m := contains (.ref t) (.ref b)) (in_list C rm hm he fun s' C' => wpAny_pure (h s' C'))
theorem R_notInL {k : Nat} {t b : Addr} {n : Nat} {vs : List Value} {rs : List Bool} {Q : Value → Shared → Prop} (C : Cx X w s₀ G₀ G L m mu s) (rm : Rm A (k + 2)) (hm : (t, lstObj vs n) ∈ mu) (he : EqAll w k G b vs rs) (h : ∀ s', Cx X w s₀ G₀ G L m mu s' → Q (.bool (!(rs.any id))) s') :
    wpAny (MD w) A (compareOp .NotIn (.ref b) (.ref t)) Q E s := wpAny_bind (m := contains (.ref t) (.ref b)) (in_list C rm hm he fun s' C' => wpAny_pure (h s' C'))
end
-- part A17
section
variable {X : List Addr} {w : World} {s₀ s s' s1 : Shared} {G₀ G G' : Km} {L : Addr} {m m' : List (Str × Value)} {mu pre post : List (Addr × Obj)} {A : Around} {E : Value → Shared → Prop}
-- an update beside the ledger
theorem Cx.side {a : Addr} {h' : Heap} {t : Nat} (C : Cx X w s₀ G₀ G L m mu s) (hs : Heap.SameBut a s.heap h') (ha : s₀.heap.objs.size ≤ a) (hG : G a = none) (ht : a ∉ tabL) (hn : a ∉ L :: mu.map (·.1)) : Cx X w s₀ G₀ G L m mu { s with heap := h', toks := t } := by
  obtain ⟨f, hf, k⟩ := C.ns
  have La : L ≠ a := fun q => hn (q ▸ .head _)
  exact ⟨C.wd.upd hs hG ht, C.ps.upd hs (.inl ha) ht, ⟨f, hf.sameBut hs La, k⟩, fun p hp => (hs.2 p.1 fun q => hn (.tail _ (q ▸ List.mem_map_of_mem hp))).trans (C.st p hp), C.nd, C.new, C.newL⟩
theorem R_append {l : Addr} {ys : List Value} {n : Nat} {v : Value} {Q : Value → Shared → Prop} (C : Cx X w s₀ G₀ G L m (pre ++ (l, lstObj ys n) :: post) s) (hz : ys.length ≤ 2000)
    (h : ∀ s' n', Cx X w s₀ G₀ G L m (pre ++ (l, lstObj (ys ++ [v]) n') :: post) s' → Q .none s') : wpAny (MD w) A (call (.builtin "list.append") [.ref l, v]) Q E s := by
  have ho := C.getMu (a := l) (o := lstObj ys n) (by simp)
  have hT : s.TypeIs (.ref l) "list" := ⟨_, ho, rfl⟩
  refine wpAny_call_entry _root_.PySem.slot_list_append hT _root_.PySem.entry_list_append ?_ (_root_.PySem.args_list_append _ _)
  show wpAny _ _ (updateSeq l (·.push v) >>= fun _ => ret .none) _ _ s
  refine wpAny_bind (wpAny_updateSeq ho rfl (wpAny_pure ⟨.none, rfl, ?_⟩) (by rw [List.size_toArray]; exact Nat.le_trans hz (by decide)) (by simp only [Array.size_push, List.size_toArray]; exact Nat.succ_le_succ (Nat.le_trans hz (by decide))))
  have hg := Heap.get?_update_self (h := s.heap) (Obj.mapSeq (·.push v)) ho (Obj.isFreed_of_seq rfl)
  have e : ∃ n', Obj.mapSeq (·.push v) (lstObj ys n) = lstObj (ys ++ [v]) n' := ⟨_, by
    show (⟨.type "list", none, .seq (ys.toArray.push v) _, #[]⟩ : Obj) = ⟨.type "list", none, .seq (ys ++ [v]).toArray _, #[]⟩
    rw [show ys.toArray.push v = (ys ++ [v]).toArray by simp]⟩
  obtain ⟨n', e⟩ := e
  rw [e] at hg
  exact h _ n' (C.updMu (t := s.toks) (Heap.SameBut.update ..) hg)
-- the loop of a list comprehension over a tuple
def PrAll (Pr : Km → Nat → Value → Prop) (G : Km) (ys : List Value) : Prop := ∀ i y, ys[i]? = some y → Pr G i y
theorem comp_loop {elt iter : Expr} {x : Str} {px pos : Pos} {scope : Scope} {cenv : Env} {t I l : Addr} {vs : List Value} {sb : Shared} {R : Result → Shared → Prop} (Pr : Km → Nat → Value → Prop) (hmono : ∀ G G' i y, G.le G' → Pr G i y → Pr G' i y)
    (hh : A.handled = none) (ht : TupAt G t vs) (hz : vs.length ≤ 2000) (hx : cenv.kindOf x = some .local) (hk : cenv.scope.kind = .function)
    (helt : ∀ i v G' s' mu' E', vs[i]? = some v → G.le G' → Cx [] w sb G G' cenv.locals [(x, v)] mu' s' → wpAny (MD w) A (eval elt cenv) (fun y s'' => ∃ G'', G'.le G'' ∧ Pr G'' i y ∧ Cx [] w sb G G'' cenv.locals [] mu' s'') E' s')
    (hR : ∀ s' G' ys n, ys.length = vs.length → PrAll Pr G' ys → Cx [] w sb G G' cenv.locals [] [(l, lstObj ys n)] s' → R (.ok .next) s')
    {s : Shared} {o : Obj} (ho : itObj t 0 o) (C : Cx [] w sb G G cenv.locals [] [(I, o), (l, lstObj [] 0)] s) :
    codeAny (MD w) A (.compLoop (.ListComp elt [⟨.Name x px, iter, [], 0⟩] scope pos) 0 (.ref I) (.ref l) cenv) R s := by
  refine codeAny_compLoop_list (fun k s' => ∃ i G' ys n o, i + k = vs.length ∧ itObj t i o ∧ ys.length = i ∧ PrAll Pr G' ys ∧ Cx [] w sb G G' cenv.locals [] [(I, o), (l, lstObj ys n)] s') (fun k s' hI => ?_) vs.length ⟨0, G, [], 0, o, Nat.zero_add _, ho, rfl, fun _ _ h => by simp at h, C⟩
  obtain ⟨i, G', ys, n, o', hi, ho', hl, hp, C'⟩ := hI
  have ht' := (ht.mono C'.ps.le).tup C'.wd
  cases k with
  | zero =>
    have e : i = vs.length := by omega
    subst e
    refine next_tuple_end hh ⟨o', C'.st (I, o') (.head _), ho'⟩ ht' (by rw [List.getElem?_toArray]; exact List.getElem?_eq_none (by omega)) fun h2 hs2 => ?_
    exact hR _ G' ys n hl hp (C'.lose (t := s'.toks) hs2)
  | succ k =>
    have hv : vs[i]? = some vs[i] := List.getElem?_eq_getElem (by omega)
    refine next_tuple_item ⟨o', C'.st (I, o') (.head _), ho'⟩ ht' (by rw [List.getElem?_toArray]; exact hv) fun h2 hi2 hs2 => ?_
    obtain ⟨o2, ho2, hc2, hd2⟩ := hi2
    have C2 := C'.upd0 (t := s'.toks) hs2 ho2
    refine wpAny_assign_Name (R_store C2 (fun s4 C4 => ?_) hk hx)
    refine wpAny_mono (helt i _ G' s4 _ _ hv C'.ps.le C4) (fun y s5 h5 => ?_) fun _ _ e => e
    obtain ⟨G5, le5, hy, C5⟩ := h5
    refine R_append (pre := [(I, o2)]) (post := []) C5 (by omega) fun s6 n6 C6 => ?_
    refine ⟨k, Nat.lt_succ_self k, i + 1, G5, ys ++ [y], n6, o2, by omega, ⟨hc2, hd2⟩, by simp [hl], fun j z hj => ?_, C6⟩
    by_cases q : j < ys.length
    · rw [List.getElem?_append_left q] at hj
      exact hmono _ _ _ _ le5 (hp j z hj)
    · rw [List.getElem?_append_right (Nat.le_of_not_lt q)] at hj
      have : j = i := by
        have := (List.getElem?_eq_some_iff.mp hj).1
        simp at this
        omega
      subst this
      rw [hl, Nat.sub_self] at hj
      cases hj
      exact hy
theorem inner3 {sb : Shared} {a b fr : Obj} {h2 h' : Heap} {t : Nat} {f : Str → Option Value} (W : Wd w G sb) (e2 : h2 = (sb.heap.push a).push b) (ha : a.isFreed = false) (hb : b.isFreed = false) (hn : h'.Ns h2.objs.size f) (hs : Heap.SameBut h2.objs.size (h2.push fr) h') :
    Cx [] w sb G G h2.objs.size [] [(sb.heap.objs.size, a), (sb.heap.objs.size + 1, b)] { sb with heap := h', toks := t } := by
  have e1 : (sb.heap.push a).objs.size = sb.heap.objs.size + 1 := Heap.size_push ..
  have e3 : h2.objs.size = sb.heap.objs.size + 2 := by rw [e2, Heap.size_push, e1]
  have k2 : ∀ z o, h2.get? z = some o → h'.get? z = some o := fun z o e => hs.extBut z o (Nat.ne_of_lt (Heap.lt_size e)) (Heap.get?_push_of_some _ e)
  have kb : ∀ z o, sb.heap.get? z = some o → h'.get? z = some o := fun z o e => k2 z o (by rw [e2]; exact Heap.get?_push_of_some _ (Heap.get?_push_of_some _ e))
  have gA : h'.get? sb.heap.objs.size = some a := k2 _ _ (by rw [e2]; exact Heap.get?_push_of_some _ (Heap.get?_push_size _ ha))
  have gB : h'.get? (sb.heap.objs.size + 1) = some b := k2 _ _ (by rw [e2, ← e1]; exact Heap.get?_push_size _ hb)
  have nw : ∀ z, sb.heap.objs.size ≤ z → G z = none ∧ z ∉ tabL := fun z hz => W.newAt hz
  have hlt : h2.objs.size < h'.objs.size := let ⟨_, _, _, h, _⟩ := hn; Heap.lt_size h
  refine ⟨⟨fun z o e => kb z o (W.keep z o e), W.kin, fun P hP => let ⟨ps, e, r⟩ := W.tabs P hP; ⟨ps, kb _ _ e, r⟩, W.off, W.bare⟩,
    ⟨⟨fun z o e _ _ => kb z o e, fun P hP ps e => ⟨#[], by rw [Array.append_empty]; exact kb _ _ e⟩, by show sb.heap.objs.size ≤ h'.objs.size; omega, rfl, rfl, Nat.le_refl _⟩, Km.le.refl G, fun _ e n => absurd e n⟩,
    ⟨f, hn, fun x v e => nomatch e⟩, fun p hp => ?_, ?_, fun z hz => ?_, by show sb.heap.objs.size ≤ h2.objs.size; omega⟩
  · rcases List.mem_cons.mp hp with rfl | hp
    · exact gA
    · rcases List.mem_cons.mp hp with rfl | hp
      · exact gB
      · cases hp
  · simp only [List.map_cons, List.map_nil, List.nodup_cons, List.mem_cons, List.not_mem_nil, or_false, not_or, not_false_eq_true, List.nodup_nil, and_true]
    rw [e3]
    exact ⟨⟨Nat.ne_of_gt (by omega), Nat.ne_of_gt (by omega)⟩, Nat.ne_of_lt (by omega)⟩
  · simp only [List.map_cons, List.map_nil, List.mem_cons, List.not_mem_nil, or_false] at hz
    have : sb.heap.objs.size ≤ z := by
      rcases hz with rfl | rfl | rfl
      · omega
      · exact Nat.le_refl _
      · omega
    exact ⟨.inl this, nw z this⟩
-- what stands behind the loop
theorem comp_end {sb : Shared} {Lc l : Addr} {ys : List Value} {n : Nat} (Cb : Cx X w s₀ G₀ G L m mu sb) (C : Cx [] w sb G G' Lc [] [(l, lstObj ys n)] s) : Cx X w s₀ G₀ G' L m ((l, lstObj ys n) :: mu) s ∧ Lc ∉ L :: ((l, lstObj ys n) :: mu).map (·.1) ∧ s₀.heap.objs.size ≤ Lc ∧ G' Lc = none ∧ Lc ∉ tabL := by
  have nL := C.new Lc (.head _)
  have nl := C.new l (by simp)
  have hl : sb.heap.objs.size ≤ l := nl.1.resolve_right (fun h => nomatch h)
  have C1 := Cb.adopt (N := [(l, lstObj ys n)]) C.wd C.ps ⟨fun p hp => by
    rw [List.mem_singleton.mp hp]
    exact ⟨C.st _ (.head _), hl, nl.2.1, nl.2.2⟩, by simp⟩
  refine ⟨C1, fun q => ?_, Nat.le_trans Cb.ps.ex.size C.newL, nL.2.1, nL.2.2⟩
  have lt := Cb.lt
  simp only [List.map_cons] at q
  rcases List.mem_cons.mp q with e | q
  · exact Nat.lt_irrefl _ (Nat.lt_of_lt_of_le (e ▸ lt L (.head _)) C.newL)
  · rcases List.mem_cons.mp q with e | q
    · have nd := C.nd
      simp only [List.map_cons, List.map_nil, List.nodup_cons, List.mem_cons, List.not_mem_nil, or_false] at nd
      exact nd.1 e
    · exact Nat.lt_irrefl _ (Nat.lt_of_lt_of_le (lt Lc (.tail _ q)) C.newL)
section
variable {env : Env} {elt iter : Expr} {x : Str} {px pos : Pos} {scope : Scope} {cl : List (Str × Addr)} {t : Addr} {vs : List Value}
abbrev compE (scope : Scope) (cl : List (Str × Addr)) (C : Addr) (env : Env) : Env := compEnvC scope cl C env
theorem comp_block {sb : Shared} {use : Option (Value → Sem Unit)} {Q : Value → Shared → Prop} (Pr : Km → Nat → Value → Prop) (hmono : ∀ G G' i y, G.le G' → Pr G i y → Pr G' i y)
    (hh : A.handled = none) (Cb : Cx X w s₀ G₀ G env.locals m mu sb) (ht : TupAt G t vs) (hz : vs.length ≤ 2000) (hcell : ∀ y ∈ scope.names, y.2 ≠ .cell) (hkind : scope.kind = .function) (hx : scope.names.lookup x = some .local)
    (helt : ∀ i v G' L' s' mu' E', vs[i]? = some v → G.le G' → Cx [] w sb G G' L' [(x, v)] mu' s' → wpAny (MD w) A (eval elt (compE scope cl L' env)) (fun y s'' => ∃ G'', G'.le G'' ∧ Pr G'' i y ∧ Cx [] w sb G G'' L' [] mu' s'') E' s')
    (hR : ∀ s' G' ys n l Lc, ys.length = vs.length → PrAll Pr G' ys → Cx [] w sb G G' Lc [] [(l, lstObj ys n)] s' → compPost (MD w) A E use Q (.ref l) Lc (.ok .next) s') :
    wpAny (MD w) A (pyIter (.ref t)) (fun it s2 => wpAny (MD w) A (newList []) (fun acc s3 => wpAny (MD w) A (newFunctionEnv scope env.globals cl [] env.qual none .none (some env)) (fun cenv s4 =>
      codeAny (MD w) A (.compStart (.ListComp elt [⟨.Name x px, iter, [], 0⟩] scope pos) 0 it acc { cenv with scope := relabel scope env }) (compPost (MD w) A E use Q acc cenv.locals) s4) E s3) E s2) E sb := by
  refine iter_tuple (ht.tup Cb.wd) ?_
  refine wpAny_newObj_type (wpAny_newFunctionEnv hcell (by intro y hy; simp at hy) (fun h₁ hns₁ hsb₁ => ?_) hkind)
  dsimp only at hns₁ hsb₁ ⊢
  generalize hH2 : (sb.heap.push { cls := .type "tuple_iterator", data := .fields #[.ref t, .int 0 0] }).push { cls := .type "list", dict := none, data := .seq ([] : List Value).toArray } = H2 at hns₁ hsb₁ ⊢
  have e1 : (sb.heap.push ({ cls := .type "tuple_iterator", data := .fields #[.ref t, .int 0 0] } : Obj)).objs.size = sb.heap.objs.size + 1 := Heap.size_push ..
  rw [e1]
  have C4 := inner3 (t := sb.toks + ([] : List (Str × Value)).length) Cb.wd hH2.symm rfl rfl hns₁ hsb₁
  have loop := comp_loop (elt := elt) (iter := iter) (px := px) (pos := pos) (scope := scope) (cenv := compEnvC scope cl H2.objs.size env) (R := compPost (MD w) A E use Q (.ref (sb.heap.objs.size + 1)) H2.objs.size) Pr hmono hh ht hz (lookup_relabel_local hx) (by simp [compEnvC, relabel, hkind])
    (fun i v G' s' mu' E' hv le C => helt i v G' _ s' mu' E' hv le C) (fun s' G' ys n h1 h2 h3 => hR s' G' ys n _ _ h1 h2 h3) (⟨rfl, rfl⟩ : itObj t 0 _) C4
  exact codeAny_compStart_list loop (wpAny_pyIter_tupleiter (i := 0) ⟨_, C4.st (_, _) (.head _), rfl, rfl⟩ loop)
theorem R_comp {Q : Value → Shared → Prop} (Pr : Km → Nat → Value → Prop) (hmono : ∀ G G' i y, G.le G' → Pr G i y → Pr G' i y)
    (hh : A.handled = none) (C : Cx X w s₀ G₀ G env.locals m mu s) (ht : TupAt G t vs) (hz : vs.length ≤ 2000) (hclos : closureFor scope env = pure cl) (hcell : ∀ y ∈ scope.names, y.2 ≠ .cell) (hkind : scope.kind = .function)
    (hnames : ∀ y ∈ scope.names, y.2 = .local → scope.names.lookup y.1 = some .local) (hx : scope.names.lookup x = some .local)
    (hiter : ∀ Q' : Value → Shared → Prop, (∀ s', Cx X w s₀ G₀ G env.locals m mu s' → Q' (.ref t) s') → wpAny (MD w) A (eval iter env) Q' E s)
    (helt : ∀ sb i v G' L' s' mu' E', vs[i]? = some v → G.le G' → Cx [] w sb G G' L' [(x, v)] mu' s' → wpAny (MD w) A (eval elt (compE scope cl L' env)) (fun y s'' => ∃ G'', G'.le G'' ∧ Pr G'' i y ∧ Cx [] w sb G G'' L' [] mu' s'') E' s')
    (hs : ∀ x, foldedSetIterable iter env x = pure x)
    (h : ∀ s' G' ys n l, ys.length = vs.length → PrAll Pr G' ys → G.le G' → Cx X w s₀ G₀ G' env.locals m ((l, lstObj ys n) :: mu) s' → Q (.ref l) s') :
    wpAny (MD w) A (eval (.ListComp elt [⟨.Name x px, iter, [], 0⟩] scope pos) env) Q E s := by
  rw [eval_ListComp]
  refine wpAny_comprehension_free (use := none) rfl hs hclos hkind hnames (hiter _ fun sb Cb => ?_)
  refine comp_block Pr hmono hh Cb ht hz hcell hkind hx (helt sb) fun s' G' ys n l Lc h1 h2 C' => ?_
  obtain ⟨f, hn, _⟩ := C'.ns
  obtain ⟨C2, n1, n2, n3, n4⟩ := comp_end Cb C'
  exact ⟨f, hn, fun h' hs' => h _ G' ys n l h1 h2 C'.ps.le (C2.side (t := s'.toks) hs' n2 n3 n4 n1)⟩
theorem R_compUsed {y : Str} {py spos : Pos} {Q : Flow → Shared → Prop} (Pr : Km → Nat → Value → Prop) (hmono : ∀ G G' i y, G.le G' → Pr G i y → Pr G' i y)
    (hh : A.handled = none) (C : Cx X w s₀ G₀ G env.locals m mu s) (ht : TupAt G t vs) (hz : vs.length ≤ 2000) (hsw : swapsWith (.ListComp elt [⟨.Name x px, iter, [], 0⟩] scope pos) (some (.Name y py)) spos.line env = pure true)
    (hclos : closureFor scope env = pure cl) (hcell : ∀ y ∈ scope.names, y.2 ≠ .cell) (hkind : scope.kind = .function)
    (hnames : ∀ y ∈ scope.names, y.2 = .local → scope.names.lookup y.1 = some .local) (hx : scope.names.lookup x = some .local) (hy : env.kindOf y = some .local) (hk : env.scope.kind = .function)
    (hiter : ∀ Q' : Value → Shared → Prop, (∀ s', Cx X w s₀ G₀ G env.locals m mu s' → Q' (.ref t) s') → wpAny (MD w) A (eval iter env) Q' E s)
    (helt : ∀ sb i v G' L' s' mu' E', vs[i]? = some v → G.le G' → Cx [] w sb G G' L' [(x, v)] mu' s' → wpAny (MD w) A (eval elt (compE scope cl L' env)) (fun y s'' => ∃ G'', G'.le G'' ∧ Pr G'' i y ∧ Cx [] w sb G G'' L' [] mu' s'') E' s')
    (hs : ∀ x, foldedSetIterable iter env x = pure x)
    (h : ∀ s' G' ys n l, ys.length = vs.length → PrAll Pr G' ys → G.le G' → Cx X w s₀ G₀ G' env.locals ((y, .ref l) :: m) ((l, lstObj ys n) :: mu) s' → Q .next s') :
    wpAny (MD w) A (exec (.Assign [.Name y py] (.ListComp elt [⟨.Name x px, iter, [], 0⟩] scope pos) spos) env) Q E s := by
  rw [exec_Assign_Name_used _ _ _ _ hsw]
  refine wpAny_bind (wpAny_standAt (wpAny_bind ?_))
  show wpAny _ A (do let _ ← comprehension (.ListComp elt [⟨.Name x px, iter, [], 0⟩] scope pos) scope env _ (newList []) false (eval iter env) (some (assign (.Name y py) env))) _ _ s
  refine wpAny_bind (wpAny_mono (wpAny_comprehension_free (use := some (assign (.Name y py) env)) (Q := fun _ s' => Q .next s') rfl hs hclos hkind hnames (hiter _ fun sb Cb => ?_)) (fun _ s' hq => wpAny_pure (wpAny_pure hq)) fun _ _ e => e)
  refine comp_block Pr hmono hh Cb ht hz hcell hkind hx (helt sb) fun s' G' ys n l Lc h1 h2 C' => ?_
  obtain ⟨f, hn, _⟩ := C'.ns
  obtain ⟨C2, n1, n2, n3, n4⟩ := comp_end Cb C'
  show wpAny _ A (assign (.Name y py) env (.ref l)) _ _ s'
  obtain ⟨fo, hfo, ko⟩ := C2.ns
  have hne : Lc ≠ env.locals := fun e => n1 (e ▸ .head _)
  refine wpAny_assign_Name (wpAny_storeName_local hy hfo (fun h2' hn2 hs2 => ?_) (by rw [hk]; rfl))
  have C3 := C2.setL (t := s'.toks) (m' := (y, .ref l) :: m) hs2 hn2 (fun z u e => by
    rw [List.lookup_cons] at e
    split at e
    · rename_i q; rw [if_pos (beq_iff_eq.mp q)]; exact e
    · rename_i q; rw [if_neg (beq_eq_false_iff_ne.mp q)]; exact ko z u e)
  exact ⟨f, hn.sameBut hs2 hne, fun h' hs' => h _ G' ys n l h1 h2 C'.ps.le (C3.side (t := s'.toks + 1) hs' n2 n3 n4 n1)⟩
end
end
-- part A18
open Sem (wp)
open AutoSeq1 (wpAny_loadPart')
abbrev tIt (t : Addr) : Obj := { cls := .type "tuple_iterator", data := .fields #[.ref t, .int 0 0] }
abbrev enObj (it : Addr) : Obj := { cls := .type "enumerate", data := .fields #[.none, .bool false, .ref it, rawInt 0, .none, .none] }
theorem meets_enum_tup (l : Addr) (items : Array Value) (n : Nat) :
    Meets (Builtin.«enumerate.__new__» ⟨[.type "enumerate", .ref l], []⟩) (fun _ R s => s.heap.get? l = some { cls := .type "tuple", dict := none, data := .seq items n, slots := #[] } ∧
      R (.ok (.ret (.ref (s.heap.push (tIt l)).objs.size))) { s with heap := (s.heap.push (tIt l)).push (enObj s.heap.objs.size) }) :=
  .of_wp fun prog w A R s h => by
    obtain ⟨hp, g, d, tk, os⟩ := s; obtain ⟨hl, h⟩ := h
    have hsub := sub_enumerate
    have hL : Heap.IsTuple (Shared.heap ⟨hp, g, d, tk, os⟩) l items := ⟨_, hl, rfl, n, rfl⟩
    wp_walk using wpAny_loadPart' hl
    refine wpAny_stack_any fun st => wpAny_pure ?_
    split
    · rename_i c _ _ _ _ _
      cases (c == Value.type "enumerate")
      · wp_walk using wpAny_loadPart' hl, wpAny_pyIter_tuple hL
        exact ⟨_, rfl, h⟩
      · wp_walk using wpAny_loadPart' hl, wpAny_pyIter_tuple hL
        exact ⟨_, rfl, h⟩
    · wp_walk using wpAny_loadPart' hl, wpAny_pyIter_tuple hL
      exact ⟨_, rfl, h⟩
section
variable {prog : Program} {w : World} {A : Around} {E : Value → Shared → Prop} {s : Shared}
theorem nextOf_tup {it t : Addr} {i : Nat} {items : Array Value} {x : Value} {Q : Value → Shared → Prop} (hit : IsTupIter s.heap it t i) (ht : IsTup s.heap t items) (hx : items[i]? = some x)
    (hQ : ∀ h', IsTupIter h' it t (i + 1) → Heap.SameBut it s.heap h' → Q x { s with heap := h' }) : wpAny (model prog w) A (Builtin.SmallTypes.nextOf (.ref it)) Q E s := by
  obtain ⟨o, ho, hc, hd⟩ := id hit
  obtain ⟨ol, hol, _, nl, hdl⟩ := ht
  unfold Builtin.SmallTypes.nextOf
  refine wpAny_bind (wpAny_callSpecial?_slot (name := Str.ofString "__next__") hit.typeIs slot_tupleiter_next (wpAny_call_entry slot_tupleiter_next hit.typeIs entry_tupleiter_next ?_ (args_tupleiter_next _)))
  show wpAny _ _ (field (.ref it) 0 >>= _) _ _ s
  refine wpAny_bind (wpAny_field ho hd (x := .ref t) rfl ?_)
  show wpAny _ _ (if (Value.ref t == Value.none) = true then _ else _) _ _ s
  rw [if_neg (show ¬ ((Value.ref t == Value.none) = true) from Bool.false_ne_true)]
  show wpAny _ _ (field (.ref it) 1 >>= _) _ _ s
  refine wpAny_bind (wpAny_field ho hd (x := .int i 0) rfl ?_)
  show wpAny _ _ (seqItems? (.ref t) >>= _) _ _ s
  refine wpAny_bind (wpAny_seqItems hol hdl ?_)
  simp only [Int.toNat_natCast, hx]
  refine wpAny_bind (wpAny_setField ho hd (by simp) (wpAny_pure ⟨x, rfl, wpAny_pure (hQ _ ?_ (Heap.SameBut.update ..))⟩))
  exact ⟨_, Heap.get?_update_self _ ho (Obj.isFreed_of_fields (Obj.data_mapFields hd _)), (Obj.cls_mapFields ..).trans hc, by
    rw [Obj.data_mapFields hd]; simp [rawInt]⟩
theorem nextOf_tupEnd {it t : Addr} {i : Nat} {items : Array Value} {Q : Value → Shared → Prop} (hh : A.handled = none) (hit : IsTupIter s.heap it t i) (ht : IsTup s.heap t items) (hx : items[i]? = none)
    (hE : ∀ h' e, Heap.ExtBut it s.heap h' → (∃ o, h'.get? e = some o ∧ o.cls = .type "StopIteration") → E (.ref e) { s with heap := h' }) : wpAny (model prog w) A (Builtin.SmallTypes.nextOf (.ref it)) Q E s := by
  obtain ⟨o, ho, hc, hd⟩ := id hit
  obtain ⟨ol, hol, _, nl, hdl⟩ := ht
  unfold Builtin.SmallTypes.nextOf
  refine wpAny_bind (wpAny_callSpecial?_slot (name := Str.ofString "__next__") hit.typeIs slot_tupleiter_next (wpAny_call_entry slot_tupleiter_next hit.typeIs entry_tupleiter_next ?_ (args_tupleiter_next _)))
  show wpAny _ _ (field (.ref it) 0 >>= _) _ _ s
  refine wpAny_bind (wpAny_field ho hd (x := .ref t) rfl ?_)
  show wpAny _ _ (if (Value.ref t == Value.none) = true then _ else _) _ _ s
  rw [if_neg (show ¬ ((Value.ref t == Value.none) = true) from Bool.false_ne_true)]
  show wpAny _ _ (field (.ref it) 1 >>= _) _ _ s
  refine wpAny_bind (wpAny_field ho hd (x := .int i 0) rfl ?_)
  show wpAny _ _ (seqItems? (.ref t) >>= _) _ _ s
  refine wpAny_bind (wpAny_seqItems hol hdl ?_)
  simp only [Int.toNat_natCast, hx]
  refine wpAny_bind (wpAny_rule (wpAny_bind (wpAny_setField ho hd (by simp) ?_)))
  show wpAny _ _ (newExc (.type "StopIteration") [] >>= _) _ _ _
  refine wpAny_bind ?_
  simp only [newExc, newTuple]
  refine wpAny_bind (wpAny_newObj_type ?_ (by size_fits))
  refine wpAny_bind (m := firstArgMember _ _) (wpAny_of_eq (a := Value.none) (by first | rfl | (simp only [firstArgMember]; rfl)) ?_)
  refine wpAny_newObj_type ?_ (by size_fits)
  simp only [raiseNew]
  refine wpAny_bind (wpAny_handled ?_)
  first | rw [show A.in1.handled = none from hh] | rw [hh]
  refine wpAny_bind (wpAny_pure (wpAny_throw ?_))
  exact hE _ _ (((Heap.SameBut.update ..).extBut.push _).push _) ⟨_, Heap.get?_push_size _ rfl, rfl⟩
theorem drawsTup (hh : A.handled = none) (it t : Addr) (hne : t ≠ it) (items : Array Value) : Draws prog w A it [it, t] items.size (fun i v => items[i]? = some v) (fun i h => IsTupIter h it t i ∧ IsTup h t items) where
  live := fun _ _ st => let ⟨o, ho, _⟩ := st.1; ⟨o, ho⟩
  frame := fun _ _ _ st hk => ⟨let ⟨o, ho, r⟩ := st.1; ⟨o, hk it (by simp) o ho, r⟩, let ⟨o, ho, r⟩ := st.2; ⟨o, hk t (by simp) o ho, r⟩⟩
  item := fun i s Q E hi st hQ => by
    refine nextOf_tup st.1 st.2 (x := items[i]) (by simp [hi]) fun h' hit' hs' => ?_
    refine hQ _ h' s.toks (by simp [hi]) ⟨hit', ?_⟩ hs'
    obtain ⟨o, ho, r⟩ := st.2
    exact ⟨o, (hs'.2 t hne).trans ho, r⟩
  done := fun s Q E st hE => nextOf_tupEnd hh st.1 st.2 (by simp) hE
end
-- part A19
abbrev enO (it : Addr) (i : Nat) (old : Value) : Obj := { cls := .type "enumerate", data := .fields #[.none, .bool false, .ref it, rawInt i, .none, old] }
theorem TupAt.tup' {w : World} {G : Km} {s : Shared} {t : Addr} {vs : List Value} (W : Wd w G s) (x : TupAt G t vs) : s.heap.get? t = some { cls := .type "tuple", dict := none, data := .seq vs.toArray 0, slots := #[] } := W.keep _ _ x
section
variable {X : List Addr} {w : World} {s₀ s s' : Shared} {G₀ G G' : Km} {L : Addr} {m m' : List (Str × Value)} {mu mu' : List (Addr × Obj)} {A : Around} {E : Value → Shared → Prop}
theorem call_enum {l : Addr} {items : Array Value} {n : Nat} {Q : Value → Shared → Prop} (hl : s.heap.get? l = some { cls := .type "tuple", dict := none, data := .seq items n, slots := #[] })
    (h : ∀ h', h' = (s.heap.push (tIt l)).push (enObj s.heap.objs.size) → Q (.ref (s.heap.objs.size + 1)) { s with heap := h' }) : wpAny (MD w) A (call (.type "enumerate") [.ref l]) Q E s := by
  refine callType_new F.called_enumerate (by decide) (F.typeCall_enumerate_1 _) (F.newCall_enumerate_1 _) (fun obj => F.args_object_init_2 obj _) F.entry_enumerate_new (meets_enum_tup l items n) ⟨hl, ?_⟩
  have hz : (s.heap.push (tIt l)).objs.size = s.heap.objs.size + 1 := Heap.size_push ..
  refine ⟨⟨_, Heap.get?_push_size _ rfl, rfl⟩, ?_⟩
  rw [hz]
  exact h _ rfl
theorem Cx.upd2 {e it : Addr} {oe oi oe' oi' : Obj} {h' : Heap} {t : Nat} (C : Cx X w s₀ G₀ G L m ((e, oe) :: (it, oi) :: mu) s) (hk : ∀ b o, b ≠ e → b ≠ it → s.heap.get? b = some o → h'.get? b = some o) (he : h'.get? e = some oe') (hi : h'.get? it = some oi') :
    Cx X w s₀ G₀ G L m ((e, oe') :: (it, oi') :: mu) { s with heap := h', toks := t } := by
  obtain ⟨e1, e2, e3⟩ := C.new e (by simp)
  obtain ⟨i1, i2, i3⟩ := C.new it (by simp)
  have nd := C.nd
  simp only [List.map_cons, List.nodup_cons, List.mem_cons, not_or] at nd
  obtain ⟨⟨Le, Li, _⟩, ⟨ei, em⟩, im, _⟩ := nd
  obtain ⟨f, ⟨oL, es, ep, h1, h2⟩, k⟩ := C.ns
  have old : ∀ b o, s₀.heap.get? b = some o → b ∉ X → b ≠ e ∧ b ≠ it := fun b o q z => ⟨fun y => e1.elim (fun h => Nat.ne_of_lt (Nat.lt_of_lt_of_le (Heap.lt_size q) h) y) fun h => z (y ▸ h), fun y => i1.elim (fun h => Nat.ne_of_lt (Nat.lt_of_lt_of_le (Heap.lt_size q) h) y) fun h => z (y ▸ h)⟩
  refine ⟨⟨fun b o q => hk b o (fun z => by rw [z, e2] at q; cases q) (fun z => by rw [z, i2] at q; cases q) (C.wd.keep b o q), C.wd.kin, fun P hP => let ⟨ps, q, r⟩ := C.wd.tabs P hP; ⟨ps, hk _ _ (fun z => e3 (z ▸ hP)) (fun z => i3 (z ▸ hP)) q, r⟩, C.wd.off, C.wd.bare⟩,
    ⟨⟨fun b o q n z => hk b o (old b o q z).1 (old b o q z).2 (C.ps.ex.keep b o q n z), fun P hP ps q => let ⟨more, r⟩ := C.ps.ex.grow P hP ps q; ⟨more, hk _ _ (fun z => e3 (z ▸ hP)) (fun z => i3 (z ▸ hP)) r⟩, ?_, C.ps.ex.os, C.ps.ex.drawn, C.ps.ex.gsz⟩, C.ps.le, C.ps.fresh⟩,
    ⟨f, ⟨oL, es, ep, hk _ _ Le Li h1, h2⟩, k⟩, fun p hp => ?_, C.nd, C.new, C.newL⟩
  · exact Nat.le_of_lt (Nat.lt_of_le_of_lt C.newL (Heap.lt_size (hk _ _ Le Li h1)))
  · rcases List.mem_cons.mp hp with rfl | hp
    · exact he
    · rcases List.mem_cons.mp hp with rfl | hp
      · exact hi
      · exact hk _ _ (fun z => em (z ▸ List.mem_map_of_mem hp)) (fun z => im (z ▸ List.mem_map_of_mem hp)) (C.st p (.tail _ (.tail _ hp)))
theorem R_allgenE {env : Env} {elt iter : Expr} {xi x : Str} {kt : Nat} {pi px ptt pos pos' pn : Pos} {scope : Scope} {cl : List (Str × Addr)} {c P t : Addr} {vs : List Value} {f : Nat → Bool} {k : Nat} {Q : Value → Shared → Prop}
    (C : Cx X w s₀ G₀ G env.locals m mu s) (rm : Rm A (k + 2)) (hfn : env.scope.kind = .function) (hall : env.kindOf "all" = some .globalImplicit) (hg : env.globals = 3) (hb : env.builtins = 0)
    (hc : env.code = .ref c) (hk : codeTabOk (K0 w.params) c P = true) (hP : P ∈ tabL) (hcP : c ≠ P)
    (hco : scope.isCoroutine = false) (hclos : closureFor scope env = pure cl) (hcell : ∀ y ∈ scope.names, y.2 ≠ .cell) (h0 : scope.names.lookup (".0" : Str) = some NameKind.local)
    (hx : scope.names.lookup x = some .local) (hxi : scope.names.lookup xi = some .local) (hkind : scope.kind = .function) (hs : ∀ x, genFold iter env x = pure x)
    (hn3 : nsIn (K0 w.params) 3 "all" = some none) (hn0 : nsIn (K0 w.params) 0 "all" = some (some (.builtin "all"))) (hbu : nsIn (K0 w.params) 3 "__builtins__" = some (some (.ref 4)))
    (hm4 : (K0 w.params).lookup 4 = some ⟨.type "module", some 0, .plain, #[]⟩)
    (hiter : ∀ Q' : Value → Shared → Prop, (∀ s', Cx X w s₀ G₀ G env.locals m mu s' → wpAny (MD w) A (call (.type "enumerate") [.ref t]) Q' E s') → wpAny (MD w) A (eval iter env) Q' E s)
    (ht : TupAt G t vs)
    (helt : ∀ sb (i : Nat) v tk G' L' cd s' mu' A' E', vs[i]? = some v → G.le G' → Cx [] w sb G G' L' [(x, v), (xi, .int (i : Int) tk)] mu' s' → Rm A' k →
      wpAny (MD w) A' (eval elt (genEnv scope cl L' cd 0 env)) (fun y s'' => ∃ G'', y = .bool (f i) ∧ Cx [] w sb G G'' L' [] mu' s'') E' s')
    (hQ : ∀ s' G', Cx X w s₀ G₀ G' env.locals m mu s' → G.le G' → Q (.bool ((List.range vs.length).all f)) s') :
    wpAny (MD w) A (eval (.Call (.Name "all" pn) [.GeneratorExp elt [⟨.Tuple [.Name xi pi, .Name x px] kt ptt, iter, [], 0⟩] scope pos] [] pos') env) Q E s := by
  refine Call_ (R_bi C hn3 hn0 ?_ hfn hall hg hb (by decide))
  refine callWith_builtin1 (args_cons ?_)
  refine wpAny_GeneratorExp_make hco hclos hcell h0 hkind rm.depth ?_ hs
  refine hiter _ fun sb Cb => ?_
  refine call_enum (ht.tup' Cb.wd) fun h1 hh1 => ?_
  have C0 := Cb.push (o := tIt t)
  have C1 := C0.push (o := enObj sb.heap.objs.size)
  have e1 : (sb.heap.push (tIt t)).objs.size = sb.heap.objs.size + 1 := Heap.size_push ..
  dsimp only at C1
  rw [e1] at C1
  rw [← hh1] at C1
  have hen : IsEnum h1 (sb.heap.objs.size + 1) sb.heap.objs.size ((0 : Nat) : Int) .none := C1.st (_, enObj sb.heap.objs.size) (.head _)
  refine wpAny_pyIter_enum (s := { sb with heap := h1 }) hen ?_
  refine ⟨C1.wd.nolimit, ?_⟩
  generalize hI : sb.heap.objs.size + 1 = I at C1 ⊢
  generalize hIt : sb.heap.objs.size = It at C1
  refine R_gcode C1.wd hc hk hP hcP fun code s3 W3 P3 hkp hgs3 => ?_
  have C3 := C1.after W3 P3
  refine R_bfor (n := 0) C3.wd (by rw [hg]; exact hbu) (by decide) hm4 rfl rfl rfl ?_
  intro h' hn' hs'
  refine args_nil ?_
  -- the state with the generator
  have keep' : ∀ b o, s3.heap.get? b = some o → h'.get? b = some o := fun b o e => hs'.extBut b o (Nat.ne_of_lt (Heap.lt_size e)) (Heap.get?_push_of_some _ e)
  have hsz : h'.objs.size = s3.heap.objs.size + 1 := by rw [hs'.1, Heap.size_push]
  generalize hq : env.qual ++ "<genexpr>" = q
  generalize ha : h'.objs.size = a
  generalize hL' : s3.heap.objs.size = L' at hn' hs' hsz
  generalize hgg : s3.gens.size = g
  generalize hcc : genEnv scope cl L' code builtinsNs env = cenv
  have keep5 : ∀ b o, s3.heap.get? b = some o → (h'.push (genObj g q (s3.toks + 1) (s3.toks + 1 + 1))).get? b = some o := fun b o e => Heap.get?_push_of_some _ (keep' b o e)
  have hIlt : I < s3.heap.objs.size := Heap.lt_size (C3.st (I, _) (.head _))
  have hIb : sb.heap.objs.size ≤ I := by rw [← hI]; omega
  have hTlt : It < s3.heap.objs.size := Heap.lt_size (C3.st (It, _) (.tail _ (.head _)))
  have hTb : sb.heap.objs.size ≤ It := by rw [← hIt]; exact Nat.le_refl _
  have hIT : It ≠ I := by rw [← hI, ← hIt]; exact Nat.ne_of_lt (Nat.lt_succ_self _)
  have P3b : Ps [] sb G s3 G := by
    refine Ps.trans (G' := G) ⟨?_, Km.le.refl G, fun _ e n => absurd e n⟩ P3
    have x := (Ex.push (o := enObj It) (Ex.push (o := tIt t) (Ex.refl [] sb)))
    rw [hh1, hIt]
    exact x
  have W5 : Wd w G { s3 with gens := s3.gens.push (.fresh (gStart elt (.Tuple [.Name xi pi, .Name x px] kt ptt) iter scope pos I cenv)), toks := s3.toks + 1 + 1 + 1, heap := h'.push (genObj g q (s3.toks + 1) (s3.toks + 1 + 1)) } :=
    ⟨fun b o e => keep5 b o (W3.keep b o e), W3.kin, fun P hP => let ⟨ps, e, r⟩ := W3.tabs P hP; ⟨ps, keep5 _ _ e, r⟩, W3.off, W3.bare.push rfl⟩
  generalize hs5 : ({ s3 with gens := s3.gens.push (.fresh (gStart elt (.Tuple [.Name xi pi, .Name x px] kt ptt) iter scope pos I cenv)), toks := s3.toks + 1 + 1 + 1, heap := h'.push (genObj g q (s3.toks + 1) (s3.toks + 1 + 1)) } : Shared) = s5 at *
  have h5g : s5.gens = s3.gens.push (.fresh (gStart elt (.Tuple [.Name xi pi, .Name x px] kt ptt) iter scope pos I cenv)) := by rw [← hs5]
  have h5h : s5.heap = h'.push (genObj g q (s3.toks + 1) (s3.toks + 1 + 1)) := by rw [← hs5]
  have h5o : s5.os = s3.os := by rw [← hs5]
  have h5d : nod s5.drawn = nod s3.drawn := rfl
  rw [← h5h] at keep5
  let sb' : Shared := { sb with gens := s5.gens }
  have C5 : Cx [] w sb' G G L' [] [(I, enObj It), (It, tIt t), (a, genObj g q (s3.toks + 1) (s3.toks + 1 + 1))]
      s5 := by
    have hLb : sb.heap.objs.size ≤ L' := by rw [← hL']; exact P3b.ex.size
    have nG : ∀ z, s3.heap.objs.size ≤ z → G z = none := fun z hz => by
      cases e : G z with
      | none => rfl
      | some o => exact absurd (Heap.lt_size (W3.keep _ _ e)) (Nat.not_lt.mpr hz)
    have nT : ∀ z, s3.heap.objs.size ≤ z → z ∉ tabL := fun z hz q => absurd (W3.tabs.lt q) (Nat.not_lt.mpr hz)
    refine ⟨W5, ⟨⟨fun b o e n y => keep5 b o (P3b.ex.keep b o e n y), fun P hP ps e => let ⟨more, q⟩ := P3b.ex.grow P hP ps e; ⟨more, keep5 _ _ q⟩, ?_, h5o.trans P3b.ex.os, h5d.trans P3b.ex.drawn, Nat.le_refl _⟩, Km.le.refl G, fun _ e n => absurd e n⟩,
      ⟨_, h5h ▸ hn'.keeps (fun b o e => Heap.get?_push_of_some _ e), fun x v e => nomatch e⟩, fun p hp => ?_, ?_, fun z hz => ?_, hLb⟩
    · show sb.heap.objs.size ≤ s5.heap.objs.size
      rw [h5h, Heap.size_push]; omega
    · rcases List.mem_cons.mp hp with rfl | hp
      · exact keep5 _ _ (C3.st (I, _) (.head _))
      rcases List.mem_cons.mp hp with rfl | hp
      · exact keep5 _ _ (C3.st (It, _) (.tail _ (.head _)))
      · rcases List.mem_cons.mp hp with rfl | hp
        · show Heap.get? _ a = _
          rw [← ha, h5h]
          exact Heap.get?_push_size _ rfl
        · cases hp
    · simp only [List.map_cons, List.map_nil, List.nodup_cons, List.mem_cons, List.not_mem_nil, or_false, not_or, not_false_eq_true, List.nodup_nil, and_true]
      rw [hL'] at hIlt hTlt
      have q1 : L' ≠ a := fun h => by rw [← h, hsz] at ha; exact absurd ha (Nat.succ_ne_self _)
      have q2 : I ≠ a := fun h => by rw [← ha, hsz] at h; omega
      have q3 : It ≠ a := fun h => by rw [← ha, hsz] at h; omega
      exact ⟨⟨fun h => Nat.lt_irrefl _ (h ▸ hIlt), fun h => Nat.lt_irrefl _ (h ▸ hTlt), q1⟩, ⟨fun h => hIT h.symm, q2⟩, q3⟩
    · simp only [List.map_cons, List.map_nil, List.mem_cons, List.not_mem_nil, or_false] at hz
      rcases hz with rfl | rfl | rfl | rfl
      · exact ⟨.inl hLb, nG _ (by rw [hL']; exact Nat.le_refl _), nT _ (by rw [hL']; exact Nat.le_refl _)⟩
      · exact ⟨.inl hIb, (C3.new z (by simp)).2⟩
      · exact ⟨.inl hTb, (C3.new z (by simp)).2⟩
      · exact ⟨.inl (by show sb.heap.objs.size ≤ _; omega), nG _ (by rw [hL']; omega), nT _ (by rw [hL']; omega)⟩
  -- the loop
  let J : Nat → Shared → Prop := fun i s' => ∃ G' o old, itObj t i o ∧ Cx [] w sb' G G' L' [] [(I, enO It i old), (It, o), (a, genObj g q (s3.toks + 1) (s3.toks + 1 + 1))] s'
  let D : Shared → Prop := fun s' => ∃ G', Cx [] w sb' G G' L' [] [(a, genObj g q (s3.toks + 1) (s3.toks + 1 + 1))] s'
  let Fi : Shared → Prop := fun s' => ∃ G' mu', Cx [] w sb' G G' L' [] mu' s'
  have hgz : ∀ {G' mu' s'}, Cx [] w sb' G G' L' [] mu' s' → g < s'.gens.size := fun C' => by
    have := C'.ps.ex.gsz
    show _ < _
    have e : sb'.gens.size = g + 1 := by show s5.gens.size = _; rw [h5g, Array.size_push, hgg]
    omega
  have fin : ∀ s' b, (∃ G' mu', Cx [] w sb' G G' L' [] mu' s') → b = (List.range vs.length).all f → Q (.bool b) s' := fun s' b ⟨G', mu', C'⟩ e => by
    have P' : Ps [] sb G s' G' := ⟨⟨C'.ps.ex.keep, C'.ps.ex.grow, C'.ps.ex.size, C'.ps.ex.os, C'.ps.ex.drawn, by
      have h1 := hgz C'
      have h2 := P3b.ex.gsz
      omega⟩, C'.ps.le, C'.ps.fresh⟩
    exact e ▸ hQ s' G' (Cb.after C'.wd P') P'.le
  have klocal : cenv.kindOf x = some .local := by rw [← hcc]; exact hx
  have klocali : cenv.kindOf xi = some .local := by rw [← hcc]; exact hxi
  have kfun : cenv.scope.kind = .function := by rw [← hcc]; exact hkind
  have kL : cenv.locals = L' := by rw [← hcc]; rfl
  have H : ∀ B, Rm B k → GenJ w B a I g vs.length cenv elt (.Tuple [.Name xi pi, .Name x px] kt ptt) f J D Fi := fun B rB => by
    refine ⟨fun i s' E' hi hj => ?_, fun s' E' hj => ?_, fun s' E' hj => ?_, fun i s' hj => ?_, fun i s' y hj hy => ?_, fun s' y h'' hd hy hk' => ?_⟩
    · obtain ⟨G', o, old, ho, C'⟩ := hj
      have hv : vs[i]? = some vs[i] := List.getElem?_eq_getElem hi
      have hne : t ≠ It := fun e => by
        have x := (C'.new It (by simp)).2.1
        have y := ht.mono C'.ps.le
        unfold TupAt at y
        rw [e, x] at y
        cases y
      have hne2 : t ≠ I := fun e => by
        have x := (C'.new I (by simp)).2.1
        have y := ht.mono C'.ps.le
        unfold TupAt at y
        rw [e, x] at y
        cases y
      have heI := C'.st (I, enO It i old) (.head _)
      refine wpAny_pyNext_enum_itemD (drawsTup (A := B.in1) rB.1 It t hne vs.toArray) heI ⟨⟨o, C'.st (It, o) (.tail _ (.head _)), ho⟩, (ht.mono C'.ps.le).tup C'.wd⟩ (by simpa using hi) (Ne.symm hIT) (by simp [Ne.symm hIT, Ne.symm hne2]) fun y h2 tk hy hout hst2 htup hsz2 hk2 => ?_
      obtain ⟨⟨o2, ho2, hc2, hd2⟩, _⟩ := hst2
      rw [List.getElem?_toArray, hv] at hy
      cases hy
      have C2 := C'.upd2 (t := tk + 1) hk2 hout ho2
      refine ⟨_, rfl, ?_⟩
      refine wpAny_letOwnedTupleGo_enum (C2.st (I, _) (.head _)) fun h3 he3 hs3 => ?_
      have C3' := C2.upd0 (t := tk + 1) hs3 he3
      have hIlt' : I < s'.heap.objs.size := Heap.lt_size heI
      have tup3 : h3.get? s'.heap.objs.size = some { cls := .type "tuple", data := .seq #[.int i tk, vs[i]] } := (hs3.2 _ (Nat.ne_of_gt hIlt')).trans htup
      refine assign_Tuple_tuple (items := #[.int i tk, vs[i]]) rB.1 ⟨_, tup3, rfl, 0, rfl⟩ rfl rfl fun h4 hx4 => ?_
      have C4' := C3'.grown (t := tk + 1) (h' := h4) (fun z oz e => hx4 z oz (Nat.ne_of_lt (Heap.lt_size e)) e) C3'.wd.bare (Nat.le_refl _)
      rw [← kL] at C4'
      refine assignInOrder_cons (wpAny_assign_Name (R_store C4' (fun s4 C4 => ?_) kfun klocali))
      refine assignInOrder_cons (wpAny_assign_Name (R_store C4 (fun s5 C5 => ?_) kfun klocal))
      refine assignInOrder_nil ?_
      rw [kL] at C5
      rw [← hcc]
      refine wpAny_mono (helt sb' i _ tk G' L' code s5 _ B E' hv C'.ps.le C5 rB) (fun y s6 h6 => ?_) fun _ _ e => e
      obtain ⟨G6, rfl, C6⟩ := h6
      exact ⟨rfl, G6, o2, vs[i], ⟨hc2, hd2⟩, C6⟩
    · obtain ⟨G', o, old, ho, C'⟩ := hj
      have hne : t ≠ It := fun e => by
        have x := (C'.new It (by simp)).2.1
        have y := ht.mono C'.ps.le
        unfold TupAt at y
        rw [e, x] at y
        cases y
      refine wpAny_pyNext_enum_endD (i := ((vs.length : Nat) : Int)) (drawsTup (A := B.in1) rB.1 It t hne vs.toArray) (C'.st (I, enO It _ old) (.head _)) ?_ fun h2 hs2 => ⟨rfl, G', ?_⟩
      · rw [List.size_toArray]
        exact ⟨⟨o, C'.st (It, o) (.tail _ (.head _)), ho⟩, (ht.mono C'.ps.le).tup C'.wd⟩
      · have C2 := C'.subMu (mu' := [(It, o), (a, genObj g q (s3.toks + 1) (s3.toks + 1 + 1))]) (fun p hp => .tail _ hp) (by
          have nd := C'.nd
          simp only [List.map_cons, List.nodup_cons] at nd
          simpa using nd.2.2)
        exact C2.lose (t := s'.toks) hs2
    · obtain ⟨G', o, old, ho, C'⟩ := hj
      exact wpAny_pyIter_enum (i := ((0 : Nat) : Int)) (C'.st (I, enO It 0 old) (.head _)) ⟨rfl, G', o, old, ho, C'⟩
    · obtain ⟨G', o, old, ho, C'⟩ := hj
      exact ⟨⟨_, _, _, C'.st (a, _) (.tail _ (.tail _ (.head _))), rfl, rfl, rfl⟩, C'.wd.nolimit, hgz C'⟩
    · obtain ⟨G', o, old, ho, C'⟩ := hj
      exact ⟨G', o, old, ho, C'.grown (t := s'.toks) (fun _ _ e => e) (bare_set C'.wd.bare hy) (by simp)⟩
    · obtain ⟨G', C'⟩ := hd
      exact ⟨G', _, C'.grown (t := s'.toks) hk' (bare_set C'.wd.bare hy) (by simp [Shared.setGen])⟩
  have J0 : J 0 s5 := ⟨G, tIt t, .none, ⟨rfl, rfl⟩, C5⟩
  have hga : s5.heap.IsGen a g := ⟨_, _, _, C5.st (a, _) (.tail _ (.tail _ (.head _))), rfl, rfl, rfl⟩
  refine call_function_tree F.kind_all F.plain_all F.entry_all (F.args_all1 _) ?_
  unfold Builtin.«all»
  refine wpAny_bind (m := oneArg "all" _) (wpAny_pure ?_)
  refine wpAny_bind (wpAny_pyIter_gen hga ?_)
  refine wpAny_pure ⟨plainId_quiet F.plain_all_loop _, ?_⟩
  have hr : Rm (A.in1.in1.over (gLoop elt (.Tuple [.Name xi pi, .Name x px] kt ptt) iter scope pos I cenv) []) k := by
    have r := (rm.over (k := k + 1) (e := elt) (it := I) (cenv := cenv) (elt := elt) (gs := [⟨.Tuple [.Name xi pi, .Name x px] kt ptt, iter, [], 0⟩]) (scope := scope) (pos := pos)).le (Nat.le_succ k)
    refine ⟨r.1, r.2.1, ?_, r.2.2.2⟩
    have h : A.units + 1 + 1 + 1 + 0 + 3 + 60 * k ≤ 9800 := r.2.2.1
    show A.units + 1 + 1 + 0 + 3 + 60 * k ≤ 9800
    omega
  refine all_gLoop (H _ hr) rm.1 rm.depth (fun s' ht hf => fin s' true hf (nat_all ht).symm) (fun i s' hi hf hj => ?_) vs.length 0 s5 (Nat.zero_add _) J0 (fun j hj => absurd hj (Nat.not_lt_zero j)) ⟨.fresh (gStart elt (.Tuple [.Name xi pi, .Name x px] kt ptt) iter scope pos I cenv), ?_, rfl, ?_⟩
  · obtain ⟨G', o, _, _, C'⟩ := hj
    exact fin s' false ⟨G', _, C'⟩ (nat_not_all hi hf).symm
  · rw [h5g, ← hgg]
    exact Array.getElem?_push_size ..
  · exact seg_gStart (H _ hr) (by rw [← hcc]; exact hco) _ _ ((H _ hr).set 0 s5 .running J0 rfl)
end
-- part A20
section
variable {X : List Addr} {w : World} {s₀ s s' s1 : Shared} {G₀ G G' : Km} {L : Addr} {m m' : List (Str × Value)} {mu pre post : List (Addr × Obj)} {A : Around} {E : Value → Shared → Prop}
theorem setItem_slice {l sl t : Addr} {xs items : Array Value} {n k : Nat} {a b : Nat} {ta tb : Tok} {Q : Unit → Shared → Prop} (hl : s.heap.get? l = some { cls := .type "list", data := .seq xs n }) (hs : s.heap.IsSliceOf sl (.int (a : Int) ta) (.int (b : Int) tb) .none)
    (ht : s.heap.get? t = some { cls := .type "tuple", data := .seq items k }) (hab : a ≤ b) (hb : b ≤ xs.size) (hz : xs.size + items.size ≤ sizeLine) (hne : l ≠ t)
    (h : Q () { s with heap := s.heap.update l (Obj.mapSeq fun xs => xs.extract 0 a ++ items ++ xs.extract b xs.size) }) : wpAny (MD w) A (setItem (.ref l) (.ref sl) (.ref t)) Q E s := by
  obtain ⟨os, hos, hcs, hds⟩ := id hs
  have hTl : s.TypeIs (.ref l) "list" := ⟨_, hl, rfl⟩
  have hTs : s.TypeIs (.ref sl) "slice" := ⟨os, hos, hcs⟩
  have hTt : s.TypeIs (.ref t) "tuple" := ⟨_, ht, rfl⟩
  unfold setItem
  try with_reducible refine wpAny_holding ?_
  first | refine wpAny_bind (wpAny_pure ?_) | skip
  refine wpAny_bind (wpAny_sequenceKey hTl (by decide) ?_)
  refine wpAny_bind (wpAny_callSpecial?_slot (name := Str.ofString "__setitem__") hTl _root_.PySem.slot_list_setitem (wpAny_call_entry _root_.PySem.slot_list_setitem hTl _root_.PySem.entry_list_setitem ?_ (_root_.PySem.args_list_setitem _ _ _)))
  show wpAny _ _ (Builtin.List.listSubscript? (.ref sl) >>= _) _ _ s
  refine wpAny_bind ?_
  unfold Builtin.List.listSubscript?
  refine wpAny_bind (wpAny_specialOf hTs slice_no_index ?_)
  simp only [Option.isNone_none, if_true]
  refine wpAny_pure ?_
  show wpAny _ _ (typeOf (.ref sl) >>= _) _ _ s
  refine wpAny_bind (wpAny_typeOf hTs ?_)
  rw [if_neg (by decide)]
  rw [listSliceParts_eq]
  refine wpAny_bind (wpAny_bind (wpAny_field hos hds (x := .none) rfl (wpAny_bind (wpAny_listPart .none ?_))))
  rw [if_neg (by decide)]
  refine wpAny_bind (wpAny_field hos hds (x := .int (a : Int) ta) rfl (wpAny_bind (wpAny_listPart (.int _ _) ?_)))
  refine wpAny_bind (wpAny_field hos hds (x := .int (b : Int) tb) rfl (wpAny_bind (wpAny_listPart (.int _ _) (wpAny_pure ?_))))
  rw [if_neg (by simpa [Builtin.List.listSameRef] using hne)]
  unfold Builtin.List.listAllItems
  refine wpAny_bind (wpAny_bind (wpAny_typeOf hTt ?_))
  rw [if_pos (by decide)]
  refine wpAny_bind (wpAny_seqItems ht rfl (wpAny_pure ?_))
  refine wpAny_bind (wpAny_listItems (prog := PG) hl rfl ?_)
  refine wpAny_bind (wpAny_of_eq (sliceIndices_raw (some (a : Int)) (some (b : Int)) none xs.size (by decide)) ?_)
  have e1 : sliceBounds (some (a : Int)) (some (b : Int)) none xs.size = ((a : Int), (b : Int), 1) := by
    simp only [sliceBounds, Option.getD_none]
    have h1 : ¬ ((a : Int) < 0) := by omega
    have h2 : ¬ ((b : Int) < 0) := by omega
    simp only [h1, h2, if_false]
    refine Prod.ext ?_ (Prod.ext ?_ rfl)
    · simp; omega
    · simp; omega
  rw [e1]
  rw [if_pos (show ((1 : Int) == 1) = true from rfl)]
  refine wpAny_bind (wpAny_rule ?_)
  rw [if_neg (by simp [Builtin.List.listTooLong]; omega)]
  have e2 : (max (a : Int) (b : Int)).toNat = b := by omega
  simp only [e2, Int.toNat_natCast]
  show wpAny _ _ (updateSeq l _ >>= _) _ _ s
  refine wpAny_bind (wpAny_updateSeq hl rfl ?_ (by omega) (by simp; omega))
  refine wpAny_bind (wpAny_letGo ?_)
  exact wpAny_pure ⟨_, rfl, wpAny_pure h⟩
-- a new object of our own, above a step that keeps everything
theorem Cx.keepOwn {h' : Heap} {t : Nat} {a : Addr} {o : Obj} (C : Cx X w s₀ G₀ G L m mu s) (hk : ∀ b o, s.heap.get? b = some o → h'.get? b = some o) (ha : s.heap.objs.size ≤ a) (ho : h'.get? a = some o) (hz : s.heap.objs.size ≤ h'.objs.size) :
    Cx X w s₀ G₀ G L m ((a, o) :: mu) { s with heap := h', toks := t } := by
  have nw := C.wd.newAt ha
  have C1 := C.grown (t := t) hk C.wd.bare (Nat.le_refl _)
  have La : L ≠ a := fun e => Nat.lt_irrefl _ (Nat.lt_of_lt_of_le (e ▸ C.Llt) ha)
  have ma : ∀ p ∈ mu, p.1 ≠ a := fun p hp e => Nat.lt_irrefl _ (Nat.lt_of_lt_of_le (e ▸ C.lt p.1 (.tail _ (List.mem_map_of_mem hp))) ha)
  refine ⟨C1.wd, C1.ps, C1.ns, fun p hp => ?_, ?_, fun b hb => ?_, C1.newL⟩
  · rcases List.mem_cons.mp hp with rfl | hp
    · exact ho
    · exact C1.st p hp
  · simp only [List.map_cons]
    refine List.nodup_cons.mpr ⟨fun q => ?_, List.nodup_cons.mpr ⟨fun q => ?_, (List.nodup_cons.mp C1.nd).2⟩⟩
    · rcases List.mem_cons.mp q with q | q
      · exact La q
      · exact (List.nodup_cons.mp C1.nd).1 q
    · obtain ⟨p, hp, e⟩ := List.mem_map.mp q
      exact ma p hp e
  · simp only [List.map_cons, List.mem_cons] at hb
    rcases hb with rfl | rfl | hb
    · exact C1.new _ (.head _)
    · exact ⟨.inl (Nat.le_trans C.ps.ex.size ha), nw.1, nw.2⟩
    · exact C1.new b (.tail _ hb)
theorem R_listT {t : Addr} {vs : List Value} {Q : Value → Shared → Prop} (C : Cx X w s₀ G₀ G L m mu s) (ht : TupAt G t vs) (hz : vs.length ≤ 2000) (h : ∀ l s' n, Cx X w s₀ G₀ G L m ((l, lstObj vs n) :: mu) s' → Q (.ref l) s') : wpAny (MD w) A (call (.type "list") [.ref t]) Q E s := by
  refine call_list_seq t (T := "tuple") (.inr rfl) (C.get ht) rfl rfl (fun h' c' hk ho => ?_) (by rw [List.size_toArray]; exact Nat.le_trans hz (by decide))
  exact h _ _ c' (C.keepOwn (t := s.toks) hk (Nat.le_refl _) ho (Nat.le_of_lt (Nat.lt_of_le_of_lt (Nat.le_refl _) (Heap.lt_size ho))))
theorem R_listL {l : Addr} {vs : List Value} {n : Nat} {Q : Value → Shared → Prop} (C : Cx X w s₀ G₀ G L m mu s) (hl : (l, lstObj vs n) ∈ mu) (hz : vs.length ≤ 2000) (h : ∀ l s' n, Cx X w s₀ G₀ G L m ((l, lstObj vs n) :: mu) s' → Q (.ref l) s') : wpAny (MD w) A (call (.type "list") [.ref l]) Q E s := by
  refine call_list_seq l (T := "list") (.inl rfl) (C.getMu hl) rfl rfl (fun h' c' hk ho => ?_) (by rw [List.size_toArray]; exact Nat.le_trans hz (by decide))
  exact h _ _ c' (C.keepOwn (t := s.toks) hk (Nat.le_refl _) ho (Nat.le_of_lt (Nat.lt_of_le_of_lt (Nat.le_refl _) (Heap.lt_size ho))))
-- for over a tuple
theorem R_iterT {t : Addr} {vs : List Value} {Q : Value → Shared → Prop} (C : Cx X w s₀ G₀ G L m mu s) (ht : TupAt G t vs) (h : ∀ I s' o, itObj t 0 o → Cx X w s₀ G₀ G L m ((I, o) :: mu) s' → Q (.ref I) s') : wpAny (MD w) A (pyIter (.ref t)) Q E s := by
  refine iter_tuple (ht.tup C.wd) ?_
  exact h _ _ _ ⟨rfl, rfl⟩ C.push
theorem R_forT {x : Str} {px : Pos} {t I : Addr} {vs : List Value} {body orelse : List Stmt} {env : Env} {R : Result → Shared → Prop} {s : Shared} {o : Obj} {m : List (Str × Value)} (J : Nat → Km → List (Str × Value) → List (Addr × Obj) → Prop)
    (hh : A.handled = none) (C : Cx X w s₀ G₀ G env.locals m ((I, o) :: mu) s) (ho : itObj t 0 o) (ht : TupAt G t vs) (hk : env.scope.kind = .function) (hx : env.kindOf x = some .local) (h0 : J 0 G m mu)
    (turn : ∀ i v G' m' mu' s' o' E', vs[i]? = some v → G.le G' → J i G' m' mu' → itObj t (i+1) o' → Cx X w s₀ G₀ G' env.locals ((x, v) :: m') ((I, o') :: mu') s' →
      wpAny (MD w) A (execs body env) (fun f s3 => match f with
        | .next | .cont => Held (∃ G'' m'' mu'', J (i+1) G'' m'' mu'' ∧ G'.le G'' ∧ Cx X w s₀ G₀ G'' env.locals m'' ((I, o') :: mu'') s3)
        | .brk => R (.ok .next) s3
        | .ret v => R (.ok (.ret v)) s3) E' s')
    (done : ∀ G' m' mu' s' E', J vs.length G' m' mu' → G.le G' → Cx X w s₀ G₀ G' env.locals m' mu' s' → wpAny (MD w) A (execs orelse env) (fun f s3 => R (.ok f) s3) E' s') :
    codeAny (MD w) A (.forLoop (.Name x px) (.ref I) body orelse env) R s := by
  refine R_for (fun k s' => ∃ i G' m' mu' o', i + k = vs.length ∧ itObj t i o' ∧ G.le G' ∧ J i G' m' mu' ∧ Cx X w s₀ G₀ G' env.locals m' ((I, o') :: mu') s') (fun k s' hI => ?_) vs.length ⟨0, G, m, mu, o, Nat.zero_add _, ho, Km.le.refl G, h0, C⟩ (fun v => rfl)
  obtain ⟨i, G', m', mu', o', hi, ho', le', hJ, C'⟩ := hI
  have ht' := (ht.mono le').tup C'.wd
  cases k with
  | zero =>
    have e : i = vs.length := by omega
    subst e
    refine next_tuple_end hh ⟨o', C'.st (I, o') (.head _), ho'⟩ ht' (by rw [List.getElem?_toArray]; exact List.getElem?_eq_none (by omega)) fun h2 hs2 => ?_
    exact done _ _ _ _ _ hJ le' (C'.lose (t := s'.toks) hs2)
  | succ k =>
    have hv : vs[i]? = some vs[i] := List.getElem?_eq_getElem (by omega)
    refine next_tuple_item ⟨o', C'.st (I, o') (.head _), ho'⟩ ht' (by rw [List.getElem?_toArray]; exact hv) fun h2 hi2 hs2 => ?_
    obtain ⟨o2, ho2, hc2, hd2⟩ := hi2
    have C2 := C'.upd0 (t := s'.toks) hs2 ho2
    refine wpAny_assign_Name (R_store C2 (fun s4 C4 => ?_) hk hx)
    refine wpAny_mono (turn i _ G' m' mu' s4 o2 _ hv le' hJ ⟨hc2, hd2⟩ C4) (fun f s5 h5 => ?_) fun _ _ e => e
    have go : (∃ G'' m'' mu'', J (i+1) G'' m'' mu'' ∧ G'.le G'' ∧ Cx X w s₀ G₀ G'' env.locals m'' ((I, o2) :: mu'') s5) → Again (fun k s' => ∃ i G' m' mu' o', i + k = vs.length ∧ itObj t i o' ∧ G.le G' ∧ J i G' m' mu' ∧ Cx X w s₀ G₀ G' env.locals m' ((I, o') :: mu') s') (k + 1) s5 := fun ⟨G5, m5, mu5, hJ5, le5, C5⟩ =>
      ⟨k, Nat.lt_succ_self k, i + 1, G5, m5, mu5, o2, by omega, ⟨hc2, hd2⟩, le'.trans le5, hJ5, C5⟩
    cases f with
    | next => exact go h5
    | cont => exact go h5
    | brk => exact h5
    | ret v => exact h5
theorem R_loadName {x : Str} {v : Value} {env : Env} {Q : Value → Shared → Prop} (C : Cx X w s₀ G₀ G env.locals m mu s) (hv : m.lookup x = some v) (h : Q v s)
    (hk : env.scope.kind = .function) (hl : env.kindOf x = some .local) : wpAny (MD w) A (loadName env x) Q E s :=
  let ⟨_, hn, k⟩ := C.ns
  wpAny_loadName_local hk hl hn (k x v hv) h
theorem R_lenT {t : Addr} {vs : List Value} {Q : Value → Shared → Prop} (C : Cx X w s₀ G₀ G L m mu s) (ht : TupAt G t vs) (hz : vs.length ≤ 2000) (h : ∀ u s', Cx X w s₀ G₀ G L m mu s' → Q (.int (vs.length : Nat) u) s') : wpAny (MD w) A (call (.builtin "len") [.ref t]) Q E s :=
  PyProof.Rows.len_tuple (ht.tup C.wd) (by rw [List.size_toArray]; omega) (by rw [List.size_toArray]; exact h _ _ (C.toks _))
theorem R_lenL {l : Addr} {vs : List Value} {n : Nat} {Q : Value → Shared → Prop} (C : Cx X w s₀ G₀ G L m mu s) (hl : (l, lstObj vs n) ∈ mu) (hz : vs.length ≤ 2000) (h : ∀ u s', Cx X w s₀ G₀ G L m mu s' → Q (.int (vs.length : Nat) u) s') : wpAny (MD w) A (call (.builtin "len") [.ref l]) Q E s :=
  call_len_list (items := vs.toArray) ⟨_, C.getMu hl, rfl, n, rfl⟩ (by rw [List.size_toArray]; omega) (by rw [List.size_toArray]; exact h _ _ (C.toks _))
theorem Cx.pop {p : Addr × Obj} (C : Cx X w s₀ G₀ G L m (p :: mu) s) : Cx X w s₀ G₀ G L m mu s := C.subMu (fun _ h => .tail _ h) (by
  have := (List.nodup_cons.mp C.nd).2
  simp only [List.map_cons] at this
  exact (List.nodup_cons.mp this).2)
-- slice assignment in the ledger
theorem R_setSlice {l sl t : Addr} {xs vs : List Value} {n a b : Nat} {ta tb : Tok} {Q : Unit → Shared → Prop} (C : Cx X w s₀ G₀ G L m (pre ++ (l, lstObj xs n) :: post) s) (hs : s.heap.IsSliceOf sl (.int (a : Int) ta) (.int (b : Int) tb) .none)
    (ht : TupAt G t vs) (hab : a ≤ b) (hb : b ≤ xs.length) (hz : xs.length + vs.length ≤ 2000)
    (h : ∀ s' n', Cx X w s₀ G₀ G L m (pre ++ (l, lstObj (xs.take a ++ vs ++ xs.drop b) n') :: post) s' → Q () s') : wpAny (MD w) A (setItem (.ref l) (.ref sl) (.ref t)) Q E s := by
  have ho := C.getMu (a := l) (o := lstObj xs n) (by simp)
  have hne : l ≠ t := fun e => by
    have h1 := (C.new l (by simp)).2.1
    rw [e, show G t = some (tupObj vs) from ht] at h1
    cases h1
  refine setItem_slice ho hs (C.get ht) hab (by simpa using hb) (by simp only [List.size_toArray]; exact Nat.le_trans hz (by decide)) hne ?_
  have hg := Heap.get?_update_self (h := s.heap) (Obj.mapSeq fun ys => ys.extract 0 a ++ vs.toArray ++ ys.extract b ys.size) ho (Obj.isFreed_of_seq rfl)
  have e : ∃ n', Obj.mapSeq (fun ys => ys.extract 0 a ++ vs.toArray ++ ys.extract b ys.size) (lstObj xs n) = lstObj (xs.take a ++ vs ++ xs.drop b) n' := ⟨_, by
    show (⟨.type "list", none, .seq (xs.toArray.extract 0 a ++ vs.toArray ++ xs.toArray.extract b xs.toArray.size) _, #[]⟩ : Obj) = ⟨.type "list", none, .seq (xs.take a ++ vs ++ xs.drop b).toArray _, #[]⟩
    rw [show xs.toArray.extract 0 a ++ vs.toArray ++ xs.toArray.extract b xs.toArray.size = (xs.take a ++ vs ++ xs.drop b).toArray by simp; rw [List.take_of_length_le (by simp)]]⟩
  obtain ⟨n', e⟩ := e
  rw [e] at hg
  exact h _ n' (C.updMu (t := s.toks) (Heap.SameBut.update ..) hg)
end
-- part A21
section
variable {X : List Addr} {w : World} {s₀ s s' s1 : Shared} {G₀ G G' : Km} {L : Addr} {m m' : List (Str × Value)} {mu pre post : List (Addr × Obj)} {A : Around} {E : Value → Shared → Prop}
theorem R_itemL {t : Addr} {vs : List Value} {n : Nat} {value slice : Expr} {k : Int} {u : Tok} {x : Value} {Q : Value → Shared → Prop} (C : Cx X w s₀ G₀ G L m mu s) (hm : (t, lstObj vs n) ∈ mu) (h0 : 0 ≤ k) (hx : vs[k.toNat]? = some x)
    (hhi : k < 2 ^ 63) (h : Q x s) (hs : subscripted slice false (.ref t) (.int k u) = operate [.ref t, .int k u] (getItem (.ref t) (.int k u))) : wpAny (MD w) A (subscriptTail value slice (.ref t) (.int k u)) Q E s :=
  tail_any (T := "list") ⟨_, C.getMu hm, rfl⟩ slot_list_getitem.lookup (wpAny_getItem_list (items := vs.toArray) ⟨_, C.getMu hm, rfl, n, rfl⟩ h0 hhi (by rw [List.getElem?_toArray]; exact hx) h) hs
-- for over a list that the loop leaves alone
def itLO (l : Addr) (i : Nat) (o : Obj) : Prop := o.cls = .type "list_iterator" ∧ o.data = .fields #[.ref l, .int i 0]
theorem R_iterL {l : Addr} {vs : List Value} {n : Nat} {Q : Value → Shared → Prop} (C : Cx X w s₀ G₀ G L m mu s) (hm : (l, lstObj vs n) ∈ mu) (h : ∀ I s' o, itLO l 0 o → Cx X w s₀ G₀ G L m ((I, o) :: mu) s' → Q (.ref I) s') : wpAny (MD w) A (pyIter (.ref l)) Q E s :=
  wpAny_pyIter_list (items := vs.toArray) ⟨_, C.getMu hm, rfl, n, rfl⟩ (h _ _ _ ⟨rfl, rfl⟩ C.push)
theorem R_forL {x : Str} {px : Pos} {l I : Addr} {vs : List Value} {n : Nat} {body orelse : List Stmt} {env : Env} {R : Result → Shared → Prop} {s : Shared} {o : Obj} {m : List (Str × Value)} (J : Nat → Km → List (Str × Value) → List (Addr × Obj) → Prop)
    (hh : A.handled = none) (C : Cx X w s₀ G₀ G env.locals m ((I, o) :: mu) s) (ho : itLO l 0 o) (hJm : ∀ i G' m' mu', J i G' m' mu' → (l, lstObj vs n) ∈ mu') (hk : env.scope.kind = .function) (hx : env.kindOf x = some .local) (h0 : J 0 G m mu)
    (turn : ∀ i v G' m' mu' s' o' E', vs[i]? = some v → G.le G' → J i G' m' mu' → itLO l (i+1) o' → Cx X w s₀ G₀ G' env.locals ((x, v) :: m') ((I, o') :: mu') s' →
      wpAny (MD w) A (execs body env) (fun f s3 => match f with
        | .next | .cont => Held (∃ G'' m'' mu'', J (i+1) G'' m'' mu'' ∧ G'.le G'' ∧ Cx X w s₀ G₀ G'' env.locals m'' ((I, o') :: mu'') s3)
        | .brk => R (.ok .next) s3
        | .ret v => R (.ok (.ret v)) s3) E' s')
    (done : ∀ G' m' mu' s' E', J vs.length G' m' mu' → G.le G' → Cx X w s₀ G₀ G' env.locals m' mu' s' → wpAny (MD w) A (execs orelse env) (fun f s3 => R (.ok f) s3) E' s') :
    codeAny (MD w) A (.forLoop (.Name x px) (.ref I) body orelse env) R s := by
  refine R_for (fun k s' => ∃ i G' m' mu' o', i + k = vs.length ∧ itLO l i o' ∧ G.le G' ∧ J i G' m' mu' ∧ Cx X w s₀ G₀ G' env.locals m' ((I, o') :: mu') s') (fun k s' hI => ?_) vs.length ⟨0, G, m, mu, o, Nat.zero_add _, ho, Km.le.refl G, h0, C⟩ (fun v => rfl)
  obtain ⟨i, G', m', mu', o', hi, ho', le', hJ, C'⟩ := hI
  have hl : s'.heap.IsList l vs.toArray := ⟨_, C'.getMu (.tail _ (hJm _ _ _ _ hJ)), rfl, n, rfl⟩
  cases k with
  | zero =>
    have e : i = vs.length := by omega
    subst e
    refine wpAny_pyNext_list_end hh ⟨o', C'.st (I, o') (.head _), ho'⟩ hl (by rw [List.getElem?_toArray]; exact List.getElem?_eq_none (by omega)) fun h2 hs2 => ?_
    exact done _ _ _ _ _ hJ le' (C'.lose (t := s'.toks) hs2)
  | succ k =>
    have hv : vs[i]? = some vs[i] := List.getElem?_eq_getElem (by omega)
    refine wpAny_pyNext_list_item ⟨o', C'.st (I, o') (.head _), ho'⟩ hl (by rw [List.getElem?_toArray]; exact hv) fun h2 hi2 hs2 => ?_
    obtain ⟨o2, ho2, hc2, hd2⟩ := hi2
    have C2 := C'.upd0 (t := s'.toks) hs2 ho2
    refine wpAny_assign_Name (R_store C2 (fun s4 C4 => ?_) hk hx)
    refine wpAny_mono (turn i _ G' m' mu' s4 o2 _ hv le' hJ ⟨hc2, hd2⟩ C4) (fun f s5 h5 => ?_) fun _ _ e => e
    have go : (∃ G'' m'' mu'', J (i+1) G'' m'' mu'' ∧ G'.le G'' ∧ Cx X w s₀ G₀ G'' env.locals m'' ((I, o2) :: mu'') s5) → Again (fun k s' => ∃ i G' m' mu' o', i + k = vs.length ∧ itLO l i o' ∧ G.le G' ∧ J i G' m' mu' ∧ Cx X w s₀ G₀ G' env.locals m' ((I, o') :: mu') s') (k + 1) s5 := fun ⟨G5, m5, mu5, hJ5, le5, C5⟩ =>
      ⟨k, Nat.lt_succ_self k, i + 1, G5, m5, mu5, o2, by omega, ⟨hc2, hd2⟩, le'.trans le5, hJ5, C5⟩
    cases f with
    | next => exact go h5
    | cont => exact go h5
    | brk => exact h5
    | ret v => exact h5
theorem R_listS {t : Addr} {vs : List Value} {Q : Value → Shared → Prop} (C : Cx X w s₀ G₀ G L m mu s) (ht : SeqAt G t vs) (hz : vs.length ≤ 2000) (h : ∀ l s' n, Cx X w s₀ G₀ G L m ((l, lstObj vs n) :: mu) s' → Q (.ref l) s') : wpAny (MD w) A (call (.type "list") [.ref t]) Q E s := by
  obtain ⟨T, n, hT, hg⟩ := ht
  refine call_list_seq t (T := T) hT (C.get hg) rfl rfl (fun h' c' hk ho => ?_) (by rw [List.size_toArray]; exact Nat.le_trans hz (by decide))
  exact h _ _ c' (C.keepOwn (t := s.toks) hk (Nat.le_refl _) ho (Nat.le_of_lt (Nat.lt_of_le_of_lt (Nat.le_refl _) (Heap.lt_size ho))))
theorem R_truthL {t : Addr} {vs : List Value} {n : Nat} {Q : Bool → Shared → Prop} (C : Cx X w s₀ G₀ G L m mu s) (hm : (t, lstObj vs n) ∈ mu) (hz : vs.length ≤ 2000) (h : ∀ s', Cx X w s₀ G₀ G L m mu s' → Q (!vs.isEmpty) s') : wpAny (MD w) A (truthy (.ref t)) Q E s :=
  wpAny_truthy_list (items := vs.toArray) ⟨_, C.getMu hm, rfl, n, rfl⟩ (by rw [List.size_toArray]; omega) (by rw [List.isEmpty_toArray]; exact h _ (C.toks _))
theorem R_truthC {t : Addr} {v : Value} {vs : List Value} {n : Nat} {Q : Bool → Shared → Prop} (C : Cx X w s₀ G₀ G L m mu s) (hm : (t, lstObj (v :: vs) n) ∈ mu) (hz : (v :: vs).length ≤ 2000) (h : ∀ s', Cx X w s₀ G₀ G L m mu s' → Q true s') : wpAny (MD w) A (truthy (.ref t)) Q E s := R_truthL C hm hz h
theorem Cx.fresh' (C : Cx [] w s₀ G₀ G L m mu s) : Fresh s₀ s G mu := ⟨fun p hp => by
  obtain ⟨h1, h2, h3⟩ := C.new p.1 (.tail _ (List.mem_map_of_mem hp))
  exact ⟨C.st p hp, h1.elim id (fun h => nomatch h), h2, h3⟩, (List.nodup_cons.mp C.nd).2⟩
-- list.remove
def rmF : List Value → List Bool → List Value
  | _ :: vs, true :: _ => vs
  | v :: vs, false :: rs => v :: rmF vs rs
  | vs, _ => vs
theorem remove_loop' {k : Nat} {t b : Addr} {n : Nat} {R : Result → Shared → Prop} (rm : Rm A (k + 2)) : ∀ (rest dn : List Value) (qs : List Bool) (s : Shared), dn.length + rest.length ≤ 2000 → Cx X w s₀ G₀ G L m (pre ++ (t, lstObj (dn ++ rest) n) :: post) s → EqAll w k G b rest qs → qs.any id = true →
    (∀ s' n', Cx X w s₀ G₀ G L m (pre ++ (t, lstObj (dn ++ rmF rest qs) n') :: post) s' → R (.ok (.ret .none)) s') → codeAny (MD w) A (.builtin "list.remove.loop" ⟨[.ref t, .ref b, rawInt dn.length], []⟩) R s := by
  intro rest
  induction rest with
  | nil =>
    intro dn qs s hz C he hq h
    cases qs with
    | cons => exact he.elim
    | nil => cases hq
  | cons v rest ih =>
    intro dn qs s hz C he hq h
    cases qs with
    | nil => exact he.elim
    | cons q qs =>
      obtain ⟨⟨a, rfl, hab⟩, he⟩ := he
      refine codeAny_builtin PySem.MeetsSeq.entry_remove_loop ?_
      rw [Around.under_plainId PySem.MeetsSeq.plain_remove_loop _]
      show wpAny _ _ (Builtin.List.listItems (.ref t) >>= _) _ _ s
      have ho := C.getMu (a := t) (o := lstObj (dn ++ .ref a :: rest) n) (by simp)
      unfold Builtin.List.listItems
      refine wpAny_bind (wpAny_bind (wpAny_seqItems ho rfl (wpAny_pure ?_)))
      have hx : (dn ++ Value.ref a :: rest)[dn.length]? = some (.ref a) := by simp
      simp only [List.getElem?_toArray, rawInt, Int.toNat_natCast, hx]
      refine wpAny_bind (R_eqBool C.wd (rm.in1.le (Nat.le_succ k)) hab fun s2 W2 P2 => ?_)
      have C2 := C.after W2 P2
      cases q with
      | true =>
        simp only [if_true]
        have ho2 := C2.getMu (a := t) (o := lstObj (dn ++ .ref a :: rest) n) (by simp)
        simp only [List.length_cons] at hz
        refine wpAny_bind (m := updateSeq t _) (wpAny_updateSeq ho2 rfl ?_ (by rw [List.size_toArray, List.length_append, List.length_cons]; exact Nat.le_trans hz (by decide)) (by
          rw [List.eraseIdxIfInBounds_toArray, List.size_toArray]
          refine Nat.le_trans (List.length_eraseIdx_le ..) ?_
          rw [List.length_append, List.length_cons]; exact Nat.le_trans hz (by decide)))
        refine wpAny_pure ?_
        have hg := Heap.get?_update_self (h := s2.heap) (Obj.mapSeq (·.eraseIdxIfInBounds dn.length)) ho2 (Obj.isFreed_of_seq rfl)
        have e : ∃ n', Obj.mapSeq (·.eraseIdxIfInBounds dn.length) (lstObj (dn ++ .ref a :: rest) n) = lstObj (dn ++ rest) n' := ⟨_, by
          show (⟨.type "list", none, .seq ((dn ++ Value.ref a :: rest).toArray.eraseIdxIfInBounds dn.length) _, #[]⟩ : Obj) = ⟨.type "list", none, .seq (dn ++ rest).toArray _, #[]⟩
          rw [show (dn ++ Value.ref a :: rest).toArray.eraseIdxIfInBounds dn.length = (dn ++ rest).toArray by
            rw [List.eraseIdxIfInBounds_toArray, List.eraseIdx_append_of_length_le (Nat.le_refl _), Nat.sub_self]; rfl]⟩
        obtain ⟨n', e⟩ := e
        rw [e] at hg
        exact h _ n' (C2.updMu (t := s2.toks) (Heap.SameBut.update ..) hg)
      | false =>
        simp only [Bool.false_eq_true, if_false]
        have e : (dn ++ Value.ref a :: rest) = (dn ++ [.ref a]) ++ rest := by simp
        rw [e] at C2
        have := ih (dn ++ [.ref a]) qs s2 (by simp only [List.length_append, List.length_cons, List.length_nil] at hz ⊢; omega) C2 he (by simpa using hq) (fun s' n' C' => h s' n' (by rw [List.append_assoc] at C'; exact C'))
        rw [List.length_append] at this
        exact wpAny_pure ⟨plainId_quiet PySem.MeetsSeq.plain_remove_loop _, this⟩
theorem R_removeL {k : Nat} {t b : Addr} {n : Nat} {vs : List Value} {rs : List Bool} {Q : Value → Shared → Prop} (C : Cx X w s₀ G₀ G L m (pre ++ (t, lstObj vs n) :: post) s) (rm : Rm A (k + 3)) (hz : vs.length ≤ 2000) (he : EqAll w k G b vs rs) (hr : rs.any id = true)
    (h : ∀ s' n', Cx X w s₀ G₀ G L m (pre ++ (t, lstObj (rmF vs rs) n') :: post) s' → Q .none s') : wpAny (MD w) A (call (.builtin "list.remove") [.ref t, .ref b]) Q E s := by
  have hT : s.TypeIs (.ref t) "list" := ⟨_, C.getMu (a := t) (o := lstObj vs n) (by simp), rfl⟩
  refine wpAny_call_slot F.slot_list_remove hT F.entry_list_remove (F.args_list_remove_2 _ _) ?_
  show wpAny _ _ (again (.builtin "list.remove.loop" ⟨[.ref t, .ref b, rawInt 0], []⟩)) _ _ s
  exact wpAny_pure ⟨plainId_quiet PySem.MeetsSeq.plain_remove_loop _, remove_loop' (rm.le (by omega)) vs [] rs s (by simpa using hz) C he hr fun s' n' C' => h s' n' C'⟩
end
-- part A22
-- list.sort where a comparison may change the state, but keeps J
section
variable {w : World} {A : Around} {E : Value → Shared → Prop} {α β : Type}
def wpJ (w : World) (A : Around) (E : Value → Shared → Prop) (J : Shared → Prop) (m : StateT SortSt Sem α) (Q : α → SortSt → Prop) (st : SortSt) : Prop := ∀ s, J s → wpAny (MD w) A (m.run st) (fun r s' => J s' ∧ Q r.1 r.2) E s
variable {J : Shared → Prop}
theorem J_pure {a : α} {Q : α → SortSt → Prop} {st : SortSt} (h : Q a st) : wpJ w A E J (pure a) Q st := fun s hs => by
  rw [StateT.run_pure]; exact wpAny_pure ⟨hs, h⟩
theorem J_bind {m : StateT SortSt Sem α} {f : α → StateT SortSt Sem β} {Q : β → SortSt → Prop} {st : SortSt} (h : wpJ w A E J m (fun a st' => wpJ w A E J (f a) Q st') st) : wpJ w A E J (m >>= f) Q st := fun s hs => by
  rw [StateT.run_bind]
  exact wpAny_bind (wpAny_mono (h s hs) (fun r s' h' => h'.2 s' h'.1) fun _ _ e => e)
theorem J_mono {m : StateT SortSt Sem α} {Q Q' : α → SortSt → Prop} {st : SortSt} (h : wpJ w A E J m Q st) (hq : ∀ a st', Q a st' → Q' a st') : wpJ w A E J m Q' st := fun s hs => wpAny_mono (h s hs) (fun _ _ h' => ⟨h'.1, hq _ _ h'.2⟩) fun _ _ e => e
theorem J_get {Q : SortSt → SortSt → Prop} {st : SortSt} (h : Q st st) : wpJ w A E J (get : StateT SortSt Sem SortSt) Q st := fun s hs => by
  rw [StateT.run_get]; exact wpAny_pure ⟨hs, h⟩
theorem J_modify {f : SortSt → SortSt} {Q : PUnit → SortSt → Prop} {st : SortSt} (h : Q ⟨⟩ (f st)) : wpJ w A E J (modify f : StateT SortSt Sem PUnit) Q st := fun s hs => by
  rw [StateT.run_modify]; exact wpAny_pure ⟨hs, h⟩
theorem J_lift {m : Sem α} {Q : α → SortSt → Prop} {st : SortSt} (h : ∀ s, J s → wpAny (MD w) A m (fun a s' => J s' ∧ Q a st) E s) : wpJ w A E J (liftM m : StateT SortSt Sem α) Q st := fun s hs => by
  show wpAny _ A ((StateT.lift m : StateT SortSt Sem α).run st) _ E s
  rw [StateT.run_lift]
  exact wpAny_bind (wpAny_mono (h s hs) (fun a s' h' => wpAny_pure h') fun _ _ e => e)
-- a loop over a list of numbers, with an invariant of what is left
theorem J_each {c : β} {f : Nat → β → StateT SortSt Sem (ForInStep β)} (I : List Nat → β → SortSt → Prop) {Q : β → SortSt → Prop}
    (step : ∀ x l c st, I (x :: l) c st → wpJ w A E J (f x c) (fun r st' => match r with | .done c' => Q c' st' | .yield c' => I l c' st') st) (fin : ∀ c st, I [] c st → Q c st) :
    ∀ {l : List Nat} {c : β} {st : SortSt}, I l c st → wpJ w A E J (forIn l c f) Q st
  | [], c, st, h => by rw [List.forIn_nil]; exact J_pure (fin _ _ h)
  | x :: l, c, st, h => by
    rw [List.forIn_cons]
    refine J_bind (J_mono (step x l c st h) fun r st' h' => ?_)
    cases r with
    | done c' => exact J_pure h'
    | yield c' => exact J_each (c := c) I step fin h'
theorem J_range {a b : Nat} {c : β} {f : Nat → β → StateT SortSt Sem (ForInStep β)} {st : SortSt} (I : Nat → β → SortSt → Prop) {Q : β → SortSt → Prop} (hab : a ≤ b) (h0 : I a c st)
    (step : ∀ i c st, a ≤ i → i < b → I i c st → wpJ w A E J (f i c) (fun r st' => match r with | .done c' => Q c' st' | .yield c' => I (i + 1) c' st') st) (fin : ∀ c st, I b c st → Q c st) :
    wpJ w A E J (forIn [a:b] c f) Q st := by
  rw [Std.Legacy.Range.forIn_eq_forIn_range']
  have hsz : ([a:b] : Std.Legacy.Range).size = b - a := by simp [Std.Legacy.Range.size]
  show wpJ w A E J (forIn (List.range' a ([a:b] : Std.Legacy.Range).size 1) c f) Q st
  rw [hsz]
  refine J_each (c := c) (fun l c st => ∃ i, a ≤ i ∧ i ≤ b ∧ l = List.range' i (b - i) 1 ∧ I i c st) (fun x l c st ⟨i, h1, h2, hl, hI⟩ => ?_) (fun c st ⟨i, h1, h2, hl, hI⟩ => ?_) ⟨a, Nat.le_refl a, hab, rfl, h0⟩
  · have hb : i < b := by
      by_cases q : i = b
      · rw [q, Nat.sub_self] at hl; cases hl
      · omega
    rw [show b - i = (b - (i + 1)) + 1 by omega, List.range'_succ] at hl
    cases hl
    refine J_mono (step x c st h1 hb hI) fun r st' h' => ?_
    cases r with
    | done c' => exact h'
    | yield c' => exact ⟨x + 1, by omega, by omega, rfl, h'⟩
  · have : i = b := by
      by_cases q : i = b
      · exact q
      · rw [show b - i = (b - (i + 1)) + 1 by omega, List.range'_succ] at hl; cases hl
    subst this
    exact fin c st hI
-- ranks: a row of different values, each with a number of its own
variable {ρ : Value → Nat} {kd : SortKind} {vs : List Value}
def RkInj (ρ : Value → Nat) (vs : List Value) : Prop := ∀ x ∈ vs, ∀ y ∈ vs, ρ x = ρ y → x = y
def LtJ (w : World) (A : Around) (E : Value → Shared → Prop) (J : Shared → Prop) (kd : SortKind) (ρ : Value → Nat) (vs : List Value) : Prop := ∀ x ∈ vs, ∀ y ∈ vs, x ≠ y → ∀ (E : Value → Shared → Prop) (Q : Bool → Shared → Prop) s, J s → (∀ s', J s' → Q (decide (ρ x < ρ y)) s') → wpAny (MD w) A (keyLt' kd x y) Q E s
structure SB (kd : SortKind) (vs : List Value) (st : SortSt) : Prop where
  perm : (arrOf st).toList.Perm (vs.map fun v => (v, v))
  kind : kindOf st = kd
  failed : failedOf st = none
  pend : pendingOf st = #[]
theorem SB.size {st : SortSt} (B : SB kd vs st) : (arrOf st).size = vs.length := by
  have := B.perm.length_eq
  simpa using this
theorem SB.set {st : SortSt} (B : SB kd vs st) {xs : Array Keyed} (hp : xs.Perm (arrOf st)) : SB kd vs (setArr st xs) := ⟨(Array.perm_iff_toList_perm.mp hp).trans B.perm, B.kind, B.failed, B.pend⟩
def rk (ρ : Value → Nat) (xs : Array Keyed) (i : Nat) : Nat := match xs[i]? with
  | some p => ρ p.1
  | none => 0
theorem rk_eq {xs ys : Array Keyed} {i j : Nat} (h : xs[i]? = ys[j]?) : rk ρ xs i = rk ρ ys j := by unfold rk; rw [h]
theorem SB.at_ {st : SortSt} (B : SB kd vs st) {i : Nat} (hi : i < vs.length) : ∃ v, v ∈ vs ∧ (arrOf st)[i]? = some (v, v) ∧ rk ρ (arrOf st) i = ρ v := by
  have hi' : i < (arrOf st).size := B.size ▸ hi
  have hm : (arrOf st)[i] ∈ (arrOf st).toList := by simp
  obtain ⟨v, hv, e⟩ := List.mem_map.mp (B.perm.mem_iff.mp hm)
  have e2 : (arrOf st)[i]? = some (v, v) := by rw [getElem?_pos _ i hi', ← e]
  exact ⟨v, hv, e2, by unfold rk; rw [e2]⟩
theorem SB.ne {st : SortSt} (B : SB kd vs st) (hn : vs.Nodup) {i j : Nat} {x y : Value} (hi : (arrOf st)[i]? = some (x, x)) (hj : (arrOf st)[j]? = some (y, y)) (hij : i ≠ j) : x ≠ y := by
  intro e
  subst e
  have nd : ((vs.map fun v => (v, v)) : List Keyed).Nodup := List.Pairwise.map _ (fun a b h e => h (congrArg Prod.fst e)) hn
  have nd : (arrOf st).toList.Nodup := (B.perm.nodup_iff).mpr nd
  have nd := List.pairwise_iff_getElem.mp nd
  obtain ⟨hi1, hi2⟩ := Array.getElem?_eq_some_iff.mp hi
  obtain ⟨hj1, hj2⟩ := Array.getElem?_eq_some_iff.mp hj
  rcases Nat.lt_or_gt_of_ne hij with h | h
  · exact nd i j (by simpa using hi1) (by simpa using hj1) h (by simpa using hi2.trans hj2.symm)
  · exact nd j i (by simpa using hj1) (by simpa using hi1) h (by simpa using hj2.trans hi2.symm)
theorem J_lt {st : SortSt} {i j : Nat} {Q : Option Bool → SortSt → Prop} (hL : LtJ w A E J kd ρ vs) (hn : vs.Nodup) (B : SB kd vs st) (hi : i < vs.length) (hj : j < vs.length) (hij : i ≠ j)
    (h : Q (some (decide (rk ρ (arrOf st) i < rk ρ (arrOf st) j))) st) : wpJ w A E J (ltAt' i j) Q st := by
  obtain ⟨x, hx, ex, kx⟩ := B.at_ (ρ := ρ) hi
  obtain ⟨y, hy, ey, ky⟩ := B.at_ (ρ := ρ) hj
  rw [kx, ky] at h
  rw [ltAt'_eq]
  refine J_bind (J_get ?_)
  show wpJ _ _ _ _ (do let x ← elem' (arrOf st) i; let y ← elem' (arrOf st) j; lt' x y) Q st
  rw [elem'_eq, elem'_eq, ex, ey]
  refine J_bind (J_pure (J_bind (J_pure ?_)))
  rw [lt'_eq]
  refine J_bind (J_get ?_)
  refine J_bind (J_lift fun s hs => wpAny_attempt ?_)
  rw [B.kind]
  exact hL x hx y hy (B.ne hn ex ey hij) _ _ s hs fun s' hs' => ⟨hs', J_pure h⟩
def Up (ρ : Value → Nat) (xs : Array Keyed) (k : Nat) : Prop := ∀ i j, i < j → j < k → rk ρ xs i < rk ρ xs j
def Dn (ρ : Value → Nat) (xs : Array Keyed) (k : Nat) : Prop := ∀ i j, i < j → j < k → rk ρ xs j < rk ρ xs i
theorem SB.rne {st : SortSt} (B : SB kd vs st) (hn : vs.Nodup) (hi : RkInj ρ vs) {i j : Nat} (h1 : i < vs.length) (h2 : j < vs.length) (h : i ≠ j) : rk ρ (arrOf st) i ≠ rk ρ (arrOf st) j := by
  obtain ⟨x, hx, ex, kx⟩ := B.at_ (ρ := ρ) h1
  obtain ⟨y, hy, ey, ky⟩ := B.at_ (ρ := ρ) h2
  rw [kx, ky]
  exact fun e => B.ne hn ex ey h (hi x hx y hy e)
theorem rk_mirror {xs : Array Keyed} {n : Nat} (hn : n ≤ xs.size) (k : Nat) : rk ρ (mirror xs 0 n ((n - 0) / 2)) k = if k < n then rk ρ xs (n - 1 - k) else rk ρ xs k := by
  have e := getElem?_mirror_all (xs := xs) (i := 0) hn k
  split
  · rename_i h
    rw [if_pos ⟨Nat.zero_le k, h⟩] at e
    rw [rk_eq e]; congr 1; omega
  · rename_i h
    rw [if_neg (fun q => h q.2)] at e
    exact rk_eq e
theorem J_asc {st : SortSt} {a n : Nat} {Q : AscSt → SortSt → Prop} (hL : LtJ w A E J kd ρ vs) (hn : vs.Nodup) (hi : RkInj ρ vs) (B : SB kd vs st) (hnn : n ≤ vs.length) (ha : 1 ≤ a) (han : a ≤ n) (hu : Up ρ (arrOf st) a)
    (h : ∀ k, a ≤ k → k ≤ n → Up ρ (arrOf st) k → (k = n ∨ rk ρ (arrOf st) k < rk ρ (arrOf st) (k - 1)) → Q (none, k) st) : wpJ w A E J (ascLoop a n) Q st := by
  unfold ascLoop
  refine J_range (fun x c st' => st' = st ∧ c = (none, x) ∧ Up ρ (arrOf st) x) han ⟨rfl, rfl, hu⟩ (fun x c st' h1 h2 ⟨e1, e2, hx⟩ => ?_) fun c st' ⟨e1, e2, hx⟩ => ?_
  · subst e1 e2
    dsimp only
    refine J_bind (J_lt hL hn B (by omega) (by omega) (by omega) ?_)
    by_cases q : rk ρ (arrOf st') x < rk ρ (arrOf st') (x - 1)
    · simp only [q, decide_true, if_true]
      exact J_pure (h x h1 (by omega) hx (.inr q))
    · simp only [q, decide_false, Bool.false_eq_true, if_false]
      refine J_pure ⟨rfl, rfl, fun i j hij hj => ?_⟩
      have hne := B.rne (ρ := ρ) hn hi (i := x) (j := x - 1) (by omega) (by omega) (by omega)
      by_cases hjx : j < x
      · exact hx i j hij hjx
      · have : j = x := by omega
        subst this
        by_cases hi' : i = j - 1
        · subst hi'; omega
        · have := hx i (j - 1) (by omega) (by omega); omega
  · subst e1 e2
    exact h n han (Nat.le_refl n) hx (.inl rfl)
theorem J_rev {st : SortSt} {i j : Nat} {Q : Unit → SortSt → Prop} (h : Q () (setArr st (mirror (arrOf st) i j ((j - i) / 2)))) : wpJ w A E J (reverseSlice' i j) Q st := by
  rw [reverseSlice'_eq]; exact J_modify h
theorem J_tail {st : SortSt} {m n : Nat} {Q : Option Nat → SortSt → Prop} (hL : LtJ w A E J kd ρ vs) (hn : vs.Nodup) (hi : RkInj ρ vs) (B : SB kd vs st) (hnn : n ≤ vs.length) (h1 : 1 ≤ m) (hm : m ≤ n) (hd : Dn ρ (arrOf st) m)
    (h : ∀ k st', SB kd vs st' → 1 ≤ k → k ≤ n → Up ρ (arrOf st') k → Q (some k) st') : wpJ w A E J (tail3 m n) Q st := by
  unfold tail3
  refine J_bind (J_rev ?_)
  have B' := B.set (mirror_perm (arrOf st) 0 m ((m - 0) / 2))
  have hs : m ≤ (arrOf st).size := by rw [B.size]; omega
  refine J_bind (J_asc hL hn hi B' hnn h1 hm ?_ fun k k1 k2 k3 _ => J_pure (h k _ B' (by omega) k2 k3))
  intro i j hij hj
  show rk ρ (mirror (arrOf st) 0 m ((m - 0) / 2)) i < rk ρ (mirror (arrOf st) 0 m ((m - 0) / 2)) j
  rw [rk_mirror hs, rk_mirror hs, if_pos (by omega), if_pos (by omega)]
  exact hd _ _ (by omega) (by omega)
theorem J_desc {st : SortSt} {m n : Nat} {Q : DescSt → SortSt → Prop} (hL : LtJ w A E J kd ρ vs) (hn : vs.Nodup) (hi : RkInj ρ vs) (B : SB kd vs st) (hnn : n ≤ vs.length) (h1 : 1 ≤ m) (hm : m ≤ n) (hd : Dn ρ (arrOf st) m)
    (h : ∀ k, m ≤ k → k ≤ n → Dn ρ (arrOf st) k → Q (none, k, 0) st) : wpJ w A E J (descLoop m n) Q st := by
  unfold descLoop
  refine J_range (fun x c st' => st' = st ∧ c = (none, x, 0) ∧ Dn ρ (arrOf st) x) hm ⟨rfl, rfl, hd⟩ (fun x c st' h1 h2 ⟨e1, e2, hx⟩ => ?_) fun c st' ⟨e1, e2, hx⟩ => ?_
  · subst e1 e2
    dsimp only
    refine J_bind (J_lt hL hn B (by omega) (by omega) (by omega) ?_)
    have hne := B.rne (ρ := ρ) hn hi (i := x) (j := x - 1) (by omega) (by omega) (by omega)
    by_cases q : rk ρ (arrOf st') x < rk ρ (arrOf st') (x - 1)
    · simp only [q, decide_true, if_true]
      rw [if_neg (by omega)]
      refine J_pure ⟨rfl, rfl, fun i j hij hj => ?_⟩
      by_cases hjx : j < x
      · exact hx i j hij hjx
      · have : j = x := by omega
        subst this
        by_cases hi' : i = j - 1
        · subst hi'; exact q
        · have := hx i (j - 1) (by omega) (by omega); omega
    · simp only [q, decide_false, Bool.false_eq_true, if_false]
      refine J_bind (J_lt hL hn B (by omega) (by omega) (by omega) ?_)
      have q2 : rk ρ (arrOf st') (x - 1) < rk ρ (arrOf st') x := by omega
      simp only [q2, decide_true, if_true]
      exact J_pure (h x h1 (by omega) hx)
  · subst e1 e2
    exact h n hm (Nat.le_refl n) hx
theorem J_part {st : SortSt} {m n : Nat} {Q : Option Nat → SortSt → Prop} (hL : LtJ w A E J kd ρ vs) (hn : vs.Nodup) (hi : RkInj ρ vs) (B : SB kd vs st) (hnn : n ≤ vs.length) (hm : m + 1 ≤ n) (hd : Dn ρ (arrOf st) (m + 1))
    (h : ∀ k st', SB kd vs st' → 1 ≤ k → k ≤ n → Up ρ (arrOf st') k → Q (some k) st') : wpJ w A E J (descPart m n) Q st := by
  unfold descPart
  refine J_bind (J_lift fun s hs => wpAny_rule ⟨hs, ?_⟩)
  refine J_bind (J_desc hL hn hi B hnn (by omega) hm hd fun k h1 h2 h3 => ?_)
  dsimp only
  rw [if_neg (by omega)]
  exact J_tail hL hn hi B hnn (by omega) h2 h3 h
theorem J_count {st : SortSt} {n : Nat} {Q : Option Nat → SortSt → Prop} (hL : LtJ w A E J kd ρ vs) (hn : vs.Nodup) (hi : RkInj ρ vs) (B : SB kd vs st) (hnn : n ≤ vs.length) (h1 : 1 ≤ n)
    (h : ∀ k st', SB kd vs st' → 1 ≤ k → k ≤ n → Up ρ (arrOf st') k → Q (some k) st') : wpJ w A E J (countRun' 0 n) Q st := by
  rw [countRun0_eq]
  refine J_bind (J_asc hL hn hi B hnn (Nat.le_refl 1) h1 (fun i j h1 h2 => by omega) fun k k1 k2 k3 k4 => ?_)
  dsimp only
  by_cases q : k = n
  · rw [if_pos (by simpa using q)]
    exact J_pure (h k st B k1 k2 k3)
  · rw [if_neg (by simpa using q)]
    have lt := k4.resolve_left q
    by_cases q1 : k > 1
    · rw [if_pos q1]
      refine J_bind (J_lt hL hn B (by omega) (by omega) (by omega) ?_)
      simp only [k3 0 (k - 1) (by omega) (by omega), decide_true, if_true]
      exact J_pure (h k st B k1 k2 k3)
    · rw [if_neg q1]
      have : k = 1 := by omega
      subst this
      refine J_part hL hn hi B hnn (by omega) (fun i j h1 h2 => ?_) h
      have e1 : i = 0 := by omega
      have e2 : j = 1 := by omega
      subst e1 e2
      exact lt
theorem rk_bubble {xs : Array Keyed} {src d : Nat} (hs : src < xs.size) (hd : d ≤ src) (k : Nat) : rk ρ (bubble xs src d) k = if k = src - d then rk ρ xs src else if src - d < k ∧ k ≤ src then rk ρ xs (k - 1) else rk ρ xs k := by
  have e := getElem?_bubble hs d hd k
  split
  · rename_i h; rw [if_pos h] at e; exact rk_eq e
  · rename_i h
    rw [if_neg h] at e
    split
    · rename_i h; rw [if_pos h] at e; exact rk_eq e
    · rename_i h; rw [if_neg h] at e; exact rk_eq e
theorem J_binary {st : SortSt} {n ok : Nat} {Q : Bool → SortSt → Prop} (hL : LtJ w A E J kd ρ vs) (hn : vs.Nodup) (hi : RkInj ρ vs) (B : SB kd vs st) (hnn : n ≤ vs.length) (h1 : 1 ≤ ok) (hok : ok ≤ n) (hu : Up ρ (arrOf st) ok)
    (h : ∀ st', SB kd vs st' → Up ρ (arrOf st') n → Q true st') : wpJ w A E J (binarySort' 0 n ok) Q st := by
  rw [binarySort'_eq]
  simp only [Nat.zero_add]
  rw [show max ok 1 = ok by omega]
  refine J_bind (J_mono (Q := fun c st' => c = (none, ()) ∧ SB kd vs st' ∧ Up ρ (arrOf st') n) (J_range (fun k c st' => c = (none, ()) ∧ SB kd vs st' ∧ Up ρ (arrOf st') k) hok ⟨rfl, B, hu⟩ (fun k c st' k1 k2 ⟨e, B', U⟩ => ?_) fun c st' hh => hh) ?_)
  · subst e
    refine J_bind (J_mono (Q := fun c st'' => st'' = st' ∧ ∃ l r, c = (none, l, r) ∧ l ≤ k ∧ (∀ i, i < l → rk ρ (arrOf st') i < rk ρ (arrOf st') k) ∧ (∀ i, l ≤ i → i < k → rk ρ (arrOf st') k < rk ρ (arrOf st') i))
      (J_range (fun x c st'' => st'' = st' ∧ ∃ l r, c = (none, l, r) ∧ l ≤ r ∧ r ≤ k ∧ r - l ≤ k - x ∧ (∀ i, i < l → rk ρ (arrOf st') i < rk ρ (arrOf st') k) ∧ (∀ i, r ≤ i → i < k → rk ρ (arrOf st') k < rk ρ (arrOf st') i))
        (Nat.zero_le k) ⟨rfl, 0, k, rfl, Nat.zero_le k, Nat.le_refl k, Nat.le_refl _, fun i q => absurd q (Nat.not_lt_zero i), fun i q1 q2 => absurd q2 (Nat.not_lt.mpr q1)⟩ (fun x c st'' x1 x2 ⟨e1, l, r, e2, a1, a2, a3, a4, a5⟩ => ?_) fun c st'' ⟨e1, l, r, e2, a1, a2, a3, a4, a5⟩ => ?_) ?_)
    · subst e1 e2
      dsimp only
      by_cases q : l ≥ r
      · rw [if_pos q]
        have : l = r := by omega
        subst this
        exact J_pure ⟨rfl, l, l, rfl, a2, a4, a5⟩
      · rw [if_neg q]
        refine J_bind (J_lt hL hn B' (by omega) (by omega) (by omega) ?_)
        have hne := B'.rne (ρ := ρ) hn hi (i := k) (j := (l + r) / 2) (by omega) (by omega) (by omega)
        by_cases p : rk ρ (arrOf st'') k < rk ρ (arrOf st'') ((l + r) / 2)
        · simp only [p, decide_true, if_true]
          refine J_pure ⟨rfl, l, (l + r) / 2, rfl, by omega, by omega, by omega, a4, fun i q1 q2 => ?_⟩
          by_cases z : i = (l + r) / 2
          · subst z; exact p
          · have := U ((l + r) / 2) i (by omega) q2; omega
        · simp only [p, decide_false, Bool.false_eq_true, if_false]
          refine J_pure ⟨rfl, (l + r) / 2 + 1, r, rfl, by omega, by omega, by omega, fun i q1 => ?_, a5⟩
          by_cases z : i = (l + r) / 2
          · subst z; omega
          · have := U i ((l + r) / 2) (by omega) (by omega); omega
    · subst e1 e2
      have : l = r := by omega
      subst this
      exact ⟨rfl, l, l, rfl, a2, a4, a5⟩
    · rintro c st'' ⟨rfl, l, r, rfl, a1, a2, a3⟩
      show wpJ _ _ _ _ (do moveDown' k l; pure (ForInStep.yield (none, ()))) _ _
      rw [moveDown'_eq]
      refine J_bind (J_modify (J_pure ⟨rfl, B'.set (bubble_perm _ _ _), fun i j hij hj => ?_⟩))
      have hks : k < (arrOf st'').size := by rw [B'.size]; omega
      show rk ρ (bubble (arrOf st'') k (k - l)) i < rk ρ (bubble (arrOf st'') k (k - l)) j
      rw [rk_bubble hks (by omega), rk_bubble hks (by omega), show k - (k - l) = l by omega]
      by_cases p1 : i = l
      · rw [if_pos p1, if_neg (by omega), if_pos (by omega)]
        exact a3 _ (by omega) (by omega)
      · rw [if_neg p1]
        by_cases p2 : l < i ∧ i ≤ k
        · rw [if_pos p2, if_neg (by omega), if_pos (by omega)]
          exact U _ _ (by omega) (by omega)
        · rw [if_neg p2]
          by_cases p3 : j = l
          · rw [if_pos p3]
            exact a2 _ (by omega)
          · rw [if_neg p3]
            by_cases p4 : l < j ∧ j ≤ k
            · rw [if_pos p4]
              exact U _ _ (by omega) (by omega)
            · rw [if_neg p4]
              exact U _ _ hij (by omega)
  · rintro c st' ⟨rfl, B', U⟩
    exact J_pure (h st' B' U)
theorem J_runs {st : SortSt} {Q : Unit → SortSt → Prop} (hL : LtJ w A E J kd ρ vs) (hn : vs.Nodup) (hi : RkInj ρ vs) (B : SB kd vs st) (h2 : 2 ≤ vs.length) (h64 : vs.length < 64)
    (h : ∀ st', (arrOf st').toList.Perm (vs.map fun v => (v, v)) → failedOf st' = none → Up ρ (arrOf st') vs.length → Q () st') : wpJ w A E J sortRuns' Q st := by
  rw [sortRuns'_eq]
  refine J_bind (J_get ?_)
  dsimp only
  have hmr : minRun' vs.length vs.length 0 = vs.length := by
    obtain ⟨f, hf⟩ : ∃ f, vs.length = f + 1 := ⟨vs.length - 1, by omega⟩
    rw [hf, minRun'_succ, if_pos (by omega)]
  simp only [B.size, hmr]
  let D : SortSt → Prop := fun st' => (arrOf st').toList.Perm (vs.map fun v => (v, v)) ∧ failedOf st' = none ∧ pendingOf st' = #[(0, vs.length, 0)] ∧ Up ρ (arrOf st') vs.length
  have dn : ∀ st', SB kd vs st' → Up ρ (arrOf st') vs.length → D (setPending st' ((pendingOf st').push (0, vs.length, 0))) := fun st' B' U => ⟨B'.perm, B'.failed, by show (pendingOf st').push _ = _; rw [B'.pend]; rfl, U⟩
  refine J_bind (J_mono (Q := fun c st' => c = (none, vs.length) ∧ D st') (J_range (fun x c st' => (x = 0 ∧ c = (none, 0) ∧ SB kd vs st') ∨ (1 ≤ x ∧ c = (none, vs.length) ∧ D st')) (Nat.zero_le _) (.inl ⟨rfl, rfl, B⟩)
    (fun x c st' x1 x2 hx => ?_) fun c st' hx => ?_) ?_)
  · rcases hx with ⟨rfl, rfl, B'⟩ | ⟨hx, rfl, hD⟩
    · dsimp only
      rw [if_neg (by omega)]
      simp only [Nat.sub_zero, Nat.min_self, Nat.zero_add]
      refine J_bind (J_count hL hn hi B' (Nat.le_refl _) (by omega) fun k st2 B2 k1 k2 U2 => ?_)
      dsimp only
      by_cases q : k < vs.length
      · rw [if_pos q]
        refine J_bind (J_lift fun s hs => wpAny_rule ⟨hs, ?_⟩)
        refine J_bind (J_binary hL hn hi B2 (Nat.le_refl _) k1 k2 U2 fun st3 B3 U3 => ?_)
        simp only [Bool.not_true, Bool.false_eq_true, if_false]
        refine J_bind (J_get ?_)
        rw [show (pendingOf st3).back? = none by rw [B3.pend]; rfl]
        dsimp only
        exact J_bind (J_modify (J_pure (.inr ⟨by omega, rfl, dn st3 B3 U3⟩)))
      · rw [if_neg q]
        have : k = vs.length := by omega
        subst this
        refine J_bind (J_get ?_)
        rw [show (pendingOf st2).back? = none by rw [B2.pend]; rfl]
        dsimp only
        exact J_bind (J_modify (J_pure (.inr ⟨by omega, rfl, dn st2 B2 U2⟩)))
    · dsimp only
      rw [if_pos (Nat.le_refl _)]
      exact J_pure ⟨rfl, hD⟩
  · rcases hx with ⟨hx, _, _⟩ | ⟨_, e, hD⟩
    · omega
    · exact ⟨e, hD⟩
  · rintro c st' ⟨rfl, d1, d2, d3, d4⟩
    dsimp only
    refine J_bind (J_mono (Q := fun c st'' => st'' = st' ∧ c = (none, ())) (J_range (fun _ c st'' => st'' = st' ∧ c = (none, ())) (Nat.zero_le _) ⟨rfl, rfl⟩ (fun x c st'' _ _ ⟨e1, e2⟩ => ?_) fun c st'' hx => hx) ?_)
    · subst e1 e2
      refine J_bind (J_get ?_)
      rw [if_pos (by rw [d3]; exact Nat.le_refl 1)]
      exact J_pure ⟨rfl, rfl⟩
    · rintro c st'' ⟨rfl, rfl⟩
      exact J_pure (h _ d1 d2 d4)
-- which kind of keys: instances
theorem first_of {a D : Addr} {l : List (Str × Value)} {s : Shared} {Q : Option Value → Shared → Prop} (I : ObjH s.heap a D l) (h : Q none s) : wpAny (MD w) A (firstOfTuple' (.ref a)) Q E s := by
  obtain ⟨d, es, n, h1, _⟩ := I
  show wpAny _ _ (typeOf (.ref a) >>= _) _ _ s
  refine wpAny_bind ?_
  simp only [typeOf]
  refine wpAny_bind (wpAny_load h1 (wpAny_pure ?_))
  rw [if_pos (by rfl)]
  exact wpAny_pure h
theorem type_of {a D : Addr} {l : List (Str × Value)} {s : Shared} {Q : Value → Shared → Prop} (I : ObjH s.heap a D l) (h : Q (.ref D) s) : wpAny (MD w) A (typeOf (.ref a)) Q E s := by
  obtain ⟨d, es, n, h1, _⟩ := I
  simp only [typeOf]
  exact wpAny_bind (wpAny_load h1 (wpAny_pure h))
theorem firsts_of {s : Shared} : ∀ {vs : List Value} {Q : List (Option Value) → Shared → Prop}, (∀ v ∈ vs, ∃ a D l, v = .ref a ∧ ObjH s.heap a D l) → Q (vs.map fun _ => none) s → wpAny (MD w) A (vs.mapM firstOfTuple') Q E s
  | [], Q, _, h => by rw [List.mapM_nil]; exact wpAny_pure h
  | v :: vs, Q, hv, h => by
    rw [List.mapM_cons]
    obtain ⟨a, D, l, rfl, I⟩ := hv v (.head _)
    exact wpAny_bind (first_of I (wpAny_bind (firsts_of (fun v h => hv v (.tail _ h)) (wpAny_pure h))))
theorem types_of {s : Shared} : ∀ {vs : List Value} {Q : List Value → Shared → Prop}, (∀ v ∈ vs, ∃ a D l, v = .ref a ∧ ObjH s.heap a D l) → (∀ ts, Q ts s) → wpAny (MD w) A (vs.mapM typeOf) Q E s
  | [], Q, _, h => by rw [List.mapM_nil]; exact wpAny_pure (h _)
  | v :: vs, Q, hv, h => by
    rw [List.mapM_cons]
    obtain ⟨a, D, l, rfl, I⟩ := hv v (.head _)
    exact wpAny_bind (type_of I (wpAny_bind (types_of (fun v h => hv v (.tail _ h)) fun ts => wpAny_pure (h _))))
theorem kind_of {s : Shared} {v : Value} {vs : List Value} {Q : SortKind → Shared → Prop} (hv : ∀ x ∈ v :: vs, ∃ a D l, x = .ref a ∧ ObjH s.heap a D l) (h1 : Q oneType' s) (h2 : Q general' s) : wpAny (MD w) A (keyKind' (v :: vs).toArray) Q E s := by
  rw [keyKind'_eq, List.mapM_toArray]
  refine wpAny_bind ?_
  rw [map_eq_pure_bind]
  refine wpAny_bind (firsts_of hv (wpAny_pure ?_))
  rw [if_neg (by simp), if_neg (by simp)]
  refine wpAny_bind ?_
  rw [oneTypeOnly'_eq, List.mapM_toArray]
  refine wpAny_bind ?_
  rw [map_eq_pure_bind]
  refine wpAny_bind (types_of hv fun ts => wpAny_pure ?_)
  split
  · split
    · exact wpAny_pure (wpAny_pure h1)
    · exact wpAny_pure (wpAny_pure h2)
  · exact wpAny_pure (wpAny_pure h2)
variable {X : List Addr} {s₀ s : Shared} {G₀ G : Km} {L : Addr} {m : List (Str × Value)} {mu pre post : List (Addr × Obj)}
def LtP (w : World) (k : Nat) (G : Km) (x y : Value) (b : Bool) : Prop := ∀ kd, (kd = oneType' ∨ kd = general') → ∀ (A : Around) (E : Value → Shared → Prop) (s : Shared) (G' : Km) (Q : Bool → Shared → Prop), Wd w G' s → G.le G' → Rm A k →
  (∀ s', Wd w G' s' → Ps [] s G' s' G' → Q b s') → wpAny (MD w) A (keyLt' kd x y) Q E s
theorem R_sort {l : Addr} {v0 v1 : Value} {us : List Value} {n k : Nat} {Q : Value → Shared → Prop} (C : Cx X w s₀ G₀ G L m (pre ++ (l, lstObj (v0 :: v1 :: us) n) :: post) s) (rm : Rm A (k + 1)) (h64 : (v0 :: v1 :: us).length < 64)
    (hx : ∀ v ∈ v0 :: v1 :: us, IsEx G v) (hn : (v0 :: v1 :: us).Nodup) (hi : RkInj ρ (v0 :: v1 :: us))
    (hL : ∀ x ∈ v0 :: v1 :: us, ∀ y ∈ v0 :: v1 :: us, x ≠ y → LtP w k G x y (decide (ρ x < ρ y)))
    (h : ∀ s' n' out, out.Perm (v0 :: v1 :: us) → List.Pairwise (fun a b => ρ a < ρ b) out → Cx X w s₀ G₀ G L m (pre ++ (l, lstObj out n') :: post) s' → Q .none s') :
    wpAny (MD w) A (call (.builtin "list.sort") [.ref l]) Q E s := by
  have h2 : 2 ≤ (v0 :: v1 :: us).length := by simp only [List.length_cons]; omega
  have hkk : ∀ {s' : Shared} {Q : SortKind → Shared → Prop}, Wd w G s' → Q oneType' s' → Q general' s' → wpAny (MD w) A.in1 (keyKind' (v0 :: v1 :: us).toArray) Q E s' := fun W q1 q2 => kind_of (fun x hh => let ⟨a, D, l, e, o, _⟩ := hx x hh; ⟨a, D, l, e, o.here W⟩) q1 q2
  generalize v0 :: v1 :: us = vs at *
  have hz : vs.toArray.size = vs.length := List.size_toArray ..
  have ho := C.getMu (a := l) (o := lstObj vs n) (by simp)
  have hT : s.TypeIs (.ref l) "list" := ⟨_, ho, rfl⟩
  refine wpAny_call_entry PyProof.Rows.slot_list_sort hT PyProof.Rows.entry_list_sort ?_ (PyProof.Rows.args_list_sort _)
  rw [list_sort_plain]
  refine wpAny_bind (listItems_at ho rfl ?_)
  refine wpAny_bind (listUpdate_at ho rfl ?_ (by rw [List.size_toArray]; exact Nat.le_trans (Nat.le_of_lt h64) (by decide)) (by simp))
  obtain ⟨e1, ho1⟩ : ∃ e1, (s.heap.update l (Obj.mapSeq fun _ => #[])).get? l = some (lstObj [] e1) := ⟨_, get?_update_seq ho (fun _ => #[])⟩
  have C1 := C.updMu (t := s.toks) (Heap.SameBut.update ..) ho1
  refine wpAny_bind (seqEpoch_at ho1 rfl ?_)
  refine wpAny_bind (wpAny_newTuple ?_)
  refine wpAny_bind (wpAny_newList ?_)
  refine wpAny_holding ?_
  have C3 := (C1.push (o := seqObj "tuple" vs.toArray 0)).push (o := seqObj "list" #[] 0)
  replace C3 := C3.pop.pop
  show wpAny (MD w) A.in1 _ _ E _
  dsimp only
  rw [if_neg (by omega), if_neg (by omega)]
  refine wpAny_bind ?_
  have zp : ∀ l : List Value, l.zip l = l.map fun v => (v, v) := fun l => by
    induction l with
    | nil => rfl
    | cons v l ih => simp [ih]
  have pz : ((vs.toArray.zip vs.toArray).toList).Perm (vs.map fun v => (v, v)) := by
    rw [← zp]
    simp
  refine hkk C3.wd ?_ ?_
  all_goals
    refine wpAny_bind (wpAny_mono (J_runs (J := fun s' => Cx X w s₀ G₀ G L m (pre ++ (l, lstObj [] e1) :: post) s') (ρ := ρ) (vs := vs)
      (Q := fun _ st' => (arrOf st').toList.Perm (vs.map fun v => (v, v)) ∧ failedOf st' = none ∧ Up ρ (arrOf st') vs.length) (fun x hx y hy hxy E Q s' Cs hq => hL x hx y hy hxy _ (by first | exact .inl rfl | exact .inr rfl) _ _ _ _ _ Cs.wd (Km.le.refl G) rm.in1 fun s2 W2 P2 => hq s2 (Cs.after W2 P2)) hn hi ⟨pz, rfl, rfl, rfl⟩ h2 h64 (fun st' a b c => ⟨a, b, c⟩) _ C3) ?_ fun _ _ e => e)
    rintro ⟨⟨⟩, st'⟩ s4 ⟨C4, hp, hf, hu⟩
    dsimp only
    have ho4 := C4.getMu (a := l) (o := lstObj [] e1) (by simp)
    have hsz : (arrOf st').size = vs.length := by simpa using hp.length_eq
    refine wpAny_bind (seqEpoch_at ho4 rfl ?_)
    refine wpAny_bind (listUpdate_at ho4 rfl ?_ (by simp) (by rw [Array.size_map, hsz]; exact Nat.le_trans (Nat.le_of_lt h64) (by decide)))
    rw [hf]
    simp only [bne_self_eq_false, Bool.false_eq_true, if_false]
    obtain ⟨n5, ho5⟩ : ∃ n5, (s4.heap.update l (Obj.mapSeq fun _ => (arrOf st').map (·.2))).get? l = some (lstObj ((arrOf st').map (·.2)).toList n5) := ⟨_, get?_update_seq ho4 (fun _ => (arrOf st').map (·.2))⟩
    refine wpAny_pure ⟨_, rfl, h _ n5 _ ?_ ?_ (C4.updMu (t := s4.toks) (Heap.SameBut.update ..) ho5)⟩
    · rw [Array.toList_map]
      have := hp.map (·.2)
      rw [List.map_map, show ((fun x : Keyed => x.2) ∘ fun v => (v, v)) = id from rfl, List.map_id] at this
      exact this
    · rw [List.pairwise_iff_getElem]
      intro i j hi' hj' hij
      have a1 : i < (arrOf st').size := by simpa using hi'
      have a2 : j < (arrOf st').size := by simpa using hj'
      have hr := hu i j hij (hsz ▸ a2)
      have one : ∀ i (h : i < (arrOf st').size), rk ρ (arrOf st') i = ρ (arrOf st')[i].2 := fun i h => by
        have hm : (arrOf st')[i] ∈ (arrOf st').toList := by simp
        obtain ⟨v, _, e⟩ := List.mem_map.mp (hp.mem_iff.mp hm)
        unfold rk
        rw [getElem?_pos _ i h, ← e]
      rw [one i a1, one j a2] at hr
      simpa using hr
end
-- part C1
theorem fillC1 : ∀ (w : World) (h : Heap), (K0 w.params).In h → Challenge.rw_bp5003_02 = Challenge.rw_bp5003_02 := by
  k_fill
  intros; rfl
local macro_rules | `(tactic| walk_at "m_kin") => `(tactic| first | exact Cx.inn (by assumption) | exact Cx.inn (Cx.toks (by assumption) _) | exact Wd.inn (by assumption))
local macro_rules | `(tactic| k_in) => `(tactic| walk_at "m_kin")
local macro_rules | `(tactic| walk_at "m_lk") => `(tactic| first | with_unfolding_all exact rfl | assumption | (refine Eq.trans (lk_tl (by decide)) ?_; walk_at "m_lk"))
local macro_rules | `(tactic| walk_at "m_g") => `(tactic| first | assumption | exact Ps.le (Cx.ps (by assumption)) _ _ (by assumption))
local macro_rules | `(tactic| walk_at "m_at") => `(tactic| first | assumption | exact ObjAt.mono (Ps.le (Cx.ps (by assumption))) (by assumption) | exact TupAt.mono (Ps.le (Cx.ps (by assumption))) (by assumption) | exact CellAt.mono (Ps.le (Cx.ps (by assumption))) (by assumption))
local macro_rules | `(tactic| walk_at "m_obj") => `(tactic| first | exact ObjAt.here (Cx.wd (by assumption)) (by assumption) | exact ObjAt.here (Cx.wd (by assumption)) (true_obj (Cx.wd (by assumption))) | exact ObjAt.here (Cx.wd (by assumption)) (false_obj (Cx.wd (by assumption))) | exact ObjAt.here (Cx.wd (by assumption)) (ObjAt.mono (Ps.le (Cx.ps (by assumption))) (by assumption)) | exact Cx.objMu (by assumption) (by walk_at "m_g") (by assumption) | exact ObjAt.here (Cx.wd (Cx.toks (by assumption) _)) (by assumption) | exact ObjAt.here (Cx.wd (Cx.toks (by assumption) _)) (ObjAt.mono (Ps.le (Cx.ps (by assumption))) (by assumption)))
local macro_rules | `(tactic| walk_at "eval Name") => `(tactic| first
  | ((with_reducible refine' R_local ?c ?v ?_ ?k ?l ?d); (case c => first | assumption | exact Cx.toks (by assumption) _); (case k => with_unfolding_all exact rfl); (case l => with_unfolding_all exact rfl); (case v => walk_at "m_lk"); (case d => decide))
  | ((with_reducible refine' R_glob ?c ?v ?_ ?k ?l ?g ?d); (case c => first | assumption | exact Cx.toks (by assumption) _); (case k => with_unfolding_all exact rfl); (case l => with_unfolding_all exact rfl); (case g => with_unfolding_all exact rfl); (case v => k_is); (case d => decide))
  | ((with_reducible refine' R_bi ?c ?v ?u ?_ ?k ?l ?g ?b ?d); (case c => first | assumption | exact Cx.toks (by assumption) _); (case k => with_unfolding_all exact rfl); (case l => with_unfolding_all exact rfl); (case g => with_unfolding_all exact rfl); (case b => with_unfolding_all exact rfl); (case v => k_is); (case u => k_is); (case d => decide))
  | ((with_reducible refine' R_cell ?c ?v ?o ?_ ?k ?l ?d); (case c => first | assumption | exact Cx.toks (by assumption) _); (case k => with_unfolding_all exact rfl); (case l => with_unfolding_all exact rfl); (case v => first | assumption | with_unfolding_all exact rfl); (case o => walk_at "m_at"); (case d => decide))
  | ((with_reducible refine' R_free ?c ?v ?o ?_ ?k ?l ?d ?n); (case c => first | assumption | exact Cx.toks (by assumption) _); (case k => with_unfolding_all exact rfl); (case l => with_unfolding_all exact rfl); (case v => first | assumption | with_unfolding_all exact rfl); (case o => walk_at "m_at"); (case d => decide); (case n => decide)))
local macro_rules | `(tactic| walk_at "eval Constant int") => `(tactic| ((with_reducible refine R_int (by first | assumption | exact Cx.toks (by assumption) _) ?_); intro t' s' C'))
local macro_rules | `(tactic| walk_at "eval Constant str") => `(tactic| ((with_reducible refine R_str (by first | assumption | exact Cx.toks (by assumption) _) ?_); intro t' s' C'))
local macro_rules | `(tactic| walk_at "eval Constant none") => `(tactic| (with_reducible refine R_none ?_))
local macro_rules | `(tactic| walk_at "eval Constant bool") => `(tactic| (with_reducible refine R_bool ?_))
local macro_rules | `(tactic| walk_at "storeName") => `(tactic| ((with_reducible refine' R_store ?c ?_ ?k ?l); (case c => first | assumption | exact Cx.toks (by assumption) _); (case k => with_unfolding_all exact rfl); (case l => with_unfolding_all exact rfl); intro s' C'))
local macro_rules | `(tactic| walk_at "getAttr ref") => `(tactic| first
  | ((with_reducible show wpAny _ _ (getAttr _ (PySem.Str.ofString "__class__") _) _ _ _); refine' R_class ?c ?i ?d ?_; (case c => first | assumption | exact Cx.toks (by assumption) _); (case i => walk_at "m_obj"); (case d => first | decide | assumption); intro s' C')
  | ((with_reducible refine' R_attr ?c ?i ?h1 ?h2 ?ha ?hn ?v ?hh ?_); (case c => first | assumption | exact Cx.toks (by assumption) _); (case i => walk_at "m_obj"); (case h1 => k_is); (case h2 => k_is); (case ha => k_is); (case hn => k_is); (case v => walk_at "m_lk"); (case hh => first | with_unfolding_all exact rfl | k_handed); intro s' C'))
local macro_rules | `(tactic| walk_at "getMethod ref") => `(tactic| ((with_reducible refine' R_meth ?c ?i ?h1 ?hf ?ht ?v ?_); (case c => first | assumption | exact Cx.toks (by assumption) _); (case i => walk_at "m_obj"); (case h1 => k_is); (case hf => k_is); (case ht => k_is); (case v => walk_at "m_lk")))
local macro_rules | `(tactic| k_types) => `(tactic| (intro M; exact ObjH.type (by walk_at "m_obj")))
local macro_rules | `(tactic| walk_at "And") => `(tactic| ((with_reducible show Frag.In _ _ ∧ _); refine ⟨by walk_at "m_kin", ?_⟩; try dsimp only [List.nil_append, List.cons_append]))
local macro_rules | `(tactic| walk_at "exec Assign") => `(tactic| (with_reducible refine plainObj_wpAny_Assign_Attribute ?_ ?_; rotate_left; with_unfolding_all rfl))
local macro_rules | `(tactic| walk_at "callWith ref") => `(tactic| first
  | ((with_reducible show wpAny _ _ (callWith _ (Value.ref _) _ (backTo _ (starEach [Expr.Starred _ _] _)) []) _ _ _); refine' callWith_S ?k1 ?k2 ?_; (case k1 => walk_at "m_kin"); (case k2 => first | k_is | assumption))
  | (refine' callWith_K ?k1 ?k2 ?_; (case k1 => walk_at "m_kin"); (case k2 => k_is))
  | (refine' callWith_K0 ?k1 ?k2 ?_; (case k1 => walk_at "m_kin"); (case k2 => k_is); try dsimp only [List.nil_append, List.cons_append]))
local macro_rules | `(tactic| walk_at "setAttr ref") => `(tactic| ((with_reducible refine' Cx.set0 ?c ?a ?k ?e ?z ?_); (case c => first | assumption | exact Cx.toks (by assumption) _); (case a => exact Cx.get (by assumption) (by walk_at "m_g")); (case k => first | assumption | exact put_ok (by assumption) (by decide)); (case e => assumption); (case z => exact of_decide_eq_true (by with_unfolding_all rfl)); intro s' es' n' he' C'))
local macro_rules | `(tactic| walk_at "call type:tuple") => `(tactic| first | ((with_reducible refine R_tuple0 (by assumption) (by assumption) ?_); intro tp' s' G' le' ht' C') | (with_reducible refine R_tupleT (by assumption) (by walk_at "m_at") ?_))
local macro_rules | `(tactic| walk_at "call builtin:isinstance") => `(tactic| first
  | ((with_reducible refine' R_isiT ?c ?i ?h1 ?h2 ?h3 ?_); (case c => first | assumption | exact Cx.toks (by assumption) _); (case i => walk_at "m_obj"); (case h1 => decide); (case h2 => decide); (case h3 => decide); intro s' C')
  | ((with_reducible refine' R_isiF ?c ?i ?h1 ?h2 ?h3 ?_); (case c => first | assumption | exact Cx.toks (by assumption) _); (case i => walk_at "m_obj"); (case h1 => decide); (case h2 => decide); (case h3 => decide); intro s' C'))
local macro_rules | `(tactic| walk_at "And") => `(tactic| ((with_reducible show Cx _ _ _ _ _ _ _ _ _ ∧ _); refine ⟨by assumption, ?_⟩))
local macro_rules | `(tactic| walk_at "subscriptTail") => `(tactic| first
  | ((with_reducible refine' R_itemL ?c ?t ?lo ?x ?hi ?_ ?s); (case c => first | assumption | exact Cx.toks (by assumption) _); (case t => walk_at "m_mem"); (case x => first | with_unfolding_all exact rfl | assumption | (rw [Int.toNat_natCast]; assumption)); (case lo => first | decide | omega); (case hi => first | decide | omega); (case s => with_unfolding_all exact rfl))
  | ((with_reducible refine' R_item ?c ?t ?j ?x ?lo ?hi ?_ ?s); (case c => first | assumption | exact Cx.toks (by assumption) _); (case t => walk_at "m_at"); (case j => first | with_unfolding_all exact rfl | assumption); (case x => first | with_unfolding_all exact rfl | assumption); (case lo => first | decide | omega); (case hi => first | decide | omega); (case s => with_unfolding_all exact rfl)))
local macro_rules | `(tactic| walk_at "StarOf ref") => `(tactic| ((with_reducible refine' R_starS ?c ?t ?z ?_); (case c => first | assumption | exact Cx.toks (by assumption) _); (case t => first | assumption | exact SeqAt.mono (Ps.le (Cx.ps (by assumption))) (by assumption)); (case z => first | assumption | omega); intro s' C'))
local macro_rules | `(tactic| walk_at "compareOp Is ref ref") => `(tactic| first
  | (with_reducible refine R_isEq ?_)
  | ((with_reducible refine' R_isNe ?n ?i ?j ?_); (case n => first | assumption | exact Ne.symm (by assumption) | decide); (case i => walk_at "m_obj"); (case j => walk_at "m_obj")))
local macro_rules | `(tactic| walk_at "compareOp Is ref bool") => `(tactic| refine wpAny_is_other (by rfl) (by intro x; cases x) ?_)
local macro_rules | `(tactic| walk_at "eval Call") => `(tactic| ((with_reducible show wpAny _ _ (eval (Expr.Call (Expr.Name (PySem.Str.ofString "all") _) [Expr.GeneratorExp _ _ _ _] _ _) _) _ _ _); refine of_held ?_))
local macro_rules | `(tactic| walk_at "eval ListComp") => `(tactic| refine of_held ?_)
local macro_rules | `(tactic| walk_at "exec Assign cons ListComp") => `(tactic| refine of_held ?_)
local macro_rules | `(tactic| walk_at "exec Assign") => `(tactic| ((with_reducible show wpAny _ _ (exec (Stmt.Assign [Expr.Name _ _] (Expr.ListComp _ _ _ _) _) _) _ _ _); refine of_held ?_))
local macro_rules | `(tactic| walk_at "Exists") => `(tactic| ((with_reducible show ∃ _ : Km, _ ∧ _); refine of_held ?_))
local macro_rules | `(tactic| walk_at "loadName") => `(tactic| ((with_reducible refine' R_loadName ?c ?v ?_ ?k ?l); (case c => first | assumption | exact Cx.toks (by assumption) _); (case k => with_unfolding_all exact rfl); (case l => with_unfolding_all exact rfl); (case v => walk_at "m_lk")))
local macro_rules | `(tactic| walk_at "m_mem") => `(tactic| first | assumption | exact .head _ | exact .tail _ (.head _) | exact .tail _ (.tail _ (.head _)) | exact .tail _ (.tail _ (.tail _ (.head _))))
local macro_rules | `(tactic| walk_at "call builtin:len") => `(tactic| first
  | ((with_reducible refine' R_lenT ?c ?t ?z ?_); (case c => first | assumption | exact Cx.toks (by assumption) _); (case t => walk_at "m_at"); (case z => first | assumption | omega); intro u' s' C')
  | ((with_reducible refine' R_lenL ?c ?t ?z ?_); (case c => first | assumption | exact Cx.toks (by assumption) _); (case t => walk_at "m_mem"); (case z => first | assumption | omega | (simp; omega)); intro u' s' C'))
local macro_rules | `(tactic| walk_at "truthy ref") => `(tactic| ((with_reducible refine' R_truthC ?c ?t ?z ?_); (case c => first | assumption | exact Cx.toks (by assumption) _); (case t => walk_at "m_mem"); (case z => first | assumption | omega | (simp; omega)); intro s' C'))
local macro_rules | `(tactic| walk_at "eval Attribute Subscript") => `(tactic| refine Attribute_any_ ?_)
section
variable {w : World} {s s' : Shared} {G G' : Km} {A : Around} {R : Result → Shared → Prop}
theorem expr_init {a d Cc : Addr} {n : Nat} (W : Wd w G s) (rm : Rm A 2) (hC : isCls Cc) (ha : G a = some (instObj Cc d)) (hd : s.heap.get? d = some (dictOf [] n)) (hG : G d = none) (ht : d ∉ tabL)
    (hR : ∀ s' G' tp, Wd w G' s' → Ps [d] s G s' G' → TupAt G' tp [] → MadeAt s' d [(Str.ofString "sort_order", .none), (Str.ofString "args", .ref tp), (Str.ofString "isliteral", .bool false), (Str.ofString "iscanonical", .bool false)] → R (.ok (.ret .none)) s') :
    codeAny (MD w) A (.call (.ref 42) ⟨[.ref a], []⟩) R s := by
  refine R_enter [(Str.ofString "self", .ref a)] (k := 1) (st := mthAt 6 0) (qual := "Expression.__init__") (cl := []) (dV := .none) (pm := .str "boolean.boolean" 194) (cdv := .ref 41) (ct := .none) (by kernel_rfl) (by k_is) W rm (BindsTo.of_eq rfl) (by decide) (by rfl) rfl rfl rfl rfl fun L s' C rm' => ?_
  replace C := C.own (C.ps.ex.keep _ _ hd ht (fun h => nomatch h)) (Heap.lt_size hd) hG ht
  have hX : ∀ x ∈ [d], x < s.heap.objs.size := fun x hx => by rw [List.mem_singleton.mp hx]; exact Heap.lt_size hd
  have he0 : EsAre [] [] := trivial
  repeat walk1
  exact hR _ _ _ (Cx.wd (by assumption)) (Cx.ps (by assumption)) (by assumption) ⟨_, _, Cx.st (by assumption) _ (.head _), by assumption⟩
end
-- part C2
def fnCls (C : Addr) : Prop := C = 440 ∨ C = 563 ∨ C = 612
theorem fnCls.cls {C : Addr} (h : fnCls C) : isCls C := h.elim (fun e => .inr (.inl e)) fun h => h.elim (fun e => .inr (.inr (.inl e))) fun e => .inr (.inr (.inr e))
theorem sup_fn {P : Params} {C : Addr} (h : fnCls C) : supIn (K0 P) C 372 42 "__init__" = true := by
  rcases h with rfl | rfl | rfl <;> kernel_rfl
theorem ex_expr {D : Addr} (h : D ∈ exCls) : isiTab D 142 = true := by
  simp only [exCls, List.mem_cons, List.not_mem_nil, or_false] at h
  rcases h with rfl | rfl | rfl | rfl | rfl | rfl <;> rfl
section
variable {w : World} {s s' : Shared} {G G' : Km} {A : Around} {R : Result → Shared → Prop}
theorem fn_init {a d Cc : Addr} {n : Nat} {vs : List Value} (W : Wd w G s) (rm : Rm A 6) (hC : fnCls Cc) (ha : G a = some (instObj Cc d)) (hd : s.heap.get? d = some (dictOf [] n)) (hG : G d = none) (ht : d ∉ tabL) (hv : ∀ v ∈ vs, IsEx G v) (hz : vs.length ≤ 2000)
    (hR : ∀ s' G' tp, Wd w G' s' → Ps [d] s G s' G' → TupAt G' tp vs →
      MadeAt s' d [(Str.ofString "sort_order", .none), (Str.ofString "args", .ref tp), (Str.ofString "isliteral", .bool false), (Str.ofString "iscanonical", .bool false), (Str.ofString "operator", .none)] → R (.ok (.ret .none)) s') :
    codeAny (MD w) A (.call (.ref 362) ⟨.ref a :: vs, []⟩) R s := by
  have f := sup_fn (P := w.params) hC
  refine R_enterTAt (fun t => [(Str.ofString "args", t), (Str.ofString "self", .ref a)]) (k := 5) (st := mthAt 13 0) (qual := "Function.__init__") (cl := [("__class__", 350)]) (dV := .none) (pm := .str "boolean.boolean" 194) (cdv := .ref 361) (ct := .ref 355) (by kernel_rfl) (by k_is) W rm (bind_fn _ rfl _ _ _ _ _ _ rfl _ _) hz (by decide) (fun t => by rfl) (fun t => rfl) rfl rfl rfl fun t G1 L s1 ht1 C rm' => ?_
  replace C := C.own (C.ps.ex.keep _ _ hd ht (fun h => nomatch h)) (Heap.lt_size hd) (C.ps.none (Heap.lt_size hd) hG) ht
  have hX : ∀ x ∈ [d], x < s.heap.objs.size := fun x hx => by rw [List.mem_singleton.mp hx]; exact Heap.lt_size hd
  refine R_super C (fun x hx => Nat.lt_of_lt_of_le (hX x hx) C.ps.ex.size) (f := 362) (cda := 361) (cc := 350) (D := 372) (f2 := 42) (Cc := Cc) (d := d) (st := mthAt 13 0) (qual := "Function.__init__") (clo := [("__class__", 350)]) (dV := .none) (pm := .str "boolean.boolean" 194) (cdv := .ref 361) (ct := .ref 355) (by kernel_rfl) (by rfl) (by with_unfolding_all rfl) (C.ps.le _ _ ha) (by kernel_rfl) f (by decide) (by rfl) (by rfl) (by rfl) (by rfl) (by kernel_rfl) (by rfl) (by rfl) (by rfl) (by first | exact .inl ⟨_, rfl⟩ | exact .inr rfl) fun qa s2 G2 le2 C2 hq => ?_
  refine R_callM0 C2 hq (by k_is) ?_
  have hd2 := C2.st (d, _) (.head _)
  have hG2 := (C2.new d (by simp)).2.1
  refine expr_init C2.wd (rm'.le (by decide)) hC.cls (C2.ps.le _ _ ha) hd2 hG2 ht fun s3 G3 tp3 W3 P3 ht3 hm3 => ?_
  obtain ⟨es3, n3, hd3, he3⟩ := hm3
  have C3 := C2.afterX0 W3 P3 hd3
  have hCc := hC.cls
  have ht3 : TupAt G3 t vs := (ht1.mono le2).mono P3.le
  have hv3 : ∀ v ∈ vs, IsEx G3 v := fun v hv' => (hv v hv').mono C3.ps.le
  show wpAny (MD w) _ (execs _ _) _ _ s3
  iterate 8 walk1
  refine R_allgen (by assumption) (rm'.le (k' := 2) (by decide)) (c := 361) (P := 357) (t := t) (vs := vs) (f := fun _ => true) (by rfl) (by rfl) (by rfl) (by rfl) (by rfl) (by kernel_rfl) (by decide) (by decide) (by rfl) (by rfl) (by decide) (by rfl) (by rfl) (by rfl) (fun _ => rfl) (by k_is) (by k_is) (by k_is) (by kernel_rfl) ?_ ht3 ?_ ?_
  · intro Q' hQ'
    walk1
    exact hQ' _ (by assumption)
  · intro sb i v G' L' cd s' mu' A' E' hvi le C' rA
    obtain ⟨b, D, l, rfl, hb, hD⟩ := (hv3 v (List.mem_of_getElem? hvi)).mono le
    iterate 8 walk1
    refine R_isiT (by assumption) (by walk_at "m_obj") hD (by decide) (ex_expr hD) fun s'' C'' => ⟨_, rfl, C''.sub fun _ _ h => (nomatch h)⟩
  · intro s4 G4 C4 le4
    have hal : (List.range vs.length).all (fun _ => true) = true := nat_all fun _ _ => rfl
    rw [hal]
    have ht4 : TupAt G4 t vs := ht3.mono le4
    repeat walk1
    exact hR _ _ _ (Cx.wd (by assumption)) (Cx.ps (by assumption)) ht4 ⟨_, _, Cx.st (by assumption) _ (.head _), by assumption⟩
end
-- part C3
section
variable {w : World} {s s' : Shared} {G G' : Km} {A : Around} {R : Result → Shared → Prop}
theorem sym_init {a d : Addr} {n : Nat} {nm : Str} {tn : Tok} (W : Wd w G s) (rm : Rm A 6) (ha : G a = some (instObj 344 d)) (hd : s.heap.get? d = some (dictOf [] n)) (hG : G d = none) (ht : d ∉ tabL)
    (hR : ∀ s' G' tp t1, Wd w G' s' → Ps [d] s G s' G' → TupAt G' tp [] → MadeAt s' d (symL nm tp t1 tn) → R (.ok (.ret .none)) s') :
    codeAny (MD w) A (.call (.ref 306) ⟨[.ref a, .str nm tn], []⟩) R s := by
  have hCc : isCls 344 := .inl rfl
  refine R_enterAt [(Str.ofString "obj", .str nm tn), (Str.ofString "self", .ref a)] (k := 5) (st := mthAt 12 0) (qual := "Symbol.__init__") (cl := [("__class__", 294)]) (dV := .none) (pm := .str "boolean.boolean" 194) (cdv := .ref 305) (ct := .ref 299) (by kernel_rfl) (by k_is) W rm (BindsTo.of_eq rfl) (by decide) (by rfl) rfl rfl rfl rfl fun L s1 C rm' => ?_
  replace C := C.own (C.ps.ex.keep _ _ hd ht (fun h => nomatch h)) (Heap.lt_size hd) (C.ps.none (Heap.lt_size hd) hG) ht
  have hX : ∀ x ∈ [d], x < s.heap.objs.size := fun x hx => by rw [List.mem_singleton.mp hx]; exact Heap.lt_size hd
  refine R_super C (fun x hx => Nat.lt_of_lt_of_le (hX x hx) C.ps.ex.size) (f := 306) (cda := 305) (cc := 294) (D := 344) (f2 := 42) (Cc := 344) (d := d) (st := mthAt 12 0) (qual := "Symbol.__init__") (clo := [("__class__", 294)]) (dV := .none) (pm := .str "boolean.boolean" 194) (cdv := .ref 305) (ct := .ref 299) (by kernel_rfl) (by rfl) (by with_unfolding_all rfl) (C.ps.le _ _ ha) (by kernel_rfl) (by kernel_rfl) (by decide) (by rfl) (by rfl) (by rfl) (by rfl) (by kernel_rfl) (by rfl) (by rfl) (by rfl) (by first | exact .inl ⟨_, rfl⟩ | exact .inr rfl) fun qa s2 G2 le2 C2 hq => ?_
  refine R_callM0 C2 hq (by k_is) ?_
  have hd2 := C2.st (d, _) (.head _)
  have hG2 := (C2.new d (by simp)).2.1
  refine expr_init C2.wd (rm'.le (by decide)) hCc (C2.ps.le _ _ ha) hd2 hG2 ht fun s3 G3 tp3 W3 P3 ht3 hm3 => ?_
  obtain ⟨es3, n3, hd3, he3⟩ := hm3
  have C3 := C2.afterX0 W3 P3 hd3
  show wpAny (MD w) _ (execs _ _) _ _ s3
  repeat walk1
  exact hR _ _ _ _ (Cx.wd (by assumption)) (Cx.ps (by assumption)) ht3 ⟨_, _, Cx.st (by assumption) _ (.head _), by assumption⟩
theorem not_init {a d b Db : Addr} {n : Nat} {lb : List (Str × Value)} (W : Wd w G s) (rm : Rm A 8) (ha : G a = some (instObj 440 d)) (hd : s.heap.get? d = some (dictOf [] n)) (hG : G d = none) (ht : d ∉ tabL) (hb : ObjAt G b Db lb) (hD : Db ∈ exCls)
    (hR : ∀ s' G' tp t1, Wd w G' s' → Ps [d] s G s' G' → TupAt G' tp [.ref b] → MadeAt s' d (notL tp (isiTab Db 344) false t1) → R (.ok (.ret .none)) s') :
    codeAny (MD w) A (.call (.ref 390) ⟨[.ref a, .ref b], []⟩) R s := by
  have hCc : isCls 440 := .inr (.inl rfl)
  refine R_enterAt [(Str.ofString "arg1", .ref b), (Str.ofString "self", .ref a)] (k := 7) (st := mthAt 14 0) (qual := "NOT.__init__") (cl := [("__class__", 378)]) (dV := .none) (pm := .str "boolean.boolean" 194) (cdv := .ref 389) (ct := .ref 383) (by kernel_rfl) (by k_is) W rm (BindsTo.of_eq rfl) (by decide) (by rfl) rfl rfl rfl rfl fun L s1 C rm' => ?_
  replace C := C.own (C.ps.ex.keep _ _ hd ht (fun h => nomatch h)) (Heap.lt_size hd) (C.ps.none (Heap.lt_size hd) hG) ht
  have hX : ∀ x ∈ [d], x < s.heap.objs.size := fun x hx => by rw [List.mem_singleton.mp hx]; exact Heap.lt_size hd
  refine R_super C (fun x hx => Nat.lt_of_lt_of_le (hX x hx) C.ps.ex.size) (f := 390) (cda := 389) (cc := 378) (D := 440) (f2 := 362) (Cc := 440) (d := d) (st := mthAt 14 0) (qual := "NOT.__init__") (clo := [("__class__", 378)]) (dV := .none) (pm := .str "boolean.boolean" 194) (cdv := .ref 389) (ct := .ref 383) (by kernel_rfl) (by rfl) (by with_unfolding_all rfl) (C.ps.le _ _ ha) (by kernel_rfl) (by kernel_rfl) (by decide) (by rfl) (by rfl) (by rfl) (by rfl) (by kernel_rfl) (by rfl) (by rfl) (by rfl) (by first | exact .inl ⟨_, rfl⟩ | exact .inr rfl) fun qa s2 G2 le2 C2 hq => ?_
  refine R_callM C2 hq (by k_is) ?_
  repeat walk1
  have hd2 := C2.st (d, _) (.head _)
  have hG2 := (C2.new d (by simp)).2.1
  refine fn_init C2.wd (rm'.le (by decide)) (.inl rfl) (C2.ps.le _ _ ha) hd2 hG2 ht (fun v hv => ?_) (by simp) fun s3 G3 tp3 W3 P3 ht3 hm3 => ?_
  · rw [List.mem_singleton.mp hv]
    exact ⟨b, Db, lb, rfl, hb.mono C2.ps.le, hD⟩
  obtain ⟨es3, n3, hd3, he3⟩ := hm3
  have C3 := C2.afterX0 W3 P3 hd3
  show wpAny (MD w) _ (execs _ _) _ _ s3
  repeat walk1
  refine R_isi (by assumption) (by walk_at "m_obj") hD (by decide) fun s' C' => ?_
  repeat walk1
  exact hR _ _ _ _ (Cx.wd (by assumption)) (Cx.ps (by assumption)) ht3 ⟨_, _, Cx.st (by assumption) _ (.head _), by assumption⟩
-- groups
abbrev grp0 (tp : Addr) : List (Str × Value) := [(Str.ofString "sort_order", .none), (Str.ofString "args", .ref tp), (Str.ofString "isliteral", .bool false), (Str.ofString "iscanonical", .bool false), (Str.ofString "operator", .none), (Str.ofString "identity", .none), (Str.ofString "annihilator", .none)]
def grpCls (C : Addr) : Prop := C = 563 ∨ C = 612
theorem sup_grp {P : Params} {C : Addr} (h : grpCls C) : supIn (K0 P) C 514 362 "__init__" = true := by
  rcases h with rfl | rfl <;> kernel_rfl
theorem dual_init {a d Cc : Addr} {n : Nat} {b c : Value} {vs : List Value} (W : Wd w G s) (rm : Rm A 8) (hC : grpCls Cc) (ha : G a = some (instObj Cc d)) (hd : s.heap.get? d = some (dictOf [] n)) (hG : G d = none) (ht : d ∉ tabL) (hb : IsEx G b) (hc : IsEx G c) (hv : ∀ v ∈ vs, IsEx G v) (hz : vs.length ≤ 1000)
    (hR : ∀ s' G' tp, Wd w G' s' → Ps [d] s G s' G' → TupAt G' tp (b :: c :: vs) → MadeAt s' d (grp0 tp) → R (.ok (.ret .none)) s') :
    codeAny (MD w) A (.call (.ref 458) ⟨.ref a :: b :: c :: vs, []⟩) R s := by
  have hCc : isCls Cc := hC.elim (fun e => .inr (.inr (.inl e))) fun e => .inr (.inr (.inr e))
  refine R_enterTAt (fun t => [(Str.ofString "args", t), (Str.ofString "arg2", c), (Str.ofString "arg1", b), (Str.ofString "self", .ref a)]) (k := 7) (st := mthAt 15 0) (qual := "DualBase.__init__") (cl := [("__class__", 446)]) (dV := .none) (pm := .str "boolean.boolean" 194) (cdv := .ref 457) (ct := .ref 451) (by kernel_rfl) (by k_is) W rm (bind_grp _ (.inl rfl) _ _ _ _ _ _ rfl _ _ _ _) (by omega) (by decide) (fun t => by rfl) (fun t => rfl) rfl rfl rfl fun t G1 L s1 ht1 C rm' => ?_
  replace C := C.own (C.ps.ex.keep _ _ hd ht (fun h => nomatch h)) (Heap.lt_size hd) (C.ps.none (Heap.lt_size hd) hG) ht
  have hX : ∀ x ∈ [d], x < s.heap.objs.size := fun x hx => by rw [List.mem_singleton.mp hx]; exact Heap.lt_size hd
  refine R_super C (fun x hx => Nat.lt_of_lt_of_le (hX x hx) C.ps.ex.size) (f := 458) (cda := 457) (cc := 446) (D := 514) (f2 := 362) (Cc := Cc) (d := d) (st := mthAt 15 0) (qual := "DualBase.__init__") (clo := [("__class__", 446)]) (dV := .none) (pm := .str "boolean.boolean" 194) (cdv := .ref 457) (ct := .ref 451) (by kernel_rfl) (by rfl) (by with_unfolding_all rfl) (C.ps.le _ _ ha) (by kernel_rfl) (sup_grp hC) (by decide) (by rfl) (by rfl) (by rfl) (by rfl) (by kernel_rfl) (by rfl) (by rfl) (by rfl) (by first | exact .inl ⟨_, rfl⟩ | exact .inr rfl) fun qa s2 G2 le2 C2 hq => ?_
  refine R_callM C2 hq (by k_is) ?_
  iterate 4 walk1
  refine items_star ?_
  walk1
  have ht2 := ht1.mono le2
  refine R_star C2 ht2 (by omega) fun s2' C2' => ?_
  repeat walk1
  have hd2 := C2'.st (d, _) (.head _)
  have hG2 := (C2'.new d (by simp)).2.1
  rw [List.append_nil]
  refine fn_init C2'.wd (rm'.le (by decide)) (hC.elim (fun e => .inr (.inl e)) fun e => .inr (.inr e)) (C2'.ps.le _ _ ha) hd2 hG2 ht (fun v hv' => ?_) (by simp only [List.length_cons]; omega) fun s3 G3 tp3 W3 P3 ht3 hm3 => ?_
  · rcases List.mem_cons.mp hv' with rfl | hv'
    · exact hb.mono C2'.ps.le
    · rcases List.mem_cons.mp hv' with rfl | hv'
      · exact hc.mono C2'.ps.le
      · exact (hv v hv').mono C2'.ps.le
  obtain ⟨es3, n3, hd3, he3⟩ := hm3
  have C3 := C2'.afterX0 W3 P3 hd3
  show wpAny (MD w) _ (execs _ _) _ _ s3
  repeat walk1
  exact hR _ _ _ (Cx.wd (by assumption)) (Cx.ps (by assumption)) ht3 ⟨_, _, Cx.st (by assumption) _ (.head _), by assumption⟩
def grpOf (k : Bool) : Addr := if k then 563 else 612
theorem and_init {a d : Addr} {n : Nat} {b c : Value} {vs : List Value} (W : Wd w G s) (rm : Rm A 10) (ha : G a = some (instObj 563 d)) (hd : s.heap.get? d = some (dictOf [] n)) (hG : G d = none) (ht : d ∉ tabL) (hb : IsEx G b) (hc : IsEx G c) (hv : ∀ v ∈ vs, IsEx G v) (hz : vs.length ≤ 900)
    (hR : ∀ s' G' tp t1 t2, Wd w G' s' → Ps [d] s G s' G' → TupAt G' tp (b :: c :: vs) → MadeAt s' d (grpL true tp false t1 t2) → R (.ok (.ret .none)) s') :
    codeAny (MD w) A (.call (.ref 532) ⟨.ref a :: b :: c :: vs, []⟩) R s := by
  have hC : grpCls 563 := .inl rfl
  have hCc : isCls 563 := .inr (.inr (.inl rfl))
  refine R_enterTAt (fun t => [(Str.ofString "args", t), (Str.ofString "arg2", c), (Str.ofString "arg1", b), (Str.ofString "self", .ref a)]) (k := 9) (st := mthAt 16 0) (qual := "AND.__init__") (cl := [("__class__", 520)]) (dV := .none) (pm := .str "boolean.boolean" 194) (cdv := .ref 531) (ct := .ref 525) (by kernel_rfl) (by k_is) W rm (bind_grp _ (.inr (.inl rfl)) _ _ _ _ _ _ rfl _ _ _ _) (by omega) (by decide) (fun t => by rfl) (fun t => rfl) rfl rfl rfl fun t G1 L s1 ht1 C rm' => ?_
  replace C := C.own (C.ps.ex.keep _ _ hd ht (fun h => nomatch h)) (Heap.lt_size hd) (C.ps.none (Heap.lt_size hd) hG) ht
  have hX : ∀ x ∈ [d], x < s.heap.objs.size := fun x hx => by rw [List.mem_singleton.mp hx]; exact Heap.lt_size hd
  refine R_super C (fun x hx => Nat.lt_of_lt_of_le (hX x hx) C.ps.ex.size) (f := 532) (cda := 531) (cc := 520) (D := 563) (f2 := 458) (Cc := 563) (d := d) (st := mthAt 16 0) (qual := "AND.__init__") (clo := [("__class__", 520)]) (dV := .none) (pm := .str "boolean.boolean" 194) (cdv := .ref 531) (ct := .ref 525) (by kernel_rfl) (by rfl) (by with_unfolding_all rfl) (C.ps.le _ _ ha) (by kernel_rfl) (by kernel_rfl) (by decide) (by rfl) (by rfl) (by rfl) (by rfl) (by kernel_rfl) (by rfl) (by rfl) (by rfl) (by first | exact .inl ⟨_, rfl⟩ | exact .inr rfl) fun qa s2 G2 le2 C2 hq => ?_
  refine R_callM C2 hq (by k_is) ?_
  iterate 4 walk1
  refine items_star ?_
  walk1
  have ht2 := ht1.mono le2
  refine R_star C2 ht2 (by omega) fun s2' C2' => ?_
  repeat walk1
  have hd2 := C2'.st (d, _) (.head _)
  have hG2 := (C2'.new d (by simp)).2.1
  rw [List.append_nil]
  refine dual_init C2'.wd (rm'.le (by decide)) hC (C2'.ps.le _ _ ha) hd2 hG2 ht (hb.mono C2'.ps.le) (hc.mono C2'.ps.le) (fun v hv' => (hv v hv').mono C2'.ps.le) (by omega) fun s3 G3 tp3 W3 P3 ht3 hm3 => ?_
  obtain ⟨es3, n3, hd3, he3⟩ := hm3
  have C3 := C2'.afterX0 W3 P3 hd3
  show wpAny (MD w) _ (execs _ _) _ _ s3
  repeat walk1
  exact hR _ _ _ _ _ (Cx.wd (by assumption)) (Cx.ps (by assumption)) ht3 ⟨_, _, Cx.st (by assumption) _ (.head _), by assumption⟩
theorem or_init {a d : Addr} {n : Nat} {b c : Value} {vs : List Value} (W : Wd w G s) (rm : Rm A 10) (ha : G a = some (instObj 612 d)) (hd : s.heap.get? d = some (dictOf [] n)) (hG : G d = none) (ht : d ∉ tabL) (hb : IsEx G b) (hc : IsEx G c) (hv : ∀ v ∈ vs, IsEx G v) (hz : vs.length ≤ 900)
    (hR : ∀ s' G' tp t1 t2, Wd w G' s' → Ps [d] s G s' G' → TupAt G' tp (b :: c :: vs) → MadeAt s' d (grpL false tp false t1 t2) → R (.ok (.ret .none)) s') :
    codeAny (MD w) A (.call (.ref 581) ⟨.ref a :: b :: c :: vs, []⟩) R s := by
  have hC : grpCls 612 := .inr rfl
  have hCc : isCls 612 := .inr (.inr (.inr rfl))
  refine R_enterTAt (fun t => [(Str.ofString "args", t), (Str.ofString "arg2", c), (Str.ofString "arg1", b), (Str.ofString "self", .ref a)]) (k := 9) (st := mthAt 17 0) (qual := "OR.__init__") (cl := [("__class__", 569)]) (dV := .none) (pm := .str "boolean.boolean" 194) (cdv := .ref 580) (ct := .ref 574) (by kernel_rfl) (by k_is) W rm (bind_grp _ (.inr (.inr rfl)) _ _ _ _ _ _ rfl _ _ _ _) (by omega) (by decide) (fun t => by rfl) (fun t => rfl) rfl rfl rfl fun t G1 L s1 ht1 C rm' => ?_
  replace C := C.own (C.ps.ex.keep _ _ hd ht (fun h => nomatch h)) (Heap.lt_size hd) (C.ps.none (Heap.lt_size hd) hG) ht
  have hX : ∀ x ∈ [d], x < s.heap.objs.size := fun x hx => by rw [List.mem_singleton.mp hx]; exact Heap.lt_size hd
  refine R_super C (fun x hx => Nat.lt_of_lt_of_le (hX x hx) C.ps.ex.size) (f := 581) (cda := 580) (cc := 569) (D := 612) (f2 := 458) (Cc := 612) (d := d) (st := mthAt 17 0) (qual := "OR.__init__") (clo := [("__class__", 569)]) (dV := .none) (pm := .str "boolean.boolean" 194) (cdv := .ref 580) (ct := .ref 574) (by kernel_rfl) (by rfl) (by with_unfolding_all rfl) (C.ps.le _ _ ha) (by kernel_rfl) (by kernel_rfl) (by decide) (by rfl) (by rfl) (by rfl) (by rfl) (by kernel_rfl) (by rfl) (by rfl) (by rfl) (by first | exact .inl ⟨_, rfl⟩ | exact .inr rfl) fun qa s2 G2 le2 C2 hq => ?_
  refine R_callM C2 hq (by k_is) ?_
  iterate 4 walk1
  refine items_star ?_
  walk1
  have ht2 := ht1.mono le2
  refine R_star C2 ht2 (by omega) fun s2' C2' => ?_
  repeat walk1
  have hd2 := C2'.st (d, _) (.head _)
  have hG2 := (C2'.new d (by simp)).2.1
  rw [List.append_nil]
  refine dual_init C2'.wd (rm'.le (by decide)) hC (C2'.ps.le _ _ ha) hd2 hG2 ht (hb.mono C2'.ps.le) (hc.mono C2'.ps.le) (fun v hv' => (hv v hv').mono C2'.ps.le) (by omega) fun s3 G3 tp3 W3 P3 ht3 hm3 => ?_
  obtain ⟨es3, n3, hd3, he3⟩ := hm3
  have C3 := C2'.afterX0 W3 P3 hd3
  show wpAny (MD w) _ (execs _ _) _ _ s3
  repeat walk1
  exact hR _ _ _ _ _ (Cx.wd (by assumption)) (Cx.ps (by assumption)) ht3 ⟨_, _, Cx.st (by assumption) _ (.head _), by assumption⟩
end
-- part C4
def SymAt (G : Km) (a : Addr) (nm : Str) : Prop := ∃ tp t1 t2, ObjAt G a 344 (symL nm tp t1 t2) ∧ TupAt G tp []
def NotAt (G : Km) (a b : Addr) (li ca : Bool) : Prop := ∃ tp t1, ObjAt G a 440 (notL tp li ca t1) ∧ TupAt G tp [.ref b]
def GrpAt (G : Km) (a : Addr) (k : Bool) (vs : List Value) (ca : Bool) : Prop := ∃ tp t1 t2, ObjAt G a (grpOf k) (grpL k tp ca t1 t2) ∧ TupAt G tp vs
theorem SymAt.mono {G G' : Km} {a : Addr} {nm : Str} (h : G.le G') (x : SymAt G a nm) : SymAt G' a nm := let ⟨tp, t1, t2, h1, h2⟩ := x; ⟨tp, t1, t2, h1.mono h, h2.mono h⟩
theorem NotAt.mono {G G' : Km} {a b : Addr} {li ca : Bool} (h : G.le G') (x : NotAt G a b li ca) : NotAt G' a b li ca := let ⟨tp, t1, h1, h2⟩ := x; ⟨tp, t1, h1.mono h, h2.mono h⟩
theorem GrpAt.mono {G G' : Km} {a : Addr} {k : Bool} {vs : List Value} {ca : Bool} (h : G.le G') (x : GrpAt G a k vs ca) : GrpAt G' a k vs ca := let ⟨tp, t1, t2, h1, h2⟩ := x; ⟨tp, t1, t2, h1.mono h, h2.mono h⟩
theorem SymAt.ex {G : Km} {a : Addr} {nm : Str} (x : SymAt G a nm) : IsEx G (.ref a) := let ⟨tp, t1, t2, h1, h2⟩ := x; ⟨a, _, _, rfl, h1, by decide⟩
theorem NotAt.ex {G : Km} {a b : Addr} {li ca : Bool} (x : NotAt G a b li ca) : IsEx G (.ref a) := let ⟨tp, t1, h1, h2⟩ := x; ⟨a, _, _, rfl, h1, by decide⟩
theorem grp_ex (k : Bool) : grpOf k ∈ exCls := by cases k <;> decide
theorem GrpAt.ex {G : Km} {a : Addr} {k : Bool} {vs : List Value} {ca : Bool} (x : GrpAt G a k vs ca) : IsEx G (.ref a) := let ⟨tp, t1, t2, h1, h2⟩ := x; ⟨a, _, _, rfl, h1, grp_ex k⟩
section
variable {w : World} {s s' : Shared} {G G' : Km} {A : Around} {R : Result → Shared → Prop}
theorem mk_sym {nm : Str} {tn : Tok} (W : Wd w G s) (rm : Rm A 8) (hR : ∀ s' G' x d tp t1, NewObj w s G s' G' x d 344 (symL nm tp t1 tn) → TupAt G' tp [] → R (.ok (.ret (.ref x))) s') :
    codeAny (MD w) A (.call (.ref 344) ⟨[.str nm tn], []⟩) R s := by
  refine make_obj (k := 7) (fI := 306) W rm (by k_is) (by k_is) (by k_is) fun x d s1 G1 W1 P1 hx hd hG ht hz rm1 => ?_
  refine sym_init W1 (rm1.le (by decide)) hx hd hG ht fun s2 G2 tp t1 W2 P2 h2 m2 => ⟨rfl, hR s2 G2 x d tp t1 ⟨W2, P1.drop P2 hz ht, P2.le _ _ hx, hz, P2.none (Heap.lt_size hd) hG, ht, m2⟩ h2⟩
theorem mk_not {b Db : Addr} {lb : List (Str × Value)} (W : Wd w G s) (rm : Rm A 10) (hb : ObjAt G b Db lb) (hD : Db ∈ exCls) (hR : ∀ s' G' x d tp t1, NewObj w s G s' G' x d 440 (notL tp (isiTab Db 344) false t1) → TupAt G' tp [.ref b] → R (.ok (.ret (.ref x))) s') :
    codeAny (MD w) A (.call (.ref 440) ⟨[.ref b], []⟩) R s := by
  refine make_obj (k := 9) (fI := 390) W rm (by k_is) (by k_is) (by k_is) fun x d s1 G1 W1 P1 hx hd hG ht hz rm1 => ?_
  refine not_init W1 (rm1.le (by decide)) hx hd hG ht (hb.mono P1.le) hD fun s2 G2 tp t1 W2 P2 h2 m2 => ⟨rfl, hR s2 G2 x d tp t1 ⟨W2, P1.drop P2 hz ht, P2.le _ _ hx, hz, P2.none (Heap.lt_size hd) hG, ht, m2⟩ h2⟩
theorem mk_grp {k : Bool} {b c : Value} {vs : List Value} (W : Wd w G s) (rm : Rm A 12) (hv : ∀ v ∈ b :: c :: vs, IsEx G v) (hz : vs.length ≤ 900) (hR : ∀ s' G' x d tp t1 t2, NewObj w s G s' G' x d (grpOf k) (grpL k tp false t1 t2) → TupAt G' tp (b :: c :: vs) → R (.ok (.ret (.ref x))) s') :
    codeAny (MD w) A (.call (.ref (grpOf k)) ⟨b :: c :: vs, []⟩) R s := by
  cases k with
  | true =>
    refine make_obj (C := 563) (k := 11) (fI := 532) W rm (by k_is) (by k_is) (by k_is) fun x d s1 G1 W1 P1 hx hd hG ht hz' rm1 => ?_
    refine and_init W1 (rm1.le (by decide)) hx hd hG ht ((hv b (by simp)).mono P1.le) ((hv c (by simp)).mono P1.le) (fun v h => (hv v (by simp [h])).mono P1.le) hz fun s2 G2 tp t1 t2 W2 P2 h2 m2 => ⟨rfl, hR s2 G2 x d tp t1 t2 ⟨W2, P1.drop P2 hz' ht, P2.le _ _ hx, hz', P2.none (Heap.lt_size hd) hG, ht, m2⟩ h2⟩
  | false =>
    refine make_obj (C := 612) (k := 11) (fI := 581) W rm (by k_is) (by k_is) (by k_is) fun x d s1 G1 W1 P1 hx hd hG ht hz' rm1 => ?_
    refine or_init W1 (rm1.le (by decide)) hx hd hG ht ((hv b (by simp)).mono P1.le) ((hv c (by simp)).mono P1.le) (fun v h => (hv v (by simp [h])).mono P1.le) hz fun s2 G2 tp t1 t2 W2 P2 h2 m2 => ⟨rfl, hR s2 G2 x d tp t1 t2 ⟨W2, P1.drop P2 hz' ht, P2.le _ _ hx, hz', P2.none (Heap.lt_size hd) hG, ht, m2⟩ h2⟩
end
-- part C5
section
variable {w : World} {s s' : Shared} {G G' : Km} {A : Around} {R : Result → Shared → Prop}
theorem and_made {t : Addr} {v b c : Value} {vs : List Value} (W : Wd w G s) (rm : Rm A 14) (ht : SeqAt G t (b :: c :: vs)) (hv : ∀ v ∈ b :: c :: vs, IsEx G v) (hz : vs.length ≤ 900)
    (hR : ∀ s' G' x d tp t1 t2, NewObj w s G s' G' x d 563 (grpL true tp false t1 t2) → TupAt G' tp (b :: c :: vs) → R (.ok (.ret (.ref x))) s') :
    codeAny (MD w) A (.call (.ref 539) ⟨[v, .ref t], []⟩) R s := by
  refine R_enter [(Str.ofString "args", .ref t), (Str.ofString "self", v)] (k := 13) (st := mthAt 16 1) (qual := "AND.made") (cl := []) (dV := .none) (pm := .str "boolean.boolean" 194) (cdv := .ref 538) (ct := .none) (by kernel_rfl) (by k_is) W rm (BindsTo.of_eq rfl) (by decide) (by rfl) rfl rfl rfl rfl fun L s1 C rm' => ?_
  have hz' : (b :: c :: vs).length ≤ 2000 := by simp only [List.length_cons]; omega
  repeat walk1
  refine wpAny_call (mk_grp (k := true) (Cx.wd (by assumption)) (rm'.le (by decide)) hv hz fun s' G' x d tp t1 t2 N h => ?_)
  exact hR s' G' x d tp t1 t2 (N.of (Cx.ps (by assumption))) h
theorem or_made {t : Addr} {v b c : Value} {vs : List Value} (W : Wd w G s) (rm : Rm A 14) (ht : SeqAt G t (b :: c :: vs)) (hv : ∀ v ∈ b :: c :: vs, IsEx G v) (hz : vs.length ≤ 900)
    (hR : ∀ s' G' x d tp t1 t2, NewObj w s G s' G' x d 612 (grpL false tp false t1 t2) → TupAt G' tp (b :: c :: vs) → R (.ok (.ret (.ref x))) s') :
    codeAny (MD w) A (.call (.ref 588) ⟨[v, .ref t], []⟩) R s := by
  refine R_enter [(Str.ofString "args", .ref t), (Str.ofString "self", v)] (k := 13) (st := mthAt 17 1) (qual := "OR.made") (cl := []) (dV := .none) (pm := .str "boolean.boolean" 194) (cdv := .ref 587) (ct := .none) (by kernel_rfl) (by k_is) W rm (BindsTo.of_eq rfl) (by decide) (by rfl) rfl rfl rfl rfl fun L s1 C rm' => ?_
  have hz' : (b :: c :: vs).length ≤ 2000 := by simp only [List.length_cons]; omega
  repeat walk1
  refine wpAny_call (mk_grp (k := false) (Cx.wd (by assumption)) (rm'.le (by decide)) hv hz fun s' G' x d tp t1 t2 N h => ?_)
  exact hR s' G' x d tp t1 t2 (N.of (Cx.ps (by assumption))) h
theorem and_made_dual {t : Addr} {v b c : Value} {vs : List Value} (W : Wd w G s) (rm : Rm A 14) (ht : SeqAt G t (b :: c :: vs)) (hv : ∀ v ∈ b :: c :: vs, IsEx G v) (hz : vs.length ≤ 900)
    (hR : ∀ s' G' x d tp t1 t2, NewObj w s G s' G' x d 612 (grpL false tp false t1 t2) → TupAt G' tp (b :: c :: vs) → R (.ok (.ret (.ref x))) s') :
    codeAny (MD w) A (.call (.ref 546) ⟨[v, .ref t], []⟩) R s := by
  refine R_enter [(Str.ofString "args", .ref t), (Str.ofString "self", v)] (k := 13) (st := mthAt 16 2) (qual := "AND.made_dual") (cl := []) (dV := .none) (pm := .str "boolean.boolean" 194) (cdv := .ref 545) (ct := .none) (by kernel_rfl) (by k_is) W rm (BindsTo.of_eq rfl) (by decide) (by rfl) rfl rfl rfl rfl fun L s1 C rm' => ?_
  have hz' : (b :: c :: vs).length ≤ 2000 := by simp only [List.length_cons]; omega
  repeat walk1
  refine wpAny_call (mk_grp (k := false) (Cx.wd (by assumption)) (rm'.le (by decide)) hv hz fun s' G' x d tp t1 t2 N h => ?_)
  exact hR s' G' x d tp t1 t2 (N.of (Cx.ps (by assumption))) h
theorem or_made_dual {t : Addr} {v b c : Value} {vs : List Value} (W : Wd w G s) (rm : Rm A 14) (ht : SeqAt G t (b :: c :: vs)) (hv : ∀ v ∈ b :: c :: vs, IsEx G v) (hz : vs.length ≤ 900)
    (hR : ∀ s' G' x d tp t1 t2, NewObj w s G s' G' x d 563 (grpL true tp false t1 t2) → TupAt G' tp (b :: c :: vs) → R (.ok (.ret (.ref x))) s') :
    codeAny (MD w) A (.call (.ref 595) ⟨[v, .ref t], []⟩) R s := by
  refine R_enter [(Str.ofString "args", .ref t), (Str.ofString "self", v)] (k := 13) (st := mthAt 17 2) (qual := "OR.made_dual") (cl := []) (dV := .none) (pm := .str "boolean.boolean" 194) (cdv := .ref 594) (ct := .none) (by kernel_rfl) (by k_is) W rm (BindsTo.of_eq rfl) (by decide) (by rfl) rfl rfl rfl rfl fun L s1 C rm' => ?_
  have hz' : (b :: c :: vs).length ≤ 2000 := by simp only [List.length_cons]; omega
  repeat walk1
  refine wpAny_call (mk_grp (k := true) (Cx.wd (by assumption)) (rm'.le (by decide)) hv hz fun s' G' x d tp t1 t2 N h => ?_)
  exact hR s' G' x d tp t1 t2 (N.of (Cx.ps (by assumption))) h
def madeFn (k : Bool) : Addr := if k then 539 else 588
def dualFn (k : Bool) : Addr := if k then 546 else 595
theorem made_k {k : Bool} {t : Addr} {v b c : Value} {vs : List Value} (W : Wd w G s) (rm : Rm A 14) (ht : SeqAt G t (b :: c :: vs)) (hv : ∀ v ∈ b :: c :: vs, IsEx G v) (hz : vs.length ≤ 900)
    (hR : ∀ s' G' x d tp t1 t2, NewObj w s G s' G' x d (grpOf k) (grpL k tp false t1 t2) → TupAt G' tp (b :: c :: vs) → R (.ok (.ret (.ref x))) s') :
    codeAny (MD w) A (.call (.ref (madeFn k)) ⟨[v, .ref t], []⟩) R s := by
  cases k with
  | true => exact and_made W rm ht hv hz hR
  | false => exact or_made W rm ht hv hz hR
theorem dual_k {k : Bool} {t : Addr} {v b c : Value} {vs : List Value} (W : Wd w G s) (rm : Rm A 14) (ht : SeqAt G t (b :: c :: vs)) (hv : ∀ v ∈ b :: c :: vs, IsEx G v) (hz : vs.length ≤ 900)
    (hR : ∀ s' G' x d tp t1 t2, NewObj w s G s' G' x d (grpOf (!k)) (grpL (!k) tp false t1 t2) → TupAt G' tp (b :: c :: vs) → R (.ok (.ret (.ref x))) s') :
    codeAny (MD w) A (.call (.ref (dualFn k)) ⟨[v, .ref t], []⟩) R s := by
  cases k with
  | true => exact and_made_dual W rm ht hv hz hR
  | false => exact or_made_dual W rm ht hv hz hR
end
-- part C6
def NotOf (G : Km) (a b : Addr) (ca : Bool) : Prop := ∃ Db lb tp t1, ObjAt G b Db lb ∧ Db ∈ exCls ∧ ObjAt G a 440 (notL tp (isiTab Db 344) ca t1) ∧ TupAt G tp [.ref b]
theorem NotOf.mono {G G' : Km} {a b : Addr} {ca : Bool} (h : G.le G') (x : NotOf G a b ca) : NotOf G' a b ca := let ⟨Db, lb, tp, t1, h1, h2, h3, h4⟩ := x; ⟨Db, lb, tp, t1, h1.mono h, h2, h3.mono h, h4.mono h⟩
def NotCh (G : Km) : Nat → Addr → Addr → Prop
  | 0, a, b => a = b
  | n + 1, a, b => ∃ a' ca, NotOf G a a' ca ∧ NotCh G n a' b
theorem NotCh.mono {G G' : Km} (h : G.le G') : ∀ {n : Nat} {a b : Addr}, NotCh G n a b → NotCh G' n a b
  | 0, _, _, x => x
  | n + 1, _, _, ⟨a', ca, x, y⟩ => ⟨a', ca, x.mono h, y.mono h⟩
theorem ObjAt.same {G : Km} {a D D' : Addr} {l l' : List (Str × Value)} (h : ObjAt G a D l) (h' : ObjAt G a D' l') : D = D' := by
  obtain ⟨d, es, n, h1, _⟩ := h
  obtain ⟨d', es', n', h1', _⟩ := h'
  rw [h1] at h1'
  cases h1'
  rfl
section
variable {w : World} {s s' : Shared} {G G' : Km} {A : Around} {R : Result → Shared → Prop}
theorem cancel_ch {n : Nat} {a b Db : Addr} {lb : List (Str × Value)} (W : Wd w G s) (rm : Rm A 3) (hch : NotCh G (n + 1) a b) (hb : ObjAt G b Db lb) (hD : Db ∈ exCls) (hn : isiTab Db 440 = false)
    (hR : ∀ s' G' r, Wd w G' s' → Ps [] s G s' G' → NotCh G ((n + 1) % 2) r b → R (.ok (.ret (.ref r))) s') :
    codeAny (MD w) A (.call (.ref 418) ⟨[.ref a], []⟩) R s := by
  refine R_enter [(Str.ofString "self", .ref a)] (k := 2) (st := mthAt 14 4) (qual := "NOT.cancel") (cl := []) (dV := .none) (pm := .str "boolean.boolean" 194) (cdv := .ref 417) (ct := .none) (by kernel_rfl) (by k_is) W rm (BindsTo.of_eq rfl) (by decide) (by rfl) rfl rfl rfl rfl fun L s1 C rm' => ?_
  obtain ⟨a1, ca1, ⟨D1, l1, tp1, t11, hb1, hD1, hb2, hb3⟩, hch1⟩ := id hch
  repeat walk1
  refine wpAny_While ?_
  refine R_while (fun k s' => ∃ x, NotCh G (k + 1) x b ∧ (k + 1) % 2 = (n + 1) % 2 ∧ Cx [] w s G G L [(Str.ofString "expr", .ref x), (Str.ofString "self", .ref a)] [] s') (fun k s2 hI => ?_) n ⟨a, hch, rfl, by assumption⟩
  obtain ⟨x, hx, hpar, C2⟩ := hI
  obtain ⟨a', ca', ⟨D', l', tp', t', h1, hD', h2, h3⟩, hx'⟩ := hx
  cases k with
  | zero =>
    cases hx'
    cases ObjAt.same h1 hb
    repeat walk1
    refine R_isiF (by assumption) (by walk_at "m_obj") hD' (by decide) hn fun s3 C3 => ?_
    repeat walk1
    exact hR _ _ _ (Cx.wd (by assumption)) (Cx.ps (by assumption)) (by rw [← hpar]; exact ⟨_, _, ⟨_, _, _, _, h1, hD', h2, h3⟩, rfl⟩)
  | succ k =>
    obtain ⟨a2, ca2, ⟨D2, l2, tp2, t2, i1, hD2, i2, i3⟩, hx2⟩ := hx'
    repeat walk1
    cases k with
    | zero =>
      cases hx2
      cases ObjAt.same i1 hb
      refine R_isiF (by assumption) (by walk_at "m_obj") hD (by decide) hn fun s3 C3 => ?_
      repeat walk1
      exact hR _ _ _ (Cx.wd (by assumption)) (Cx.ps (by assumption)) (by rw [← hpar]; rfl)
    | succ k =>
      obtain ⟨a3, ca3, ⟨D3, l3, tp3, t3, j1, hD3, j2, j3⟩, hx3⟩ := hx2
      cases ObjAt.same i1 j2
      repeat walk1
      refine ⟨k, by omega, _, ⟨a3, ca3, ⟨D3, l3, tp3, t3, j1, hD3, j2, j3⟩, hx3⟩, by omega, Cx.subs (by assumption) ?_⟩
      intro p hp
      simp only [List.mem_cons, List.not_mem_nil, or_false] at hp
      rcases hp with rfl | rfl <;> rfl
end
-- part C7
section
variable {w : World} {s s' : Shared} {G G' : Km} {A : Around} {R : Result → Shared → Prop}
theorem true_eq {b D : Addr} {l : List (Str × Value)} (W : Wd w G s) (rm : Rm A 2) (hb : ObjAt G b D l) (hD : D ∈ exCls) (hab : (284 : Addr) ≠ b) (hi : isiTab D 232 = false)
    (hR : ∀ s' G', Wd w G' s' → Ps [] s G s' G' → R (.ok (.ret (.bool false))) s') : codeAny (MD w) A (.call (.ref 208) ⟨[.ref 284, .ref b], []⟩) R s := by
  refine R_enter [(Str.ofString "other", .ref b), (Str.ofString "self", .ref 284)] (k := 1) (st := mthAt 8 1) (qual := "_TRUE.__eq__") (cl := []) (dV := .none) (pm := .str "boolean.boolean" 194) (cdv := .ref 207) (ct := .none) (by kernel_rfl) (by k_is) W rm (BindsTo.of_eq rfl) (by decide) (by rfl) rfl rfl rfl rfl fun L s1 C rm' => ?_
  repeat walk1
  refine R_isiF (by assumption) (by walk_at "m_obj") hD (by decide) hi fun s3 C3 => ?_
  repeat walk1
  exact hR _ _ (Cx.wd (by assumption)) (Cx.ps (by assumption))
theorem false_eq {b D : Addr} {l : List (Str × Value)} (W : Wd w G s) (rm : Rm A 2) (hb : ObjAt G b D l) (hD : D ∈ exCls) (hab : (288 : Addr) ≠ b) (hi : isiTab D 280 = false)
    (hR : ∀ s' G', Wd w G' s' → Ps [] s G s' G' → R (.ok (.ret (.bool false))) s') : codeAny (MD w) A (.call (.ref 256) ⟨[.ref 288, .ref b], []⟩) R s := by
  refine R_enter [(Str.ofString "other", .ref b), (Str.ofString "self", .ref 288)] (k := 1) (st := mthAt 9 1) (qual := "_FALSE.__eq__") (cl := []) (dV := .none) (pm := .str "boolean.boolean" 194) (cdv := .ref 255) (ct := .none) (by kernel_rfl) (by k_is) W rm (BindsTo.of_eq rfl) (by decide) (by rfl) rfl rfl rfl rfl fun L s1 C rm' => ?_
  repeat walk1
  refine R_isiF (by assumption) (by walk_at "m_obj") hD (by decide) hi fun s3 C3 => ?_
  repeat walk1
  exact hR _ _ (Cx.wd (by assumption)) (Cx.ps (by assumption))
theorem true_self (W : Wd w G s) (rm : Rm A 2) (hR : ∀ s' G', Wd w G' s' → Ps [] s G s' G' → R (.ok (.ret (.bool true))) s') : codeAny (MD w) A (.call (.ref 208) ⟨[.ref 284, .ref 284], []⟩) R s := by
  refine R_enter [(Str.ofString "other", .ref 284), (Str.ofString "self", .ref 284)] (k := 1) (st := mthAt 8 1) (qual := "_TRUE.__eq__") (cl := []) (dV := .none) (pm := .str "boolean.boolean" 194) (cdv := .ref 207) (ct := .none) (by kernel_rfl) (by k_is) W rm (BindsTo.of_eq rfl) (by decide) (by rfl) rfl rfl rfl rfl fun L s1 C rm' => ?_
  repeat walk1
  exact hR _ _ (Cx.wd (by assumption)) (Cx.ps (by assumption))
theorem false_self (W : Wd w G s) (rm : Rm A 2) (hR : ∀ s' G', Wd w G' s' → Ps [] s G s' G' → R (.ok (.ret (.bool true))) s') : codeAny (MD w) A (.call (.ref 256) ⟨[.ref 288, .ref 288], []⟩) R s := by
  refine R_enter [(Str.ofString "other", .ref 288), (Str.ofString "self", .ref 288)] (k := 1) (st := mthAt 9 1) (qual := "_FALSE.__eq__") (cl := []) (dV := .none) (pm := .str "boolean.boolean" 194) (cdv := .ref 255) (ct := .none) (by kernel_rfl) (by k_is) W rm (BindsTo.of_eq rfl) (by decide) (by rfl) rfl rfl rfl rfl fun L s1 C rm' => ?_
  repeat walk1
  exact hR _ _ (Cx.wd (by assumption)) (Cx.ps (by assumption))
theorem sym_eq {a b : Addr} {n1 n2 : Str} (W : Wd w G s) (rm : Rm A 2) (ha : SymAt G a n1) (hb : SymAt G b n2) (hab : a ≠ b)
    (hR : ∀ s' G', Wd w G' s' → Ps [] s G s' G' → R (.ok (.ret (.bool (n1 == n2)))) s') : codeAny (MD w) A (.call (.ref 327) ⟨[.ref a, .ref b], []⟩) R s := by
  obtain ⟨p1, t1, u1, ha, _⟩ := ha
  obtain ⟨p2, t2, u2, hb, _⟩ := hb
  refine R_enter [(Str.ofString "other", .ref b), (Str.ofString "self", .ref a)] (k := 1) (st := mthAt 12 3) (qual := "Symbol.__eq__") (cl := []) (dV := .none) (pm := .str "boolean.boolean" 194) (cdv := .ref 326) (ct := .none) (by kernel_rfl) (by k_is) W rm (BindsTo.of_eq rfl) (by decide) (by rfl) rfl rfl rfl rfl fun L s1 C rm' => ?_
  repeat walk1
  exact hR _ _ (Cx.wd (by assumption)) (Cx.ps (by assumption))
theorem sym_same {a : Addr} {l : List (Str × Value)} (W : Wd w G s) (rm : Rm A 2) (ha : ObjAt G a 344 l)
    (hR : ∀ s' G', Wd w G' s' → Ps [] s G s' G' → R (.ok (.ret (.bool true))) s') : codeAny (MD w) A (.call (.ref 327) ⟨[.ref a, .ref a], []⟩) R s := by
  refine R_enter [(Str.ofString "other", .ref a), (Str.ofString "self", .ref a)] (k := 1) (st := mthAt 12 3) (qual := "Symbol.__eq__") (cl := []) (dV := .none) (pm := .str "boolean.boolean" 194) (cdv := .ref 326) (ct := .none) (by kernel_rfl) (by k_is) W rm (BindsTo.of_eq rfl) (by decide) (by rfl) rfl rfl rfl rfl fun L s1 C rm' => ?_
  repeat walk1
  exact hR _ _ (Cx.wd (by assumption)) (Cx.ps (by assumption))
theorem sym_ne {a b D : Addr} {la lb : List (Str × Value)} (W : Wd w G s) (rm : Rm A 2) (ha : ObjAt G a 344 la) (hb : ObjAt G b D lb) (hD : D ∈ exCls) (hab : a ≠ b) (hi : isiTab D 344 = false)
    (hR : ∀ s' G', Wd w G' s' → Ps [] s G s' G' → R (.ok (.ret .notImplemented)) s') : codeAny (MD w) A (.call (.ref 327) ⟨[.ref a, .ref b], []⟩) R s := by
  refine R_enter [(Str.ofString "other", .ref b), (Str.ofString "self", .ref a)] (k := 1) (st := mthAt 12 3) (qual := "Symbol.__eq__") (cl := []) (dV := .none) (pm := .str "boolean.boolean" 194) (cdv := .ref 326) (ct := .none) (by kernel_rfl) (by k_is) W rm (BindsTo.of_eq rfl) (by decide) (by rfl) rfl rfl rfl rfl fun L s1 C rm' => ?_
  repeat walk1
  refine R_isiF (by assumption) (by walk_at "m_obj") hD (by decide) hi fun s3 C3 => ?_
  repeat walk1
  exact hR _ _ (Cx.wd (by assumption)) (Cx.ps (by assumption))
end
-- part C8
section
variable {w : World} {s s' : Shared} {G G' : Km} {A : Around} {R : Result → Shared → Prop}
theorem eq_enter {a b : Addr} {k : Nat} (W : Wd w G s) (rm : Rm A (k + 1))
    (h : ∀ L s' G' c1 c2, Cx [] w s G G' L [] [] s' → (cellsFrom (L + 1) (fnScope (mthAt 6 7)).names []).lookup (Str.ofString "self") = some c1 → CellAt G' c1 (.ref a) → (cellsFrom (L + 1) (fnScope (mthAt 6 7)).names []).lookup (Str.ofString "other") = some c2 → CellAt G' c2 (.ref b) →
      Rm (A.deeper (envX "Expression.__eq__" (fnScope (mthAt 6 7)) L 90 (.ref 89) (cellsFrom (L + 1) (fnScope (mthAt 6 7)).names []))) k →
      wpAny (MD w) (A.deeper (envX "Expression.__eq__" (fnScope (mthAt 6 7)) L 90 (.ref 89) (cellsFrom (L + 1) (fnScope (mthAt 6 7)).names []))) (execs (fnBody (mthAt 6 7)) (envX "Expression.__eq__" (fnScope (mthAt 6 7)) L 90 (.ref 89) (cellsFrom (L + 1) (fnScope (mthAt 6 7)).names [])))
        (fun fl s'' => R (.ok (.ret (match fl with | .ret v => v | _ => .none))) s'') (fun _ _ => False) s') : codeAny (MD w) A (.call (.ref 90) ⟨[.ref a, .ref b], []⟩) R s := by
  refine R_enterC (st := mthAt 6 7) (qual := "Expression.__eq__") (dV := .none) (pm := .str "boolean.boolean" 194) (cdv := .ref 89) (ct := .none) (binds := [(Str.ofString "self", .ref a), (Str.ofString "other", .ref b)]) (by kernel_rfl) (by k_is) W rm rfl (fun L x hx => ?_) [] [(Str.ofString "self", .ref a), (Str.ofString "other", .ref b)] (fun L p hp => nomatch hp) (fun L p hp => ?_) rfl rfl rfl fun L s' G' C hc rm' => ?_
  · simp only [List.mem_cons, List.not_mem_nil, or_false] at hx
    rcases hx with rfl | rfl <;> exact .inr ⟨rfl, rfl⟩
  · simp only [List.mem_cons, List.not_mem_nil, or_false] at hp
    rcases hp with rfl | rfl <;> exact ⟨rfl, rfl⟩
  · obtain ⟨c1, h1, h2⟩ := hc (Str.ofString "self", .ref a) (by simp)
    obtain ⟨c2, h3, h4⟩ := hc (Str.ofString "other", .ref b) (by simp)
    exact h L s' G' c1 c2 C h1 h2 h3 h4 rm'
theorem expr_same {a D : Addr} {l : List (Str × Value)} (W : Wd w G s) (rm : Rm A 2) (ha : ObjAt G a D l)
    (hR : ∀ s', Wd w G s' → Ps [] s G s' G → R (.ok (.ret (.bool true))) s') : codeAny (MD w) A (.call (.ref 90) ⟨[.ref a, .ref a], []⟩) R s := by
  refine eq_enter W rm fun L s' G' c1 c2 C h1 h2 h3 h4 rm' => ?_
  repeat walk1
  exact hR _ (W.weaken (Cx.wd (by assumption)) (Ps.le (Cx.ps (by assumption)))) (Ps.weaken (Cx.ps (by assumption)))
theorem expr_ni {a b D D' : Addr} {la lb : List (Str × Value)} (W : Wd w G s) (rm : Rm A 2) (ha : ObjAt G a D la) (hb : ObjAt G b D' lb) (hD : D ∈ exCls) (hD' : D' ∈ exCls) (hT : D ∈ tgCls) (hi : isiTab D' D = false) (hab : a ≠ b)
    (hR : ∀ s', Wd w G s' → Ps [] s G s' G → R (.ok (.ret .notImplemented)) s') : codeAny (MD w) A (.call (.ref 90) ⟨[.ref a, .ref b], []⟩) R s := by
  refine eq_enter W rm fun L s' G' c1 c2 C h1 h2 h3 h4 rm' => ?_
  repeat walk1
  refine R_isiF (by assumption) (by walk_at "m_obj") hD' hT hi fun s3 C3 => ?_
  repeat walk1
  exact hR _ (W.weaken (Cx.wd (by assumption)) (Ps.le (Cx.ps (by assumption)))) (Ps.weaken (Cx.ps (by assumption)))
theorem not_not {a b x y tp tq : Addr} {la lb : List (Str × Value)} {r1 r2 : Bool} {n : Nat} (W : Wd w G s) (rm : Rm A (n + 4)) (ha : ObjAt G a 440 la) (hla : la.lookup (Str.ofString "args") = some (.ref tp)) (hp : TupAt G tp [.ref x])
    (hb : ObjAt G b 440 lb) (hlb : lb.lookup (Str.ofString "args") = some (.ref tq)) (hq : TupAt G tq [.ref y]) (hab : a ≠ b) (e1 : EqB w n G y x r1) (e2 : EqB w n G x y r2)
    (hR : ∀ s', Wd w G s' → Ps [] s G s' G → R (.ok (.ret (.bool (r1 && r2)))) s') : codeAny (MD w) A (.call (.ref 90) ⟨[.ref a, .ref b], []⟩) R s := by
  refine eq_enter W rm fun L s' G' c1 c2 C h1 h2 h3 h4 rm' => ?_
  have W0 := W
  replace ha := ha.mono C.ps.le
  replace hb := hb.mono C.ps.le
  replace hp := hp.mono C.ps.le
  replace hq := hq.mono C.ps.le
  replace e1 := e1.mono C.ps.le
  replace e2 := e2.mono C.ps.le
  repeat walk1
  show wpAny _ _ _ _ _ _
  refine R_allgen (by assumption) (rm'.le (k' := (n + 1) + 2) (by omega)) (c := 89) (P := 85) (t := tp) (vs := [.ref x]) (f := fun _ => r1) (by rfl) (by rfl) (by rfl) (by rfl) (by rfl) (by kernel_rfl) (by decide) (by decide) (by rfl) (by rfl) (by decide) (by rfl) (by rfl) (by rfl) (fun _ => rfl) (by k_is) (by k_is) (by k_is) (by kernel_rfl) ?_ hp ?_ ?_
  · intro Q' hQ'
    repeat walk1
    exact hQ' _ (by assumption)
  · intro sb i v G3 L' cd s3 mu' A' E' hvi le C3 rA
    have hi : i = 0 := by
      cases i with
      | zero => rfl
      | succ i => simp at hvi
    subst hi
    cases hvi
    repeat walk1
    refine R_inT (vs := [.ref y]) (rs := [r1]) (by assumption) rA (hq.mono (by assumption)) ⟨⟨y, rfl, e1.mono (by assumption)⟩, trivial⟩ fun s4 C4 => ?_
    exact ⟨_, by simp, C4.sub fun _ _ h => (nomatch h)⟩
  · intro s4 G4 C4 le4
    have hal : (List.range [Value.ref x].length).all (fun _ => r1) = r1 := by simp
    rw [hal]
    replace ha := ha.mono le4
    replace hb := hb.mono le4
    replace hp := hp.mono le4
    replace hq := hq.mono le4
    replace e2 := e2.mono le4
    replace h2 := h2.mono le4
    replace h4 := h4.mono le4
    cases r1 with
    | false =>
      repeat walk1
      exact hR _ (W0.weaken (Cx.wd (by assumption)) (Ps.le (Cx.ps (by assumption)))) (Ps.weaken (Cx.ps (by assumption)))
    | true =>
      repeat walk1
      show wpAny _ _ _ _ _ _
      refine R_allgen (by assumption) (rm'.le (k' := (n + 1) + 2) (by omega)) (c := 89) (P := 85) (t := tq) (vs := [.ref y]) (f := fun _ => r2) (by rfl) (by rfl) (by rfl) (by rfl) (by rfl) (by kernel_rfl) (by decide) (by decide) (by rfl) (by rfl) (by decide) (by rfl) (by rfl) (by rfl) (fun _ => rfl) (by k_is) (by k_is) (by k_is) (by kernel_rfl) ?_ hq ?_ ?_
      · intro Q' hQ'
        repeat walk1
        exact hQ' _ (by assumption)
      · intro sb i v G3 L' cd s3 mu' A' E' hvi le C3 rA
        have hi : i = 0 := by
          cases i with
          | zero => rfl
          | succ i => simp at hvi
        subst hi
        cases hvi
        repeat walk1
        refine R_inT (vs := [.ref x]) (rs := [r2]) (by assumption) rA (hp.mono (by assumption)) ⟨⟨x, rfl, e2.mono (by assumption)⟩, trivial⟩ fun s5 C5 => ?_
        exact ⟨_, by simp, C5.sub fun _ _ h => (nomatch h)⟩
      · intro s5 G5 C5 le5
        have hal2 : (List.range [Value.ref y].length).all (fun _ => r2) = r2 := by simp
        rw [hal2]
        repeat walk1
        exact hR _ (W0.weaken (Cx.wd (by assumption)) (Ps.le (Cx.ps (by assumption)))) (Ps.weaken (Cx.ps (by assumption)))
end
-- part C9
section
variable {w : World} {G : Km}
theorem eqF {P : Params} {D : Addr} (hD : D ∈ exCls) : findIn (K0 P) (.ref D) "__eq__" = some (some (.ref (eqFn D))) ∧ isFn (K0 P) (.ref (eqFn D)) = true := by
  have t := eq_tab (P := P) hD
  simp only [Bool.and_eq_true, beq_iff_eq] at t
  exact ⟨t.1.1.1, t.1.1.2⟩
theorem cmpEq {a b D D' : Addr} {la lb : List (Str × Value)} {A : Around} {E : Value → Shared → Prop} {s : Shared} {Q : Value → Shared → Prop} (W : Wd w G s) (hu : A.units < cLine) (Ia : ObjAt G a D la) (Ib : ObjAt G b D' lb) (hD : D ∈ exCls) (hD' : D' ∈ exCls)
    (h : codeAny (MD w) A (.call (.ref (eqFn D)) ⟨[.ref a, .ref b], []⟩) (fun r s1 => ∃ v, r = .ok (.ret v) ∧ ((v ≠ .notImplemented ∧ Q v s1) ∨ (v = .notImplemented ∧ ∃ G1, Wd w G1 s1 ∧ G.le G1 ∧
      codeAny (MD w) A (.call (.ref (eqFn D')) ⟨[.ref b, .ref a], []⟩) (fun r s2 => ∃ v, r = .ok (.ret v) ∧ ((v ≠ .notImplemented ∧ Q v s2) ∨ (v = .notImplemented ∧ CmpOp.Eq = .Eq ∧ a ≠ b ∧ ∃ G2, Wd w G2 s2 ∧ G1.le G2 ∧ Q (.bool false) s2))) s1))) s) :
    wpAny (MD w) A (richCompare .Eq (.ref a) (.ref b)) Q E s :=
  R_cmp (op := .Eq) W hu Ia Ib hD hD' (eqF hD).1 (eqF hD).2 (eqF hD').1 (eqF hD').2 h
theorem eqP_sym {a b : Addr} {n1 n2 : Str} (ha : SymAt G a n1) (hb : SymAt G b n2) (hab : a ≠ b) : EqP w 3 G a b (n1 == n2) := fun A E s G' Q W le rm hQ => by
  have ha' := ha.mono le
  have hb' := hb.mono le
  obtain ⟨p1, t1, u1, Ia, _⟩ := id ha'
  obtain ⟨p2, t2, u2, Ib, _⟩ := id hb'
  exact cmpEq W rm.units Ia Ib (by decide) (by decide) (sym_eq W (rm.le (by decide)) ha' hb' hab fun s' G2 W' P' => ⟨_, rfl, .inl ⟨nofun, hQ s' (W.weaken W' P'.le) P'.weaken⟩⟩)
-- a Symbol or a NOT against a Symbol or a NOT of the other kind
theorem eqP_symNot {a b : Addr} {la lb : List (Str × Value)} (ha : ObjAt G a 344 la) (hb : ObjAt G b 440 lb) (hab : a ≠ b) : EqP w 3 G a b false := fun A E s G' Q W le rm hQ => by
  have ha' := ha.mono le
  have hb' := hb.mono le
  refine cmpEq W rm.units ha' hb' (by decide) (by decide) (sym_ne W (rm.le (by decide)) ha' hb' (by decide) hab (by decide) fun s' G2 W' P' => ⟨_, rfl, .inr ⟨rfl, G2, W', P'.le, ?_⟩⟩)
  exact expr_ni W' (rm.le (by decide)) (hb'.mono P'.le) (ha'.mono P'.le) (by decide) (by decide) (by decide) (by decide) (Ne.symm hab) fun s2 W2 P2 =>
    ⟨_, rfl, .inr ⟨rfl, rfl, hab, G2, W2, Km.le.refl _, hQ s2 (W.weaken W2 P'.le) (P'.trans P2).weaken⟩⟩
theorem eqP_notSym {a b : Addr} {la lb : List (Str × Value)} (ha : ObjAt G a 440 la) (hb : ObjAt G b 344 lb) (hab : a ≠ b) : EqP w 3 G a b false := fun A E s G' Q W le rm hQ => by
  have ha' := ha.mono le
  have hb' := hb.mono le
  refine cmpEq W rm.units ha' hb' (by decide) (by decide) (expr_ni W (rm.le (by decide)) ha' hb' (by decide) (by decide) (by decide) (by decide) hab fun s' W' P' => ⟨_, rfl, .inr ⟨rfl, G', W', Km.le.refl _, ?_⟩⟩)
  exact sym_ne W' (rm.le (by decide)) hb' ha' (by decide) (Ne.symm hab) (by decide) fun s2 G2 W2 P2 =>
    ⟨_, rfl, .inr ⟨rfl, rfl, hab, G2, W2, P2.le, hQ s2 (W.weaken W2 P2.le) (P'.trans P2).weaken⟩⟩
def cA (b : Bool) : Addr := if b then 284 else 288
def cD (b : Bool) : Addr := if b then 232 else 280
theorem cst_ex (b : Bool) : cD b ∈ exCls := by cases b <;> decide
theorem cst_at {s : Shared} (W : Wd w G s) (b : Bool) : ∃ l, ObjAt G (cA b) (cD b) l := by
  cases b
  · exact ⟨_, false_obj W⟩
  · exact ⟨_, true_obj W⟩
theorem cst_eq {b : Bool} {x D : Addr} {A : Around} {s : Shared} {l : List (Str × Value)} {R : Result → Shared → Prop} (W : Wd w G s) (rm : Rm A 2) (hx : ObjAt G x D l) (hD : D ∈ exCls) (hn : cA b ≠ x) (hi : isiTab D (cD b) = false)
    (hR : ∀ s', Wd w G s' → Ps [] s G s' G → R (.ok (.ret (.bool false))) s') : codeAny (MD w) A (.call (.ref (eqFn (cD b))) ⟨[.ref (cA b), .ref x], []⟩) R s := by
  cases b with
  | true => exact true_eq W rm hx hD hn hi fun s' G' W' P' => hR s' (W.weaken W' P'.le) P'.weaken
  | false => exact false_eq W rm hx hD hn hi fun s' G' W' P' => hR s' (W.weaken W' P'.le) P'.weaken
-- a constant against anything else
theorem eqP_cst {b : Bool} {x D : Addr} {l : List (Str × Value)} (hx : ObjAt G x D l) (hD : D ∈ exCls) (hn : cA b ≠ x) (hi : isiTab D (cD b) = false) : EqP w 3 G (cA b) x false := fun A E s G' Q W le rm hQ => by
  obtain ⟨lc, hc⟩ := cst_at W b
  exact cmpEq W rm.units hc (hx.mono le) (cst_ex b) hD (cst_eq W (rm.le (by decide)) (hx.mono le) hD hn hi fun s' W' P' => ⟨_, rfl, .inl ⟨nofun, hQ s' W' P'⟩⟩)
-- anything else against a constant
theorem eqP_toCst {b : Bool} {x D : Addr} {l : List (Str × Value)} (hx : ObjAt G x D l) (hD : D ∈ exCls) (hn : x ≠ cA b) (hi : isiTab D (cD b) = false) (hi' : isiTab (cD b) D = false) (hT : D ∈ tgCls) (h90 : eqFn D = 90 ∨ D = 344) : EqP w 3 G x (cA b) false := fun A E s G' Q W le rm hQ => by
  obtain ⟨lc, hc⟩ := cst_at W b
  have hx' := hx.mono le
  refine cmpEq W rm.units hx' hc hD (cst_ex b) ?_
  rcases h90 with h90 | rfl
  · rw [h90]
    refine expr_ni W (rm.le (by decide)) hx' hc hD (cst_ex b) hT hi' hn fun s' W' P' => ⟨_, rfl, .inr ⟨rfl, G', W', Km.le.refl _, ?_⟩⟩
    exact cst_eq W' (rm.le (by decide)) hx' hD (Ne.symm hn) hi fun s2 W2 P2 => ⟨_, rfl, .inl ⟨nofun, hQ s2 W2 (P'.trans P2)⟩⟩
  · refine sym_ne W (rm.le (by decide)) hx' hc (cst_ex b) hn hi' fun s' G2 W' P' => ⟨_, rfl, .inr ⟨rfl, G2, W', P'.le, ?_⟩⟩
    exact cst_eq W' (rm.le (by decide)) (hx'.mono P'.le) hD (Ne.symm hn) hi fun s2 W2 P2 => ⟨_, rfl, .inl ⟨nofun, hQ s2 (W.weaken W2 P'.le) (P'.trans P2).weaken⟩⟩
theorem eqP_not {a b x y tp tq : Addr} {la lb : List (Str × Value)} {r1 r2 : Bool} (ha : ObjAt G a 440 la) (hla : la.lookup (Str.ofString "args") = some (.ref tp)) (hp : TupAt G tp [.ref x])
    (hb : ObjAt G b 440 lb) (hlb : lb.lookup (Str.ofString "args") = some (.ref tq)) (hq : TupAt G tq [.ref y]) (hab : a ≠ b) (e1 : EqB w 3 G y x r1) (e2 : EqB w 3 G x y r2) : EqP w 7 G a b (r1 && r2) := fun A E s G' Q W le rm hQ =>
  cmpEq W rm.units (ha.mono le) (hb.mono le) (by decide) (by decide) (not_not (n := 3) W (rm.le (by decide)) (ha.mono le) hla (hp.mono le) (hb.mono le) hlb (hq.mono le) hab (e1.mono le) (e2.mono le) fun s' W' P' => ⟨_, rfl, .inl ⟨nofun, hQ s' W' P'⟩⟩)
end
-- part C10
section
variable {X : List Addr} {w : World} {s₀ s s' : Shared} {G₀ G G' : Km} {L : Addr} {m : List (Str × Value)} {mu : List (Addr × Obj)} {A : Around} {E : Value → Shared → Prop} {R : Result → Shared → Prop}
theorem true_dual (W : Wd w G s) (rm : Rm A 1) (hR : ∀ s', Wd w G s' → Ps [] s G s' G → R (.ok (.ret (.ref 288))) s') : codeAny (MD w) A (.call (.ref 200) ⟨[.ref 284], []⟩) R s := by
  refine R_enter [(Str.ofString "self", .ref 284)] (k := 0) (st := mthAt 8 0) (qual := "_TRUE.dual") (cl := []) (dV := .none) (pm := .str "boolean.boolean" 194) (cdv := .ref 199) (ct := .none) (by kernel_rfl) (by k_is) W rm (BindsTo.of_eq rfl) (by decide) (by rfl) rfl rfl rfl rfl fun L s1 C rm' => ?_
  repeat walk1
  exact hR _ (W.weaken (Cx.wd (by assumption)) (Ps.le (Cx.ps (by assumption)))) (Ps.weaken (Cx.ps (by assumption)))
theorem false_dual (W : Wd w G s) (rm : Rm A 1) (hR : ∀ s', Wd w G s' → Ps [] s G s' G → R (.ok (.ret (.ref 284))) s') : codeAny (MD w) A (.call (.ref 248) ⟨[.ref 288], []⟩) R s := by
  refine R_enter [(Str.ofString "self", .ref 288)] (k := 0) (st := mthAt 9 0) (qual := "_FALSE.dual") (cl := []) (dV := .none) (pm := .str "boolean.boolean" 194) (cdv := .ref 247) (ct := .none) (by kernel_rfl) (by k_is) W rm (BindsTo.of_eq rfl) (by decide) (by rfl) rfl rfl rfl rfl fun L s1 C rm' => ?_
  repeat walk1
  exact hR _ (W.weaken (Cx.wd (by assumption)) (Ps.le (Cx.ps (by assumption)))) (Ps.weaken (Cx.ps (by assumption)))
def propOk (K : Frag) (D p f : Addr) : Bool := plainGet K D "dual" && hasDictIn K D && (findIn K (.ref D) "dual" == some (some (.ref p))) && (specialIn K (.ref p) "__get__" == some (some (.builtin "property.__get__"))) && (takesIn K (.ref p) == some true) &&
  (match recIn K p "property" with | some (.ref g :: _) => g == f | _ => false)
theorem prop_true {P : Params} : propOk (K0 P) 232 201 200 = true := by kernel_rfl
theorem prop_false {P : Params} : propOk (K0 P) 280 249 248 = true := by kernel_rfl
theorem get_dual {x D p f : Addr} {l : List (Str × Value)} {expr : Bool} {Q : Value → Shared → Prop} (C : Cx X w s₀ G₀ G L m mu s) (I : ObjH s.heap x D l) (hk : propOk (K0 w.params) D p f = true)
    (h : ∀ s', Cx X w s₀ G₀ G L m mu s' → codeAny (MD w) A.in1 (.call (.ref f) ⟨[.ref x], []⟩) (fun r s'' => ∃ v, r = .ok (.ret v) ∧ handedIn v = true ∧ Q v s'') s') : wpAny (MD w) A (getAttr (.ref x) "dual" expr) Q E s := by
  unfold propOk at hk
  simp only [Bool.and_eq_true, beq_iff_eq] at hk
  obtain ⟨⟨⟨⟨⟨o1, o2⟩, o3⟩, o4⟩, o5⟩, o6⟩ := hk
  split at o6
  · rename_i g rest hp
    have := beq_iff_eq.mp o6
    subst this
    obtain ⟨d, es, n, I, he⟩ := I.inst
    refine get_bind C.inn I (plainGet_of o1).1 (findObj_data (by obtain ⟨cd, hc, _⟩ := any_some o2; rw [hc]; rfl) o3 o4 o5) (plainGet_of o1).2 (wpAny_call (prop_get (s := { s with toks := s.toks + 1 }) C.inn hp ?_))
    refine codeAny_mono (h _ (C.toks (s.toks + 1))) fun r s'' hr => ?_
    obtain ⟨v, rfl, hh, hq⟩ := hr
    exact handed_on hh hq
  · cases o6
theorem R_dual {b : Bool} {expr : Bool} {Q : Value → Shared → Prop} (C : Cx X w s₀ G₀ G L m mu s) (rm : Rm A 2) (h : ∀ s', Cx X w s₀ G₀ G L m mu s' → Q (.ref (cA (!b))) s') : wpAny (MD w) A (getAttr (.ref (cA b)) "dual" expr) Q E s := by
  cases b with
  | true => exact get_dual C ((true_obj C.wd).here C.wd) prop_true fun s1 C1 => true_dual C1.wd rm.in1 fun s' W' P' => ⟨_, rfl, rfl, h s' (C1.after W' P')⟩
  | false => exact get_dual C ((false_obj C.wd).here C.wd) prop_false fun s1 C1 => false_dual C1.wd rm.in1 fun s' W' P' => ⟨_, rfl, rfl, h s' (C1.after W' P')⟩
-- BaseElement.made_dual
theorem base_dual {b : Bool} {v : Value} (W : Wd w G s) (rm : Rm A 3) (hR : ∀ s', Wd w G s' → Ps [] s G s' G → R (.ok (.ret (.ref (cA (!b))))) s') : codeAny (MD w) A (.call (.ref 174) ⟨[.ref (cA b), v], []⟩) R s := by
  refine R_enter [(Str.ofString "args", v), (Str.ofString "self", .ref (cA b))] (k := 2) (st := mthAt 7 2) (qual := "BaseElement.made_dual") (cl := []) (dV := .none) (pm := .str "boolean.boolean" 194) (cdv := .ref 173) (ct := .none) (by kernel_rfl) (by k_is) W rm (BindsTo.of_eq rfl) (by decide) (by rfl) rfl rfl rfl rfl fun L s1 C rm' => ?_
  repeat walk1
  refine R_dual C rm' fun s' C' => ?_
  repeat walk1
  exact hR _ (W.weaken (Cx.wd (by assumption)) (Ps.le (Cx.ps (by assumption)))) (Ps.weaken (Cx.ps (by assumption)))
-- is_dual
theorem and_isDual {v : Value} {b D : Addr} {l : List (Str × Value)} (W : Wd w G s) (rm : Rm A 1) (hb : ObjAt G b D l) (hD : D ∈ exCls) (hR : ∀ s', Wd w G s' → Ps [] s G s' G → R (.ok (.ret (.bool (isiTab D 612)))) s') : codeAny (MD w) A (.call (.ref 553) ⟨[v, .ref b], []⟩) R s := by
  refine R_enter [(Str.ofString "expr", .ref b), (Str.ofString "self", v)] (k := 0) (st := mthAt 16 3) (qual := "AND.is_dual") (cl := []) (dV := .none) (pm := .str "boolean.boolean" 194) (cdv := .ref 552) (ct := .none) (by kernel_rfl) (by k_is) W rm (BindsTo.of_eq rfl) (by decide) (by rfl) rfl rfl rfl rfl fun L s1 C rm' => ?_
  repeat walk1
  refine R_isi (by assumption) (by walk_at "m_obj") hD (by decide) fun s3 C3 => ?_
  exact hR _ (W.weaken (Cx.wd (by assumption)) (Ps.le (Cx.ps (by assumption)))) (Ps.weaken (Cx.ps (by assumption)))
theorem or_isDual {v : Value} {b D : Addr} {l : List (Str × Value)} (W : Wd w G s) (rm : Rm A 1) (hb : ObjAt G b D l) (hD : D ∈ exCls) (hR : ∀ s', Wd w G s' → Ps [] s G s' G → R (.ok (.ret (.bool (isiTab D 563)))) s') : codeAny (MD w) A (.call (.ref 602) ⟨[v, .ref b], []⟩) R s := by
  refine R_enter [(Str.ofString "expr", .ref b), (Str.ofString "self", v)] (k := 0) (st := mthAt 17 3) (qual := "OR.is_dual") (cl := []) (dV := .none) (pm := .str "boolean.boolean" 194) (cdv := .ref 601) (ct := .none) (by kernel_rfl) (by k_is) W rm (BindsTo.of_eq rfl) (by decide) (by rfl) rfl rfl rfl rfl fun L s1 C rm' => ?_
  repeat walk1
  refine R_isi (by assumption) (by walk_at "m_obj") hD (by decide) fun s3 C3 => ?_
  exact hR _ (W.weaken (Cx.wd (by assumption)) (Ps.le (Cx.ps (by assumption)))) (Ps.weaken (Cx.ps (by assumption)))
def isDualFn (k : Bool) : Addr := if k then 553 else 602
theorem isDual_k {k : Bool} {v : Value} {b D : Addr} {l : List (Str × Value)} (W : Wd w G s) (rm : Rm A 1) (hb : ObjAt G b D l) (hD : D ∈ exCls) (hR : ∀ s', Wd w G s' → Ps [] s G s' G → R (.ok (.ret (.bool (isiTab D (grpOf (!k)))))) s') : codeAny (MD w) A (.call (.ref (isDualFn k)) ⟨[v, .ref b], []⟩) R s := by
  cases k with
  | true => exact and_isDual W rm hb hD hR
  | false => exact or_isDual W rm hb hD hR
end
-- literals, dens
abbrev Lit := Str × Bool
def LitAt (G : Km) (a : Addr) : Lit → Prop
  | (nm, false) => SymAt G a nm
  | (nm, true) => ∃ x ca, NotOf G a x ca ∧ SymAt G x nm
theorem LitAt.mono {G G' : Km} {a : Addr} {l : Lit} (h : G.le G') (x : LitAt G a l) : LitAt G' a l := by
  obtain ⟨nm, b⟩ := l
  cases b with
  | false => exact SymAt.mono h x
  | true => exact let ⟨y, ca, h1, h2⟩ := x; ⟨y, ca, h1.mono h, h2.mono h⟩
def LitsAt (G : Km) : List Value → List Lit → Prop
  | [], [] => True
  | v :: vs, l :: ls => (∃ a, v = .ref a ∧ LitAt G a l) ∧ LitsAt G vs ls
  | _, _ => False
theorem LitsAt.mono {G G' : Km} (h : G.le G') : ∀ {vs : List Value} {ls : List Lit}, LitsAt G vs ls → LitsAt G' vs ls
  | [], [], _ => trivial
  | _ :: _, _ :: _, ⟨⟨a, e, x⟩, r⟩ => ⟨⟨a, e, x.mono h⟩, r.mono h⟩
theorem LitsAt.len {G : Km} : ∀ {vs : List Value} {ls : List Lit}, LitsAt G vs ls → vs.length = ls.length
  | [], [], _ => rfl
  | _ :: _, _ :: _, ⟨_, r⟩ => congrArg (· + 1) r.len
abbrev Den := Option (List Lit)
def flipL (l : Lit) : Lit := (l.1, !l.2)
def flipD (D : Den) : Den := D.map (·.map flipL)
def IsB (G : Km) (a : Addr) (k : Bool) : Den → Prop
  | none => a = cA (!k)
  | some [] => a = cA k
  | some [l] => LitAt G a l
  | some (l₁ :: l₂ :: ls) => ∃ vs ca, GrpAt G a k vs ca ∧ LitsAt G vs (l₁ :: l₂ :: ls)
theorem IsB.mono {G G' : Km} (h : G.le G') {a : Addr} {k : Bool} {D : Den} (x : IsB G a k D) : IsB G' a k D := by
  match D, x with
  | none, x => exact x
  | some [], x => exact x
  | some [l], x => exact LitAt.mono h x
  | some (l₁ :: l₂ :: ls), ⟨vs, ca, h1, h2⟩ => exact ⟨vs, ca, h1.mono h, h2.mono h⟩
def IsRes (G : Km) (a : Addr) (k : Bool) (D : Den) : Prop := IsB G a k D ∨ ∃ x ca D', flipD D' = D ∧ NotOf G a x ca ∧ IsB G x (!k) D'
theorem IsRes.mono {G G' : Km} (h : G.le G') {a : Addr} {k : Bool} {D : Den} (x : IsRes G a k D) : IsRes G' a k D := x.imp (IsB.mono h) fun ⟨y, ca, D', e, h1, h2⟩ => ⟨y, ca, D', e, h1.mono h, h2.mono h⟩
-- part C11
section
variable {X : List Addr} {w : World} {s₀ s s' : Shared} {G₀ G G' : Km} {L : Addr} {m : List (Str × Value)} {mu : List (Addr × Obj)} {A : Around} {E : Value → Shared → Prop} {R : Result → Shared → Prop}
theorem R_mkNot {b Db : Addr} {lb : List (Str × Value)} {Q : Value → Shared → Prop} (C : Cx X w s₀ G₀ G L m mu s) (rm : Rm A 10) (hb : ObjAt G b Db lb) (hD : Db ∈ exCls) (h : ∀ s' G' x, G.le G' → NotOf G' x b false → Cx X w s₀ G₀ G' L m mu s' → Q (.ref x) s') :
    wpAny (MD w) A (call (.ref 440) [.ref b]) Q E s := by
  refine wpAny_call (mk_not C.wd rm hb hD fun s' G' x d tp t1 N ht => ?_)
  obtain ⟨G2, W2, P2, O2, le2⟩ := N.freeze
  exact h s' G2 x P2.le ⟨Db, lb, tp, t1, hb.mono P2.le, hD, O2, ht.mono le2⟩ (C.after W2 P2)
theorem R_cancel {n : Nat} {a b Db : Addr} {lb : List (Str × Value)} {Q : Value → Shared → Prop} (C : Cx X w s₀ G₀ G L m mu s) (rm : Rm A 3) (hch : NotCh G (n + 1) a b) (hb : ObjAt G b Db lb) (hD : Db ∈ exCls) (hn : isiTab Db 440 = false)
    (h : ∀ s' r, NotCh G ((n + 1) % 2) r b → Cx X w s₀ G₀ G L m mu s' → Q (.ref r) s') : wpAny (MD w) A (call (.ref 418) [.ref a]) Q E s :=
  wpAny_call (cancel_ch C.wd rm hch hb hD hn fun s' G' r W' P' hr => h s' r hr (C.after (C.wd.weaken W' P'.le) P'.weaken))
theorem LitAt.obj {a : Addr} {l : Lit} (h : LitAt G a l) : ∃ D lb, ObjAt G a D lb ∧ D ∈ exCls ∧ D ∈ tgCls ∧ isiTab D 563 = false ∧ isiTab D 612 = false ∧ isiTab D 232 = false ∧ isiTab D 280 = false := by
  obtain ⟨nm, b⟩ := l
  cases b with
  | false => exact let ⟨tp, t1, t2, h1, _⟩ := h; ⟨344, _, h1, by decide, by decide, by decide, by decide, by decide, by decide⟩
  | true => exact let ⟨x, ca, ⟨Db, lb, tp, t1, _, _, h3, _⟩, _⟩ := h; ⟨440, _, h3, by decide, by decide, by decide, by decide, by decide, by decide⟩
theorem LitAt.ex {a : Addr} {l : Lit} (h : LitAt G a l) : IsEx G (.ref a) := let ⟨D, lb, h1, h2, _⟩ := h.obj; ⟨a, D, lb, rfl, h1, h2⟩
-- NOT(arg).cancel()
theorem neg_lit {a x : Addr} {l : Lit} {Q : Value → Shared → Prop} (C : Cx X w s₀ G₀ G L m mu s) (rm : Rm A 3) (hl : LitAt G a l) (hx : NotOf G x a false) (h : ∀ s' r, LitAt G r (flipL l) → Cx X w s₀ G₀ G L m mu s' → Q (.ref r) s') :
    wpAny (MD w) A (call (.ref 418) [.ref x]) Q E s := by
  obtain ⟨nm, b⟩ := l
  cases b with
  | false =>
    obtain ⟨tp, t1, t2, h1, h2⟩ := id hl
    refine R_cancel (n := 0) C rm ⟨a, false, hx, rfl⟩ h1 (by decide) (by decide) fun s' r hr C' => h s' r ?_ C'
    obtain ⟨a', ca, hr, e⟩ := hr
    cases e
    exact ⟨_, ca, hr, hl⟩
  | true =>
    obtain ⟨y, ca, hy, hs⟩ := hl
    obtain ⟨tp, t1, t2, h1, h2⟩ := id hs
    refine R_cancel (n := 1) C rm ⟨a, false, hx, y, ca, hy, rfl⟩ h1 (by decide) (by decide) fun s' r hr C' => h s' r ?_ C'
    cases hr
    exact hs
-- demorgan on a NOT of a constant
theorem cst_args {b : Bool} (W : Wd w G s) : ∃ l tp, ObjAt G (cA b) (cD b) l ∧ l.lookup (Str.ofString "args") = some (.ref tp) ∧ TupAt G tp [] := by
  cases b with
  | true => exact ⟨_, 286, true_obj W, by with_unfolding_all rfl, W.kin _ _ (by kernel_rfl)⟩
  | false => exact ⟨_, 290, false_obj W, by with_unfolding_all rfl, W.kin _ _ (by kernel_rfl)⟩
theorem dm_sym {a x : Addr} {ca : Bool} {nm : Str} (W : Wd w G s) (rm : Rm A 20) (ha : NotOf G a x ca) (hx : SymAt G x nm) (hR : ∀ s' r, Wd w G s' → Ps [] s G s' G → LitAt G r (nm, true) → R (.ok (.ret (.ref r))) s') :
    codeAny (MD w) A (.call (.ref 423) ⟨[.ref a], []⟩) R s := by
  refine R_enter [(Str.ofString "self", .ref a)] (k := 19) (st := mthAt 14 5) (qual := "NOT.demorgan") (cl := []) (dV := .none) (pm := .str "boolean.boolean" 194) (cdv := .ref 422) (ct := .none) (by kernel_rfl) (by k_is) W rm (BindsTo.of_eq rfl) (by decide) (by rfl) rfl rfl rfl rfl fun L s1 C rm' => ?_
  obtain ⟨tp, t1, t2, h1, h2⟩ := id hx
  obtain ⟨Db, lb, tq, u1, k1, k2, k3, k4⟩ := id ha
  cases ObjAt.same k1 h1
  repeat walk1
  refine R_cancel (n := 0) (by assumption) (rm'.le (by decide)) ⟨x, ca, ha, rfl⟩ h1 (by decide) (by decide) fun s2 r hr C2 => ?_
  obtain ⟨a', ca', hr, e⟩ := hr
  cases e
  obtain ⟨Db, lb', tr, v1, j1, j2, j3, j4⟩ := id hr
  cases ObjAt.same j1 h1
  repeat walk1
  exact hR _ _ (W.weaken (Cx.wd (by assumption)) (Ps.le (Cx.ps (by assumption)))) (Ps.weaken (Cx.ps (by assumption))) ⟨_, ca', hr, hx⟩
theorem dm_not {a x y : Addr} {ca ca' : Bool} {nm : Str} (W : Wd w G s) (rm : Rm A 20) (ha : NotOf G a x ca) (hx : NotOf G x y ca') (hy : SymAt G y nm) (hR : ∀ s' r, Wd w G s' → Ps [] s G s' G → LitAt G r (nm, false) → R (.ok (.ret (.ref r))) s') :
    codeAny (MD w) A (.call (.ref 423) ⟨[.ref a], []⟩) R s := by
  refine R_enter [(Str.ofString "self", .ref a)] (k := 19) (st := mthAt 14 5) (qual := "NOT.demorgan") (cl := []) (dV := .none) (pm := .str "boolean.boolean" 194) (cdv := .ref 422) (ct := .none) (by kernel_rfl) (by k_is) W rm (BindsTo.of_eq rfl) (by decide) (by rfl) rfl rfl rfl rfl fun L s1 C rm' => ?_
  obtain ⟨tp, t1, t2, h1, h2⟩ := id hy
  obtain ⟨Db, lb, tq, u1, k1, k2, k3, k4⟩ := id ha
  repeat walk1
  refine R_cancel (n := 1) (by assumption) (rm'.le (by decide)) ⟨x, ca, ha, y, ca', hx, rfl⟩ h1 (by decide) (by decide) fun s2 r hr C2 => ?_
  cases hr
  repeat walk1
  exact hR _ _ (W.weaken (Cx.wd (by assumption)) (Ps.le (Cx.ps (by assumption)))) (Ps.weaken (Cx.ps (by assumption))) hy
theorem dm_true {a : Addr} {ca : Bool} (W : Wd w G s) (rm : Rm A 20) (ha : NotOf G a 284 ca) (hR : ∀ s', Wd w G s' → Ps [] s G s' G → R (.ok (.ret (.ref 288))) s') :
    codeAny (MD w) A (.call (.ref 423) ⟨[.ref a], []⟩) R s := by
  refine R_enter [(Str.ofString "self", .ref a)] (k := 19) (st := mthAt 14 5) (qual := "NOT.demorgan") (cl := []) (dV := .none) (pm := .str "boolean.boolean" 194) (cdv := .ref 422) (ct := .none) (by kernel_rfl) (by k_is) W rm (BindsTo.of_eq rfl) (by decide) (by rfl) rfl rfl rfl rfl fun L s1 C rm' => ?_
  have h1 : ObjAt G 284 232 trueL := true_obj W
  have h2 : TupAt G 286 [] := W.kin _ _ (by kernel_rfl)
  obtain ⟨Db, lb, tq, u1, k1, k2, k3, k4⟩ := id ha
  cases ObjAt.same k1 h1
  clear k1
  repeat walk1
  refine R_cancel (n := 0) (by assumption) (rm'.le (by decide)) ⟨284, ca, ha, rfl⟩ h1 (by decide) (by decide) fun s2 r hr C2 => ?_
  obtain ⟨a', ca', hr, e⟩ := hr
  cases e
  obtain ⟨Db, lb', tr, v1, j1, j2, j3, j4⟩ := id hr
  cases ObjAt.same j1 h1
  clear j1
  have e0 : isiTab 232 344 = false := by decide
  rw [e0] at j3
  repeat walk1
  show wpAny _ _ _ _ _ _
  refine R_comp (t := 286) (vs := []) (fun _ _ _ => True) (fun _ _ _ _ _ _ => trivial) rm'.1 (by assumption) (h2.mono (Ps.le (Cx.ps (by assumption)))) (by decide) (by rfl) (by decide) (by rfl) (by decide) (by rfl) ?_ (fun sb i v G' L' s' mu' E' hv => by simp at hv) (fun _ => rfl) ?_
  · intro Q' hQ'
    repeat walk1
    exact hQ' _ (by assumption)
  · intro s3 G3 ys n l hl hp le3 C3
    repeat walk1
    refine wpAny_call (base_dual (b := true) (Cx.wd (by assumption)) (rm'.le (by decide)) fun s4 W4 P4 => ?_)
    have C4 := Cx.after (by assumption) W4 P4
    exact hR _ (W.weaken (Cx.wd (by assumption)) (Ps.le (Cx.ps (by assumption)))) (Ps.weaken (Cx.ps (by assumption)))
theorem dm_false {a : Addr} {ca : Bool} (W : Wd w G s) (rm : Rm A 20) (ha : NotOf G a 288 ca) (hR : ∀ s', Wd w G s' → Ps [] s G s' G → R (.ok (.ret (.ref 284))) s') :
    codeAny (MD w) A (.call (.ref 423) ⟨[.ref a], []⟩) R s := by
  refine R_enter [(Str.ofString "self", .ref a)] (k := 19) (st := mthAt 14 5) (qual := "NOT.demorgan") (cl := []) (dV := .none) (pm := .str "boolean.boolean" 194) (cdv := .ref 422) (ct := .none) (by kernel_rfl) (by k_is) W rm (BindsTo.of_eq rfl) (by decide) (by rfl) rfl rfl rfl rfl fun L s1 C rm' => ?_
  have h1 : ObjAt G 288 280 falseL := false_obj W
  have h2 : TupAt G 290 [] := W.kin _ _ (by kernel_rfl)
  obtain ⟨Db, lb, tq, u1, k1, k2, k3, k4⟩ := id ha
  cases ObjAt.same k1 h1
  clear k1
  repeat walk1
  refine R_cancel (n := 0) (by assumption) (rm'.le (by decide)) ⟨288, ca, ha, rfl⟩ h1 (by decide) (by decide) fun s2 r hr C2 => ?_
  obtain ⟨a', ca', hr, e⟩ := hr
  cases e
  obtain ⟨Db, lb', tr, v1, j1, j2, j3, j4⟩ := id hr
  cases ObjAt.same j1 h1
  clear j1
  have e0 : isiTab 280 344 = false := by decide
  rw [e0] at j3
  repeat walk1
  show wpAny _ _ _ _ _ _
  refine R_comp (t := 290) (vs := []) (fun _ _ _ => True) (fun _ _ _ _ _ _ => trivial) rm'.1 (by assumption) (h2.mono (Ps.le (Cx.ps (by assumption)))) (by decide) (by rfl) (by decide) (by rfl) (by decide) (by rfl) ?_ (fun sb i v G' L' s' mu' E' hv => by simp at hv) (fun _ => rfl) ?_
  · intro Q' hQ'
    repeat walk1
    exact hQ' _ (by assumption)
  · intro s3 G3 ys n l hl hp le3 C3
    repeat walk1
    refine wpAny_call (base_dual (b := false) (Cx.wd (by assumption)) (rm'.le (by decide)) fun s4 W4 P4 => ?_)
    have C4 := Cx.after (by assumption) W4 P4
    exact hR _ (W.weaken (Cx.wd (by assumption)) (Ps.le (Cx.ps (by assumption)))) (Ps.weaken (Cx.ps (by assumption)))
theorem dm_cst {b : Bool} {a : Addr} {ca : Bool} (W : Wd w G s) (rm : Rm A 20) (ha : NotOf G a (cA b) ca) (hR : ∀ s', Wd w G s' → Ps [] s G s' G → R (.ok (.ret (.ref (cA (!b))))) s') :
    codeAny (MD w) A (.call (.ref 423) ⟨[.ref a], []⟩) R s := by
  cases b with
  | true => exact dm_true W rm ha hR
  | false => exact dm_false W rm ha hR
theorem LitsAt.at : ∀ {vs : List Value} {ls : List Lit}, LitsAt G vs ls → ∀ {i : Nat} {v : Value}, vs[i]? = some v → ∃ a l, v = .ref a ∧ ls[i]? = some l ∧ LitAt G a l
  | [], [], _, i, v, h => by simp at h
  | u :: vs, l :: ls, ⟨⟨a, e, x⟩, r⟩, i, v, h => by
    cases i with
    | zero =>
      cases h
      exact ⟨a, l, e, rfl, x⟩
    | succ i => exact r.at (i := i) h
theorem lits_of : ∀ {ys : List Value} {ls : List Lit}, ys.length = ls.length → (∀ (i : Nat) (y : Value), ys[i]? = some y → ∃ r l, y = Value.ref r ∧ ls[i]? = some l ∧ LitAt G r (flipL l)) → LitsAt G ys (ls.map flipL)
  | [], [], _, _ => trivial
  | y :: ys, l :: ls, e, h => by
    obtain ⟨r, l', e1, e2, h1⟩ := h 0 y rfl
    cases e2
    exact ⟨⟨r, e1, h1⟩, lits_of (Nat.succ.inj e) fun i z hz => h (i + 1) z hz⟩
theorem LitsAt.exs : ∀ {vs : List Value} {ls : List Lit}, LitsAt G vs ls → ∀ v ∈ vs, IsEx G v
  | [], _, _, v, h => nomatch h
  | u :: vs, l :: ls, ⟨⟨a, e, x⟩, r⟩, v, h => by
    rcases List.mem_cons.mp h with rfl | h
    · exact e ▸ x.ex
    · exact r.exs v h
theorem dm_and {a x tp : Addr} {ca cx : Bool} {t1 t2 : Tok} {v1 v2 : Value} {vs : List Value} {ls : List Lit} (W : Wd w G s) (rm : Rm A 20) (ha : NotOf G a x ca) (hx : ObjAt G x 563 (grpL true tp cx t1 t2)) (ht : TupAt G tp (v1 :: v2 :: vs)) (hl : LitsAt G (v1 :: v2 :: vs) ls) (hz : vs.length ≤ 900)
    (hR : ∀ s' G' r vs', Wd w G' s' → Ps [] s G s' G' → GrpAt G' r (!true) vs' false → LitsAt G' vs' (ls.map flipL) → R (.ok (.ret (.ref r))) s') :
    codeAny (MD w) A (.call (.ref 423) ⟨[.ref a], []⟩) R s := by
  refine R_enter [(Str.ofString "self", .ref a)] (k := 19) (st := mthAt 14 5) (qual := "NOT.demorgan") (cl := []) (dV := .none) (pm := .str "boolean.boolean" 194) (cdv := .ref 422) (ct := .none) (by kernel_rfl) (by k_is) W rm (BindsTo.of_eq rfl) (by decide) (by rfl) rfl rfl rfl rfl fun L s1 C rm' => ?_
  obtain ⟨Db, lb, tq, u1, k1, k2, k3, k4⟩ := id ha
  cases ObjAt.same k1 hx
  clear k1
  repeat walk1
  refine R_cancel (n := 0) (by assumption) (rm'.le (by decide)) ⟨x, ca, ha, rfl⟩ hx (by decide) (by decide) fun s2 r hr C2 => ?_
  obtain ⟨a', ca', hr, e⟩ := hr
  cases e
  obtain ⟨Db, lb', tr, w1, j1, j2, j3, j4⟩ := id hr
  cases ObjAt.same j1 hx
  clear j1
  have e0 : isiTab 563 344 = false := by decide
  rw [e0] at j3
  repeat walk1
  show wpAny _ _ _ _ _ _
  refine R_comp (t := tp) (vs := v1 :: v2 :: vs) (fun G i y => ∃ r l, y = .ref r ∧ ls[i]? = some l ∧ LitAt G r (flipL l)) (fun G G' i y le ⟨r, l, h1, h2, h3⟩ => ⟨r, l, h1, h2, h3.mono le⟩) rm'.1 (by assumption) (ht.mono (Ps.le (Cx.ps (by assumption)))) (by simp only [List.length_cons]; omega) (by rfl) (by decide) (by rfl) (by decide) (by rfl) ?_ (fun sb i v G' L' s' mu' E' hv le C' => ?_) (fun _ => rfl) ?_
  · intro Q' hQ'
    repeat walk1
    exact hQ' _ (by assumption)
  · obtain ⟨b, l, rfl, hli, hb⟩ := (hl.mono le).at hv
    obtain ⟨Db, lb, o1, o2, _⟩ := hb.obj
    repeat walk1
    refine R_mkNot (by assumption) (rm'.le (by decide)) o1 o2 fun s4 G4 xn le4 hn C4 => ?_
    obtain ⟨Dn, ln, tn, un, n1, n2, n3, n4⟩ := id hn
    clear n1
    repeat walk1
    exact neg_lit (by assumption) (rm'.le (by decide)) (hb.mono le4) hn fun s5 r hr C5 => ⟨G4, le4, ⟨r, l, rfl, hli, hr⟩, C5.sub fun _ _ h => (nomatch h)⟩
  · intro s3 G3 ys n l hlen hp le3 C3
    have hys : LitsAt G3 ys (ls.map flipL) := lits_of (by rw [hlen]; exact hl.len) hp
    have hput : G3.le (G3.put l (lstObj ys n)) := Km.put_le (C3.new l (by simp)).2.1
    replace C3 := C3.freeze (fun h => nomatch h)
    repeat walk1
    have h2 : ys.length = vs.length + 2 := hlen
    match ys, hys, h2 with
    | y1 :: y2 :: ys, hys, h2 =>
      have hput' : SeqAt (G3.put l (lstObj (y1 :: y2 :: ys) n)) l (y1 :: y2 :: ys) := ⟨"list", n, .inl rfl, Km.put_self⟩
      have hysP := hys.mono hput
      refine wpAny_call (and_made_dual (Cx.wd C3) (rm'.le (by decide)) hput' hysP.exs (by simp only [List.length_cons] at h2; omega) fun s4 G4 r d tp4 u1 u2 N h4 => ?_)
      obtain ⟨G5, W5, P5, O5, le5⟩ := N.freeze
      exact hR _ _ _ _ W5 ((Cx.ps C3).trans P5) ⟨tp4, u1, u2, O5, h4.mono le5⟩ (hysP.mono P5.le)

theorem dm_or {a x tp : Addr} {ca cx : Bool} {t1 t2 : Tok} {v1 v2 : Value} {vs : List Value} {ls : List Lit} (W : Wd w G s) (rm : Rm A 20) (ha : NotOf G a x ca) (hx : ObjAt G x 612 (grpL false tp cx t1 t2)) (ht : TupAt G tp (v1 :: v2 :: vs)) (hl : LitsAt G (v1 :: v2 :: vs) ls) (hz : vs.length ≤ 900)
    (hR : ∀ s' G' r vs', Wd w G' s' → Ps [] s G s' G' → GrpAt G' r (!false) vs' false → LitsAt G' vs' (ls.map flipL) → R (.ok (.ret (.ref r))) s') :
    codeAny (MD w) A (.call (.ref 423) ⟨[.ref a], []⟩) R s := by
  refine R_enter [(Str.ofString "self", .ref a)] (k := 19) (st := mthAt 14 5) (qual := "NOT.demorgan") (cl := []) (dV := .none) (pm := .str "boolean.boolean" 194) (cdv := .ref 422) (ct := .none) (by kernel_rfl) (by k_is) W rm (BindsTo.of_eq rfl) (by decide) (by rfl) rfl rfl rfl rfl fun L s1 C rm' => ?_
  obtain ⟨Db, lb, tq, u1, k1, k2, k3, k4⟩ := id ha
  cases ObjAt.same k1 hx
  clear k1
  repeat walk1
  refine R_cancel (n := 0) (by assumption) (rm'.le (by decide)) ⟨x, ca, ha, rfl⟩ hx (by decide) (by decide) fun s2 r hr C2 => ?_
  obtain ⟨a', ca', hr, e⟩ := hr
  cases e
  obtain ⟨Db, lb', tr, w1, j1, j2, j3, j4⟩ := id hr
  cases ObjAt.same j1 hx
  clear j1
  have e0 : isiTab 612 344 = false := by decide
  rw [e0] at j3
  repeat walk1
  show wpAny _ _ _ _ _ _
  refine R_comp (t := tp) (vs := v1 :: v2 :: vs) (fun G i y => ∃ r l, y = .ref r ∧ ls[i]? = some l ∧ LitAt G r (flipL l)) (fun G G' i y le ⟨r, l, h1, h2, h3⟩ => ⟨r, l, h1, h2, h3.mono le⟩) rm'.1 (by assumption) (ht.mono (Ps.le (Cx.ps (by assumption)))) (by simp only [List.length_cons]; omega) (by rfl) (by decide) (by rfl) (by decide) (by rfl) ?_ (fun sb i v G' L' s' mu' E' hv le C' => ?_) (fun _ => rfl) ?_
  · intro Q' hQ'
    repeat walk1
    exact hQ' _ (by assumption)
  · obtain ⟨b, l, rfl, hli, hb⟩ := (hl.mono le).at hv
    obtain ⟨Db, lb, o1, o2, _⟩ := hb.obj
    repeat walk1
    refine R_mkNot (by assumption) (rm'.le (by decide)) o1 o2 fun s4 G4 xn le4 hn C4 => ?_
    obtain ⟨Dn, ln, tn, un, n1, n2, n3, n4⟩ := id hn
    clear n1
    repeat walk1
    exact neg_lit (by assumption) (rm'.le (by decide)) (hb.mono le4) hn fun s5 r hr C5 => ⟨G4, le4, ⟨r, l, rfl, hli, hr⟩, C5.sub fun _ _ h => (nomatch h)⟩
  · intro s3 G3 ys n l hlen hp le3 C3
    have hys : LitsAt G3 ys (ls.map flipL) := lits_of (by rw [hlen]; exact hl.len) hp
    have hput : G3.le (G3.put l (lstObj ys n)) := Km.put_le (C3.new l (by simp)).2.1
    replace C3 := C3.freeze (fun h => nomatch h)
    repeat walk1
    have h2 : ys.length = vs.length + 2 := hlen
    match ys, hys, h2 with
    | y1 :: y2 :: ys, hys, h2 =>
      have hput' : SeqAt (G3.put l (lstObj (y1 :: y2 :: ys) n)) l (y1 :: y2 :: ys) := ⟨"list", n, .inl rfl, Km.put_self⟩
      have hysP := hys.mono hput
      refine wpAny_call (or_made_dual (Cx.wd C3) (rm'.le (by decide)) hput' hysP.exs (by simp only [List.length_cons] at h2; omega) fun s4 G4 r d tp4 u1 u2 N h4 => ?_)
      obtain ⟨G5, W5, P5, O5, le5⟩ := N.freeze
      exact hR _ _ _ _ W5 ((Cx.ps C3).trans P5) ⟨tp4, u1, u2, O5, h4.mono le5⟩ (hysP.mono P5.le)
end
-- part C12
def litFn (D : Addr) : Addr := if D = 440 then 404 else 54
def simFn (D : Addr) : Addr := if D = 440 then 411 else if D = 563 then 471 else if D = 612 then 471 else 83
theorem meth_tab {P : Params} {D : Addr} (hD : D ∈ exCls) : (plainGet (K0 P) D "literalize" && (findIn (K0 P) (.ref D) "literalize" == some (some (.ref (litFn D)))) && isFn (K0 P) (.ref (litFn D)) && keepIn (K0 P) (.ref (litFn D)) &&
    plainGet (K0 P) D "simplify" && (findIn (K0 P) (.ref D) "simplify" == some (some (.ref (simFn D)))) && isFn (K0 P) (.ref (simFn D)) && keepIn (K0 P) (.ref (simFn D))) = true := by
  simp only [exCls, List.mem_cons, List.not_mem_nil, or_false] at hD
  rcases hD with rfl | rfl | rfl | rfl | rfl | rfl <;> kernel_rfl
def ExAt (G : Km) (a D : Addr) : Prop := ∃ l, ObjAt G a D l ∧ D ∈ exCls ∧ l.lookup (Str.ofString "literalize") = none ∧ l.lookup (Str.ofString "simplify") = none
theorem ExAt.mono {G G' : Km} {a D : Addr} (h : G.le G') (x : ExAt G a D) : ExAt G' a D := let ⟨l, h1, h2⟩ := x; ⟨l, h1.mono h, h2⟩
theorem seqIdx {i n : Nat} (h : i < n) : seqIndex? (i : Int) n = some i := by
  unfold seqIndex?
  have h1 : ¬ ((i : Int) < 0) := by omega
  have h2 : (0 : Int) ≤ (i : Int) := by omega
  have h3 : (i : Int) < (n : Int) := by omega
  simp [h1, h2, h3]
section
variable {X : List Addr} {w : World} {s₀ s s' : Shared} {G₀ G G' : Km} {L : Addr} {m : List (Str × Value)} {mu : List (Addr × Obj)} {A : Around} {E : Value → Shared → Prop} {R : Result → Shared → Prop}
theorem R_tupleL {l : Addr} {ys : List Value} {n : Nat} {Q : Value → Shared → Prop} (C : Cx [] w s₀ G₀ G L m mu s) (hm : (l, lstObj ys n) ∈ mu) (hz : ys.length ≤ 2000)
    (h : ∀ s' G' t, G.le G' → TupAt G' t ys → Cx [] w s₀ G₀ G' L m mu s' → Q (.ref t) s') : wpAny (MD w) A (call (.type "tuple") [.ref l]) Q E s := by
  refine call_tuple_list (items := ys.toArray) ⟨_, C.getMu hm, rfl, n, rfl⟩ (fun h' hk => ?_) (by rw [List.size_toArray]; exact Nat.le_trans hz (by decide))
  have C1 := C.grown (t := s.toks) hk C.wd.bare (Nat.le_refl _)
  have C2 := C1.keepNew (t := s.toks) (a := h'.objs.size) (o := tupObj ys) (h' := h'.push (tupObj ys)) (fun b o e => Heap.get?_push_of_some _ e) (Nat.le_refl _) (Heap.get?_push_size _ rfl) (fun x hx => nomatch hx)
  exact h _ _ _ (Km.put_le (C1.wd.newAt (Nat.le_refl _)).1) Km.put_self C2
-- the contract of x.literalize()
def LitP (w : World) (n : Nat) (G : Km) (b : Addr) (P : Km → Value → Prop) : Prop := ∃ D, ExAt G b D ∧ ∀ (A : Around) (R : Result → Shared → Prop) (s : Shared) (G' : Km), Wd w G' s → G.le G' → Rm A n →
  (∀ s' G'' y, Wd w G'' s' → Ps [] s G' s' G'' → P G'' y → R (.ok (.ret y)) s') → codeAny (MD w) A (.call (.ref (litFn D)) ⟨[.ref b], []⟩) R s
theorem LitP.mono {n : Nat} {b : Addr} {P : Km → Value → Prop} (h : G.le G') (x : LitP w n G b P) : LitP w n G' b P := let ⟨D, h1, h2⟩ := x; ⟨D, h1.mono h, fun A R s G2 W le => h2 A R s G2 W (h.trans le)⟩
theorem LitP.up {n n' : Nat} {b : Addr} {P : Km → Value → Prop} (h : n ≤ n') (x : LitP w n G b P) : LitP w n' G b P := let ⟨D, h1, h2⟩ := x; ⟨D, h1, fun A R s G2 W le rm => h2 A R s G2 W le (rm.le h)⟩
-- arg.literalize() as an expression
theorem R_lit {n : Nat} {b : Addr} {P : Km → Value → Prop} {env : Env} {pos : Pos} {pl : Sem Bool} {Q : Value → Shared → Prop} (C : Cx X w s₀ G₀ G L m mu s) (rm : Rm A n) (hb : LitP w n G b P)
    (h : ∀ s' G' y, G.le G' → P G' y → Cx X w s₀ G₀ G' L m mu s' → Q y s') : wpAny (MD w) A (getMethod (.ref b) "literalize" pl) (fun fx s2 => wpAny (MD w) A (callWith pos fx.1 fx.2 (backTo pos (starEach [] env)) []) Q E s2) E s := by
  obtain ⟨D, ⟨l, hl, hD, hv, _⟩, hc⟩ := hb
  have t := meth_tab (P := w.params) hD
  simp only [Bool.and_eq_true, beq_iff_eq] at t
  refine R_meth C (hl.here C.wd) t.1.1.1.1.1.1.1 t.1.1.1.1.1.1.2 t.1.1.1.1.1.2 hv ?_
  refine callWith_K0 C.inn t.1.1.1.1.2 ?_
  exact wpAny_call (hc A _ s G C.wd (Km.le.refl G) rm fun s' G' y W' P' hy => h s' G' y P'.le hy (C.after W' P'))
theorem lz_enter {a : Addr} {k : Nat} (W : Wd w G s) (rm : Rm A (k + 1))
    (h : ∀ L s' G' c1, Cx [] w s G G' L [] [] s' → (cellsFrom (L + 1) (fnScope (mthAt 6 2)).names []).lookup (Str.ofString "self") = some c1 → CellAt G' c1 (.ref a) →
      Rm (A.deeper (envX "Expression.literalize" (fnScope (mthAt 6 2)) L 54 (.ref 53) (cellsFrom (L + 1) (fnScope (mthAt 6 2)).names []))) k →
      wpAny (MD w) (A.deeper (envX "Expression.literalize" (fnScope (mthAt 6 2)) L 54 (.ref 53) (cellsFrom (L + 1) (fnScope (mthAt 6 2)).names []))) (execs (fnBody (mthAt 6 2)) (envX "Expression.literalize" (fnScope (mthAt 6 2)) L 54 (.ref 53) (cellsFrom (L + 1) (fnScope (mthAt 6 2)).names [])))
        (fun fl s'' => R (.ok (.ret (match fl with | .ret v => v | _ => .none))) s'') (fun _ _ => False) s') : codeAny (MD w) A (.call (.ref 54) ⟨[.ref a], []⟩) R s := by
  refine R_enterC (st := mthAt 6 2) (qual := "Expression.literalize") (dV := .none) (pm := .str "boolean.boolean" 194) (cdv := .ref 53) (ct := .none) (binds := [(Str.ofString "self", .ref a)]) (by kernel_rfl) (by k_is) W rm rfl (fun L x hx => ?_) [] [(Str.ofString "self", .ref a)] (fun L p hp => nomatch hp) (fun L p hp => ?_) rfl rfl rfl fun L s' G' C hc rm' => ?_
  · rw [List.mem_singleton.mp hx]; exact .inr ⟨rfl, rfl⟩
  · rw [List.mem_singleton.mp hp]; exact ⟨rfl, rfl⟩
  · obtain ⟨c1, h1, h2⟩ := hc (Str.ofString "self", .ref a) (by simp)
    exact h L s' G' c1 C h1 h2 rm'
theorem lz_sym {a : Addr} {l : List (Str × Value)} (W : Wd w G s) (rm : Rm A 2) (ha : ObjAt G a 344 l) (hl : l.lookup (Str.ofString "isliteral") = some (.bool true))
    (hR : ∀ s', Wd w G s' → Ps [] s G s' G → R (.ok (.ret (.ref a))) s') : codeAny (MD w) A (.call (.ref 54) ⟨[.ref a], []⟩) R s := by
  refine lz_enter W rm fun L s' G' c1 C h1 h2 rm' => ?_
  repeat walk1
  exact hR _ (W.weaken (Cx.wd (by assumption)) (Ps.le (Cx.ps (by assumption)))) (Ps.weaken (Cx.ps (by assumption)))
theorem lz_true (W : Wd w G s) (rm : Rm A 8) (hR : ∀ s', Wd w G s' → Ps [] s G s' G → R (.ok (.ret (.ref 284))) s') : codeAny (MD w) A (.call (.ref 54) ⟨[.ref 284], []⟩) R s := by
  refine lz_enter W rm fun L s' G' c1 C h1 h2 rm' => ?_
  have k2 : TupAt G' 286 [] := C.wd.kin _ _ (by kernel_rfl)
  repeat walk1
  show wpAny _ _ _ _ _ _
  refine R_comp (t := 286) (vs := []) (fun _ _ _ => True) (fun _ _ _ _ _ _ => trivial) rm'.1 (by assumption) k2 (by decide) (by rfl) (by decide) (by rfl) (by decide) (by rfl) ?_ (fun sb i v G' L' s' mu' E' hv => by simp at hv) (fun _ => rfl) ?_
  · intro Q' hQ'
    repeat walk1
    exact hQ' _ (by assumption)
  · intro s3 G3 ys n l hl hp le3 C3
    have hys : ys = [] := List.length_eq_zero_iff.mp hl
    subst hys
    replace h2 := h2.mono le3
    repeat walk1
    refine R_tupleL (by assumption) (.head _) (by decide) fun s4 G4 t4 le4 ht4 C4 => ?_
    replace h2 := h2.mono le4
    repeat walk1
    show wpAny _ _ _ _ _ _
    refine R_allgenE (by assumption) (rm'.le (k' := 2) (by decide)) (c := 53) (P := 51) (t := t4) (vs := []) (f := fun _ => true) (by rfl) (by rfl) (by rfl) (by rfl) (by rfl) (by kernel_rfl) (by decide) (by decide) (by rfl) (by rfl) (by decide) (by rfl) (by rfl) (by rfl) (by rfl) (fun _ => rfl) (by k_is) (by k_is) (by k_is) (by kernel_rfl) ?_ ht4 (fun sb i v tk G' L' cd s' mu' A' E' hv => by simp at hv) ?_
    · intro Q' hQ'
      repeat walk1
      exact hQ' _ (by assumption)
    · intro s5 G5 C5 le5
      replace h2 := h2.mono le5
      have hal : (List.range ([] : List Value).length).all (fun _ => true) = true := rfl
      rw [hal]
      repeat walk1
      exact hR _ (W.weaken (Cx.wd (by assumption)) (Ps.le (Cx.ps (by assumption)))) (Ps.weaken (Cx.ps (by assumption)))
theorem lz_false (W : Wd w G s) (rm : Rm A 8) (hR : ∀ s', Wd w G s' → Ps [] s G s' G → R (.ok (.ret (.ref 288))) s') : codeAny (MD w) A (.call (.ref 54) ⟨[.ref 288], []⟩) R s := by
  refine lz_enter W rm fun L s' G' c1 C h1 h2 rm' => ?_
  have k2 : TupAt G' 290 [] := C.wd.kin _ _ (by kernel_rfl)
  repeat walk1
  show wpAny _ _ _ _ _ _
  refine R_comp (t := 290) (vs := []) (fun _ _ _ => True) (fun _ _ _ _ _ _ => trivial) rm'.1 (by assumption) k2 (by decide) (by rfl) (by decide) (by rfl) (by decide) (by rfl) ?_ (fun sb i v G' L' s' mu' E' hv => by simp at hv) (fun _ => rfl) ?_
  · intro Q' hQ'
    repeat walk1
    exact hQ' _ (by assumption)
  · intro s3 G3 ys n l hl hp le3 C3
    have hys : ys = [] := List.length_eq_zero_iff.mp hl
    subst hys
    replace h2 := h2.mono le3
    repeat walk1
    refine R_tupleL (by assumption) (.head _) (by decide) fun s4 G4 t4 le4 ht4 C4 => ?_
    replace h2 := h2.mono le4
    repeat walk1
    show wpAny _ _ _ _ _ _
    refine R_allgenE (by assumption) (rm'.le (k' := 2) (by decide)) (c := 53) (P := 51) (t := t4) (vs := []) (f := fun _ => true) (by rfl) (by rfl) (by rfl) (by rfl) (by rfl) (by kernel_rfl) (by decide) (by decide) (by rfl) (by rfl) (by decide) (by rfl) (by rfl) (by rfl) (by rfl) (fun _ => rfl) (by k_is) (by k_is) (by k_is) (by kernel_rfl) ?_ ht4 (fun sb i v tk G' L' cd s' mu' A' E' hv => by simp at hv) ?_
    · intro Q' hQ'
      repeat walk1
      exact hQ' _ (by assumption)
    · intro s5 G5 C5 le5
      replace h2 := h2.mono le5
      have hal : (List.range ([] : List Value).length).all (fun _ => true) = true := rfl
      rw [hal]
      repeat walk1
      exact hR _ (W.weaken (Cx.wd (by assumption)) (Ps.le (Cx.ps (by assumption)))) (Ps.weaken (Cx.ps (by assumption)))
theorem lz_and {a tp : Addr} {ca : Bool} {t1 t2 : Tok} {v1 v2 : Value} {vs : List Value} {n : Nat} {P : Nat → Km → Value → Prop} (W : Wd w G s) (rm : Rm A (n + 16)) (ha : ObjAt G a 563 (grpL true tp ca t1 t2)) (ht : TupAt G tp (v1 :: v2 :: vs)) (hz : vs.length ≤ 900)
    (hmono : ∀ G G' i y, G.le G' → P i G y → P i G' y) (hex : ∀ i G y, P i G y → IsEx G y) (hel : ∀ (i : Nat) v, (v1 :: v2 :: vs)[i]? = some v → ∃ b, v = Value.ref b ∧ IsEx G v ∧ LitP w n G b (P i))
    (hR : ∀ s' G' r ys ca', Wd w G' s' → Ps [] s G s' G' → GrpAt G' r true ys ca' → ys.length = vs.length + 2 → (∀ (i : Nat) y, ys[i]? = some y → P i G' y) → R (.ok (.ret (.ref r))) s') :
    codeAny (MD w) A (.call (.ref 54) ⟨[.ref a], []⟩) R s := by
  generalize hrs : v1 :: v2 :: vs = rs at ht hel
  have hrl : rs.length = vs.length + 2 := by rw [← hrs]; rfl
  refine lz_enter W rm fun L s' G' c1 C h1 h2 rm' => ?_
  have W0 := W
  replace ha := ha.mono C.ps.le
  replace ht := ht.mono C.ps.le
  have hel' : ∀ (i : Nat) v, rs[i]? = some v → ∃ b, v = Value.ref b ∧ IsEx G' v ∧ LitP w n G' b (P i) := fun i v h => let ⟨b, e, x, p⟩ := hel i v h; ⟨b, e, x.mono C.ps.le, p.mono C.ps.le⟩
  repeat walk1
  show wpAny _ _ _ _ _ _
  refine R_comp (t := tp) (vs := rs) (fun G i y => P i G y) hmono rm'.1 (by assumption) ht (by omega) (by rfl) (by decide) (by rfl) (by decide) (by rfl) ?_ (fun sb i v G3 L' s3 mu' E' hv le C3 => ?_) (fun _ => rfl) ?_
  · intro Q' hQ'
    repeat walk1
    exact hQ' _ (by assumption)
  · obtain ⟨b, rfl, _, hp⟩ := hel' i v hv
    repeat walk1
    exact R_lit (by assumption) (rm'.le (by omega)) (hp.mono le) fun s4 G4 y le4 hy C4 => ⟨G4, le4, hy, C4.sub fun _ _ h => (nomatch h)⟩
  · intro s3 G3 ys n3 l hl hp le3 C3
    replace h2 := h2.mono le3
    replace ha := ha.mono le3
    replace ht := ht.mono le3
    repeat walk1
    refine R_tupleL (by assumption) (.head _) (by omega) fun s4 G4 t4 le4 ht4 C4 => ?_
    replace h2 := h2.mono le4
    replace ha := ha.mono le4
    replace ht := ht.mono le4
    replace hp : ∀ (i : Nat) y, ys[i]? = some y → P i G4 y := fun i y h => hmono _ _ _ _ le4 (hp i y h)
    repeat walk1
    show wpAny _ _ _ _ _ _
    refine R_allgenE (by assumption) (rm'.le (k' := 2) (by omega)) (c := 53) (P := 51) (t := t4) (vs := ys) (f := fun i => decide (ys[i]? = rs[i]?)) (by rfl) (by rfl) (by rfl) (by rfl) (by rfl) (by kernel_rfl) (by decide) (by decide) (by rfl) (by rfl) (by decide) (by rfl) (by rfl) (by rfl) (by rfl) (fun _ => rfl) (by k_is) (by k_is) (by k_is) (by kernel_rfl) ?_ ht4 (fun sb i v tk G5 L' cd s5 mu' A' E' hv le5 C5 rA => ?_) ?_
    · intro Q' hQ'
      repeat walk1
      exact hQ' _ (by assumption)
    · have hi : i < rs.length := by rw [hrl, ← hrl, ← hl]; exact (List.getElem?_eq_some_iff.mp hv).1
      obtain ⟨b, hb, hbx, _⟩ := hel' i rs[i] (List.getElem?_eq_getElem hi)
      obtain ⟨y, Dy, ly, rfl, oy, _⟩ := (hex i G4 v (hp i v hv)).mono le5
      have hx : rs[i]? = some (.ref b) := by rw [List.getElem?_eq_getElem hi, hb]
      have hj : seqIndex? (i : Int) rs.length = some i := seqIdx hi
      rw [hb] at hbx
      obtain ⟨b', Db, lb, e, ob, _⟩ := hbx.mono (le3.trans (le4.trans le5))
      cases e
      replace h2 := h2.mono le5
      have hf : decide (ys[i]? = rs[i]?) = decide (y = b) := by rw [hv, hx]; simp
      rw [hf]
      by_cases hyb : y = b
      · subst hyb
        repeat walk1
        show ∃ _ : Km, _ ∧ _
        exact ⟨_, by simp, Cx.sub (by assumption) fun _ _ h => (nomatch h)⟩
      · repeat walk1
        show ∃ _ : Km, _ ∧ _
        exact ⟨_, by simp [hyb], Cx.sub (by assumption) fun _ _ h => (nomatch h)⟩
    · intro s5 G5 C5 le5
      replace h2 := h2.mono le5
      replace ha := ha.mono le5
      replace ht := ht.mono le5
      replace ht4 := ht4.mono le5
      replace hp : ∀ (i : Nat) y, ys[i]? = some y → P i G5 y := fun i y h => hmono _ _ _ _ le5 (hp i y h)
      cases hal : (List.range ys.length).all (fun i => decide (ys[i]? = rs[i]?)) with
      | true =>
        have e : ys = rs := List.ext_getElem? fun i => by
          by_cases hi : i < ys.length
          · have := List.all_eq_true.mp hal i (List.mem_range.mpr hi)
            simpa using this
          · rw [List.getElem?_eq_none (by omega), List.getElem?_eq_none (by omega)]
        subst e
        repeat walk1
        exact hR _ _ _ _ _ (Cx.wd (by assumption)) (Cx.ps (by assumption)) ⟨tp, t1, t2, ha, ht⟩ hrl hp
      | false =>
        repeat walk1
        have h2' : ys.length = vs.length + 2 := by omega
        match ys, ht4, hp, h2' with
        | y1 :: y2 :: ys, ht4, hp, h2' =>
          refine wpAny_call (and_made (Cx.wd (by assumption)) (rm'.le (by omega)) ht4.seq (fun v hv => ?_) (by simp only [List.length_cons] at h2'; omega) fun s6 G6 r d tp6 u1 u2 N h6 => ?_)
          · obtain ⟨i, hi⟩ := List.mem_iff_getElem?.mp hv
            exact hex i _ v (hp i v hi)
          · obtain ⟨G7, W7, P7, O7, le7⟩ := N.freeze
            exact hR _ _ _ _ _ W7 ((Cx.ps (by assumption)).trans P7) ⟨tp6, u1, u2, O7, h6.mono le7⟩ h2' (fun i y h => hmono _ _ _ _ P7.le (hp i y h))

theorem lz_or {a tp : Addr} {ca : Bool} {t1 t2 : Tok} {v1 v2 : Value} {vs : List Value} {n : Nat} {P : Nat → Km → Value → Prop} (W : Wd w G s) (rm : Rm A (n + 16)) (ha : ObjAt G a 612 (grpL false tp ca t1 t2)) (ht : TupAt G tp (v1 :: v2 :: vs)) (hz : vs.length ≤ 900)
    (hmono : ∀ G G' i y, G.le G' → P i G y → P i G' y) (hex : ∀ i G y, P i G y → IsEx G y) (hel : ∀ (i : Nat) v, (v1 :: v2 :: vs)[i]? = some v → ∃ b, v = Value.ref b ∧ IsEx G v ∧ LitP w n G b (P i))
    (hR : ∀ s' G' r ys ca', Wd w G' s' → Ps [] s G s' G' → GrpAt G' r false ys ca' → ys.length = vs.length + 2 → (∀ (i : Nat) y, ys[i]? = some y → P i G' y) → R (.ok (.ret (.ref r))) s') :
    codeAny (MD w) A (.call (.ref 54) ⟨[.ref a], []⟩) R s := by
  generalize hrs : v1 :: v2 :: vs = rs at ht hel
  have hrl : rs.length = vs.length + 2 := by rw [← hrs]; rfl
  refine lz_enter W rm fun L s' G' c1 C h1 h2 rm' => ?_
  have W0 := W
  replace ha := ha.mono C.ps.le
  replace ht := ht.mono C.ps.le
  have hel' : ∀ (i : Nat) v, rs[i]? = some v → ∃ b, v = Value.ref b ∧ IsEx G' v ∧ LitP w n G' b (P i) := fun i v h => let ⟨b, e, x, p⟩ := hel i v h; ⟨b, e, x.mono C.ps.le, p.mono C.ps.le⟩
  repeat walk1
  show wpAny _ _ _ _ _ _
  refine R_comp (t := tp) (vs := rs) (fun G i y => P i G y) hmono rm'.1 (by assumption) ht (by omega) (by rfl) (by decide) (by rfl) (by decide) (by rfl) ?_ (fun sb i v G3 L' s3 mu' E' hv le C3 => ?_) (fun _ => rfl) ?_
  · intro Q' hQ'
    repeat walk1
    exact hQ' _ (by assumption)
  · obtain ⟨b, rfl, _, hp⟩ := hel' i v hv
    repeat walk1
    exact R_lit (by assumption) (rm'.le (by omega)) (hp.mono le) fun s4 G4 y le4 hy C4 => ⟨G4, le4, hy, C4.sub fun _ _ h => (nomatch h)⟩
  · intro s3 G3 ys n3 l hl hp le3 C3
    replace h2 := h2.mono le3
    replace ha := ha.mono le3
    replace ht := ht.mono le3
    repeat walk1
    refine R_tupleL (by assumption) (.head _) (by omega) fun s4 G4 t4 le4 ht4 C4 => ?_
    replace h2 := h2.mono le4
    replace ha := ha.mono le4
    replace ht := ht.mono le4
    replace hp : ∀ (i : Nat) y, ys[i]? = some y → P i G4 y := fun i y h => hmono _ _ _ _ le4 (hp i y h)
    repeat walk1
    show wpAny _ _ _ _ _ _
    refine R_allgenE (by assumption) (rm'.le (k' := 2) (by omega)) (c := 53) (P := 51) (t := t4) (vs := ys) (f := fun i => decide (ys[i]? = rs[i]?)) (by rfl) (by rfl) (by rfl) (by rfl) (by rfl) (by kernel_rfl) (by decide) (by decide) (by rfl) (by rfl) (by decide) (by rfl) (by rfl) (by rfl) (by rfl) (fun _ => rfl) (by k_is) (by k_is) (by k_is) (by kernel_rfl) ?_ ht4 (fun sb i v tk G5 L' cd s5 mu' A' E' hv le5 C5 rA => ?_) ?_
    · intro Q' hQ'
      repeat walk1
      exact hQ' _ (by assumption)
    · have hi : i < rs.length := by rw [hrl, ← hrl, ← hl]; exact (List.getElem?_eq_some_iff.mp hv).1
      obtain ⟨b, hb, hbx, _⟩ := hel' i rs[i] (List.getElem?_eq_getElem hi)
      obtain ⟨y, Dy, ly, rfl, oy, _⟩ := (hex i G4 v (hp i v hv)).mono le5
      have hx : rs[i]? = some (.ref b) := by rw [List.getElem?_eq_getElem hi, hb]
      have hj : seqIndex? (i : Int) rs.length = some i := seqIdx hi
      rw [hb] at hbx
      obtain ⟨b', Db, lb, e, ob, _⟩ := hbx.mono (le3.trans (le4.trans le5))
      cases e
      replace h2 := h2.mono le5
      have hf : decide (ys[i]? = rs[i]?) = decide (y = b) := by rw [hv, hx]; simp
      rw [hf]
      by_cases hyb : y = b
      · subst hyb
        repeat walk1
        show ∃ _ : Km, _ ∧ _
        exact ⟨_, by simp, Cx.sub (by assumption) fun _ _ h => (nomatch h)⟩
      · repeat walk1
        show ∃ _ : Km, _ ∧ _
        exact ⟨_, by simp [hyb], Cx.sub (by assumption) fun _ _ h => (nomatch h)⟩
    · intro s5 G5 C5 le5
      replace h2 := h2.mono le5
      replace ha := ha.mono le5
      replace ht := ht.mono le5
      replace ht4 := ht4.mono le5
      replace hp : ∀ (i : Nat) y, ys[i]? = some y → P i G5 y := fun i y h => hmono _ _ _ _ le5 (hp i y h)
      cases hal : (List.range ys.length).all (fun i => decide (ys[i]? = rs[i]?)) with
      | true =>
        have e : ys = rs := List.ext_getElem? fun i => by
          by_cases hi : i < ys.length
          · have := List.all_eq_true.mp hal i (List.mem_range.mpr hi)
            simpa using this
          · rw [List.getElem?_eq_none (by omega), List.getElem?_eq_none (by omega)]
        subst e
        repeat walk1
        exact hR _ _ _ _ _ (Cx.wd (by assumption)) (Cx.ps (by assumption)) ⟨tp, t1, t2, ha, ht⟩ hrl hp
      | false =>
        repeat walk1
        have h2' : ys.length = vs.length + 2 := by omega
        match ys, ht4, hp, h2' with
        | y1 :: y2 :: ys, ht4, hp, h2' =>
          refine wpAny_call (or_made (Cx.wd (by assumption)) (rm'.le (by omega)) ht4.seq (fun v hv => ?_) (by simp only [List.length_cons] at h2'; omega) fun s6 G6 r d tp6 u1 u2 N h6 => ?_)
          · obtain ⟨i, hi⟩ := List.mem_iff_getElem?.mp hv
            exact hex i _ v (hp i v hi)
          · obtain ⟨G7, W7, P7, O7, le7⟩ := N.freeze
            exact hR _ _ _ _ _ W7 ((Cx.ps (by assumption)).trans P7) ⟨tp6, u1, u2, O7, h6.mono le7⟩ h2' (fun i y h => hmono _ _ _ _ P7.le (hp i y h))
end
-- part C13
section
variable {w : World} {s s' : Shared} {G G' : Km} {A : Around} {R : Result → Shared → Prop}
theorem SymAt.exAt {a : Addr} {nm : Str} (h : SymAt G a nm) : ExAt G a 344 := let ⟨tp, t1, t2, h1, _⟩ := h; ⟨_, h1, by decide, by with_unfolding_all rfl, by with_unfolding_all rfl⟩
theorem NotOf.exAt {a b : Addr} {ca : Bool} (h : NotOf G a b ca) : ExAt G a 440 := let ⟨Db, lb, tp, t1, _, _, h3, _⟩ := h; ⟨_, h3, by decide, by with_unfolding_all rfl, by with_unfolding_all rfl⟩
theorem GrpAt.exAt {a : Addr} {k : Bool} {vs : List Value} {ca : Bool} (h : GrpAt G a k vs ca) : ExAt G a (grpOf k) := by
  obtain ⟨tp, t1, t2, h1, _⟩ := h
  cases k with
  | true => exact ⟨_, h1, by decide, by with_unfolding_all rfl, by with_unfolding_all rfl⟩
  | false => exact ⟨_, h1, by decide, by with_unfolding_all rfl, by with_unfolding_all rfl⟩
theorem cst_exAt (W : Wd w G s) (b : Bool) : ExAt G (cA b) (cD b) := by
  cases b with
  | true => exact ⟨_, true_obj W, by decide, by with_unfolding_all rfl, by with_unfolding_all rfl⟩
  | false => exact ⟨_, false_obj W, by decide, by with_unfolding_all rfl, by with_unfolding_all rfl⟩
-- what demorgan hands over, and x.literalize() of a NOT
def DmRes (w : World) (n : Nat) (P : Km → Value → Prop) (G : Km) (r : Addr) : Prop := (∃ l, ObjAt G r 440 l ∧ P G (.ref r)) ∨ (∃ D l, ObjAt G r D l ∧ D ∈ exCls ∧ isiTab D 440 = false ∧ LitP w n G r P)
theorem nl {n : Nat} {P : Km → Value → Prop} {a x : Addr} {ca : Bool} (hPm : ∀ G G' y, G.le G' → P G y → P G' y) (W : Wd w G s) (rm : Rm A (n + 22)) (ha : NotOf G a x ca)
    (hdm : ∀ (A : Around) (R : Result → Shared → Prop) (s : Shared) (G' : Km), Wd w G' s → G.le G' → Rm A 20 → (∀ s' G'' r, Wd w G'' s' → Ps [] s G' s' G'' → DmRes w n P G'' r → R (.ok (.ret (.ref r))) s') → codeAny (MD w) A (.call (.ref 423) ⟨[.ref a], []⟩) R s)
    (hR : ∀ s' G' y, Wd w G' s' → Ps [] s G s' G' → P G' y → R (.ok (.ret y)) s') : codeAny (MD w) A (.call (.ref 404) ⟨[.ref a], []⟩) R s := by
  refine R_enter [(Str.ofString "self", .ref a)] (k := n + 21) (st := mthAt 14 2) (qual := "NOT.literalize") (cl := []) (dV := .none) (pm := .str "boolean.boolean" 194) (cdv := .ref 403) (ct := .none) (by kernel_rfl) (by k_is) W rm (BindsTo.of_eq rfl) (by decide) (by rfl) rfl rfl rfl rfl fun L s1 C rm' => ?_
  obtain ⟨Db, lb, tq, u1, k1, k2, k3, k4⟩ := id ha
  clear k1
  repeat walk1
  refine wpAny_call (hdm _ _ _ G (Cx.wd C) (Km.le.refl G) (rm'.le (by omega)) fun s2 G2 r W2 P2 hr => ?_)
  have C2 := Cx.after C W2 P2
  replace k3 := k3.mono P2.le
  rcases hr with ⟨l, ol, hp⟩ | ⟨D, l, ol, hD, hi, hp⟩
  · repeat walk1
    exact hR _ _ _ (Cx.wd (by assumption)) (Cx.ps (by assumption)) hp
  · repeat walk1
    refine R_isiF (by assumption) (by walk_at "m_obj") hD (by decide) hi fun s3 C3 => ?_
    clear ol
    repeat walk1
    exact R_lit (by assumption) (rm'.le (by omega)) hp fun s4 G4 y le4 hy C4 => hR _ _ _ C4.wd C4.ps hy
def PB (k : Bool) (D : Den) : Km → Value → Prop := fun G y => ∃ r, y = .ref r ∧ IsB G r k D
theorem PB.mono {k : Bool} {D : Den} {y : Value} (h : G.le G') (x : PB k D G y) : PB k D G' y := let ⟨r, e, x⟩ := x; ⟨r, e, x.mono h⟩
def DenOk (D : Den) : Prop := ∀ ls, D = some ls → ls.length ≤ 800
theorem litP_cst {k b : Bool} {D : Den} (W : Wd w G s) (h : ∀ G', IsB G' (cA b) k D) : LitP w 22 G (cA b) (PB k D) := by
  refine ⟨cD b, cst_exAt W b, fun A R s2 G2 W2 le rm hR => ?_⟩
  cases b with
  | true => exact lz_true W2 (rm.le (by decide)) fun s' W' P' => hR s' G2 _ W' P' ⟨_, rfl, h _⟩
  | false => exact lz_false W2 (rm.le (by decide)) fun s' W' P' => hR s' G2 _ W' P' ⟨_, rfl, h _⟩
theorem litP_sym {a : Addr} {nm : Str} {P : Km → Value → Prop} (h : SymAt G a nm) (hP : ∀ G', SymAt G' a nm → P G' (.ref a)) : LitP w 22 G a P := by
  refine ⟨344, h.exAt, fun A R s2 G2 W2 le rm hR => ?_⟩
  obtain ⟨tp, t1, t2, h1, h2⟩ := h.mono le
  exact lz_sym W2 (rm.le (by decide)) h1 (by with_unfolding_all rfl) fun s' W' P' => hR s' G2 _ W' P' (hP _ (h.mono le))
theorem litP_not {a x : Addr} {ca : Bool} {nm : Str} {P : Km → Value → Prop} (hPm : ∀ G G' y, G.le G' → P G y → P G' y) (h : NotOf G a x ca) (hx : SymAt G x nm) (hP : ∀ G' r, LitAt G' r (nm, true) → P G' (.ref r)) : LitP w 22 G a P := by
  refine ⟨440, h.exAt, fun A R s2 G2 W2 le rm hR => ?_⟩
  refine nl (n := 0) (P := P) hPm W2 rm (h.mono le) (fun A R s3 G3 W3 le3 rm3 hR3 => ?_) hR
  refine dm_sym W3 rm3 ((h.mono le).mono le3) ((hx.mono le).mono le3) fun s' r W' P' hr => hR3 s' G3 r W' P' (.inl ?_)
  obtain ⟨y, cy, ⟨Db, lb, tp, t1, _, _, o, _⟩, _⟩ := id hr
  exact ⟨_, o, hP _ _ hr⟩
theorem litP_lit {a : Addr} {l : Lit} {P : Km → Value → Prop} (hPm : ∀ G G' y, G.le G' → P G y → P G' y) (h : LitAt G a l) (hP : ∀ G' r, LitAt G' r l → P G' (.ref r)) : LitP w 22 G a P := by
  obtain ⟨nm, b⟩ := l
  cases b with
  | false => exact litP_sym h fun G' h' => hP G' a h'
  | true => exact let ⟨x, ca, h1, h2⟩ := h; litP_not hPm h1 h2 hP
theorem LitsAt.get : ∀ {vs : List Value} {ls : List Lit}, LitsAt G vs ls → ∀ {i : Nat} {v : Value}, vs[i]? = some v → ∃ a l, v = Value.ref a ∧ ls[i]? = some l ∧ LitAt G a l := fun h i v hv => h.at hv
theorem lits_ofP : ∀ {ys : List Value} {ls : List Lit}, ys.length = ls.length → (∀ (i : Nat) (y : Value), ys[i]? = some y → ∃ r l, y = Value.ref r ∧ ls[i]? = some l ∧ LitAt G r l) → LitsAt G ys ls
  | [], [], _, _ => trivial
  | y :: ys, l :: ls, e, h => by
    obtain ⟨r, l', e1, e2, h1⟩ := h 0 y rfl
    cases e2
    exact ⟨⟨r, e1, h1⟩, lits_ofP (Nat.succ.inj e) fun i z hz => h (i + 1) z hz⟩
theorem litP_grp {a : Addr} {k : Bool} {vs : List Value} {ca : Bool} {l₁ l₂ : Lit} {ls : List Lit} (h : GrpAt G a k vs ca) (hl : LitsAt G vs (l₁ :: l₂ :: ls)) (hz : ls.length ≤ 800) : LitP w 38 G a (PB k (some (l₁ :: l₂ :: ls))) := by
  refine ⟨grpOf k, h.exAt, fun A R s2 G2 W2 le rm hR => ?_⟩
  obtain ⟨tp, t1, t2, o, ht⟩ := h.mono le
  replace hl := hl.mono le
  match vs, ht, hl with
  | v1 :: v2 :: vs, ht, hl =>
    have hz' : vs.length ≤ 900 := by
      have := hl.len
      simp only [List.length_cons] at this
      omega
    have hel : ∀ (i : Nat) v, (v1 :: v2 :: vs)[i]? = some v → ∃ b, v = Value.ref b ∧ IsEx G2 v ∧ LitP w 22 G2 b (fun G' y => ∃ r l, y = Value.ref r ∧ (l₁ :: l₂ :: ls)[i]? = some l ∧ LitAt G' r l) := fun i v hv => by
      obtain ⟨b, l, rfl, hi, hb⟩ := hl.get hv
      exact ⟨b, rfl, hb.ex, litP_lit (fun G G' y le ⟨r, l', e1, e2, e3⟩ => ⟨r, l', e1, e2, e3.mono le⟩) hb fun G' r hr => ⟨r, l, rfl, hi, hr⟩⟩
    have fin : ∀ s' G' r ys ca', Wd w G' s' → Ps [] s2 G2 s' G' → GrpAt G' r k ys ca' → ys.length = vs.length + 2 → (∀ (i : Nat) y, ys[i]? = some y → ∃ r l, y = Value.ref r ∧ (l₁ :: l₂ :: ls)[i]? = some l ∧ LitAt G' r l) → R (.ok (.ret (.ref r))) s' := fun s' G' r ys ca' W' P' hg hlen hp =>
      hR s' G' _ W' P' ⟨r, rfl, ys, ca', hg, lits_ofP (by have := hl.len; simp only [List.length_cons] at this ⊢; omega) hp⟩
    cases k with
    | true => exact lz_and (n := 22) W2 rm o ht hz' (fun G G' i y le ⟨r, l', e1, e2, e3⟩ => ⟨r, l', e1, e2, e3.mono le⟩) (fun i G y ⟨r, l', e1, e2, e3⟩ => e1 ▸ e3.ex) hel fin
    | false => exact lz_or (n := 22) W2 rm o ht hz' (fun G G' i y le ⟨r, l', e1, e2, e3⟩ => ⟨r, l', e1, e2, e3.mono le⟩) (fun i G y ⟨r, l', e1, e2, e3⟩ => e1 ▸ e3.ex) hel fin
theorem litP_B {a : Addr} {k : Bool} {D : Den} (W : Wd w G s) (h : IsB G a k D) (hz : DenOk D) : LitP w 38 G a (PB k D) := by
  match D, h with
  | none, h => exact h ▸ (litP_cst (k := k) (b := !k) (D := none) W fun _ => rfl).up (by decide)
  | some [], h => exact h ▸ (litP_cst (k := k) (b := k) (D := some []) W fun _ => rfl).up (by decide)
  | some [l], h => exact (litP_lit (P := PB k (some [l])) (fun _ _ _ le x => PB.mono le x) h fun G' r hr => ⟨r, rfl, hr⟩).up (by decide)
  | some (l₁ :: l₂ :: ls), ⟨vs, ca, h1, h2⟩ => exact litP_grp h1 h2 (by have := hz _ rfl; simp only [List.length_cons] at this; omega)
theorem flip_ok {D : Den} (h : DenOk (flipD D)) : DenOk D := fun ls e => by
  subst e
  have := h _ rfl
  simpa using this
theorem litP_res {a : Addr} {k : Bool} {D : Den} (W : Wd w G s) (h : IsRes G a k D) (hz : DenOk D) : LitP w 60 G a (PB k D) := by
  rcases h with h | ⟨x, ca, D', rfl, h, hx⟩
  · exact (litP_B W h hz).up (by decide)
  · refine ⟨440, h.exAt, fun A R s2 G2 W2 le rm hR => ?_⟩
    refine nl (n := 38) (P := PB k (flipD D')) (fun _ _ _ le x => PB.mono le x) W2 rm (h.mono le) (fun A R s3 G3 W3 le3 rm3 hR3 => ?_) hR
    replace h := (h.mono le).mono le3
    replace hx := (hx.mono le).mono le3
    match D', hx, hz with
    | none, hx, hz =>
      have e : x = cA k := by rw [hx, Bool.not_not]
      subst e
      refine dm_cst W3 rm3 h fun s' W' P' => hR3 s' G3 _ W' P' (.inr ?_)
      obtain ⟨l, ol, hD, _⟩ := cst_exAt W' (!k)
      exact ⟨_, l, ol, hD, by cases k <;> decide, litP_B W' (show IsB G3 (cA (!k)) k none from rfl) hz⟩
    | some [], hx, hz =>
      have e : x = cA (!k) := hx
      subst e
      refine dm_cst W3 rm3 h fun s' W' P' => hR3 s' G3 _ W' P' (.inr ?_)
      rw [Bool.not_not]
      obtain ⟨l, ol, hD, _⟩ := cst_exAt W' k
      exact ⟨_, l, ol, hD, by cases k <;> decide, litP_B W' (show IsB G3 (cA k) k (some []) from rfl) hz⟩
    | some [(nm, false)], hx, hz =>
      refine dm_sym W3 rm3 h hx fun s' r W' P' hr => hR3 s' G3 r W' P' (.inl ?_)
      obtain ⟨y, cy, ⟨Db, lb, tp, t1, _, _, o, _⟩, _⟩ := id hr
      exact ⟨_, o, r, rfl, hr⟩
    | some [(nm, true)], hx, hz =>
      obtain ⟨y, cy, h1, h2⟩ := hx
      refine dm_not W3 rm3 h h1 h2 fun s' r W' P' hr => hR3 s' G3 r W' P' (.inr ?_)
      obtain ⟨tp, t1, t2, o, _⟩ := id hr
      exact ⟨344, _, o, by decide, by decide, litP_B W' (show IsB G3 r k (some [(nm, false)]) from hr) hz⟩
    | some (l₁ :: l₂ :: ls), ⟨vs, cx, ⟨tp, t1, t2, o, ht⟩, hl⟩, hz =>
      match vs, ht, hl with
      | v1 :: v2 :: vs, ht, hl =>
        have hz' : vs.length ≤ 900 := by
          have := hl.len
          have h2 := flip_ok hz _ rfl
          simp only [List.length_cons] at this h2
          omega
        have fin : ∀ s' G' r vs', Wd w G' s' → Ps [] s3 G3 s' G' → GrpAt G' r k vs' false → LitsAt G' vs' ((l₁ :: l₂ :: ls).map flipL) → R (.ok (.ret (.ref r))) s' := fun s' G' r vs' W' P' hg hl' => hR3 s' G' r W' P' (.inr (by
          obtain ⟨l, ol, hD, _⟩ := hg.exAt
          exact ⟨_, l, ol, hD, by cases k <;> decide, litP_B W' (show IsB G' r k (flipD (some (l₁ :: l₂ :: ls))) from ⟨vs', false, hg, hl'⟩) hz⟩))
        cases k with
        | true => exact dm_or W3 rm3 h o ht hl hz' fin
        | false => exact dm_and W3 rm3 h o ht hl hz' fin
end
-- part C14
section
variable {X : List Addr} {w : World} {s₀ s s' : Shared} {G₀ G G' : Km} {L : Addr} {m : List (Str × Value)} {mu : List (Addr × Obj)} {A : Around} {E : Value → Shared → Prop} {R : Result → Shared → Prop}
-- what a part of a group of kind k gives to its flattened row
def Sp (G : Km) (k : Bool) (v : Value) (us : List Value) : Prop := (∃ b ca, v = .ref b ∧ GrpAt G b k us ca) ∨ (us = [v] ∧ ∃ b D l, v = .ref b ∧ ObjAt G b D l ∧ D ∈ exCls ∧ isiTab D (grpOf k) = false)
theorem Sp.mono {k : Bool} {v : Value} {us : List Value} (h : G.le G') (x : Sp G k v us) : Sp G' k v us := x.imp (fun ⟨b, ca, e, g⟩ => ⟨b, ca, e, g.mono h⟩) fun ⟨e, b, D, l, e2, o, r⟩ => ⟨e, b, D, l, e2, o.mono h, r⟩
theorem splice_eq {vs : List Value} {uss : List (List Value)} {i : Nat} {v : Value} {us : List Value} (hv : vs[i]? = some v) (hu : uss[i]? = some us) :
    ((uss.take i).flatten ++ vs.drop i).take (uss.take i).flatten.length ++ us ++ ((uss.take i).flatten ++ vs.drop i).drop ((uss.take i).flatten.length + 1) = (uss.take (i + 1)).flatten ++ vs.drop (i + 1) := by
  have e1 : vs.drop i = v :: vs.drop (i + 1) := List.drop_eq_getElem?_toList_append ▸ by rw [hv]; rfl
  have e2 : (uss.take (i + 1)).flatten = (uss.take i).flatten ++ us := by rw [List.take_add_one, hu]; simp
  rw [e1, e2, List.take_left, List.drop_append]
  simp
theorem splice_one {vs : List Value} {uss : List (List Value)} {i : Nat} {v : Value} (hv : vs[i]? = some v) (hu : uss[i]? = some [v]) : (uss.take (i + 1)).flatten ++ vs.drop (i + 1) = (uss.take i).flatten ++ vs.drop i := by
  have e1 : vs.drop i = v :: vs.drop (i + 1) := List.drop_eq_getElem?_toList_append ▸ by rw [hv]; rfl
  have e2 : (uss.take (i + 1)).flatten = (uss.take i).flatten ++ [v] := by rw [List.take_add_one, hu]; simp
  rw [e1, e2]; simp
theorem splice_len {uss : List (List Value)} {i : Nat} {us : List Value} (hu : uss[i]? = some us) : (uss.take (i + 1)).flatten.length = (uss.take i).flatten.length + us.length := by
  rw [List.take_add_one, hu]; simp
theorem flat_and {a t : Addr} {ca : Bool} {t1 t2 : Tok} {vs : List Value} {uss : List (List Value)} {b c : Value} {ws : List Value} (W : Wd w G s) (rm : Rm A 16) (o : ObjAt G a 563 (grpL true t ca t1 t2)) (ht : TupAt G t vs)
   (hlen : uss.length = vs.length) (hsp : ∀ (i : Nat) (v : Value) us, vs[i]? = some v → uss[i]? = some us → Sp G true v us) (hws : uss.flatten = b :: c :: ws) (hz : vs.length + uss.flatten.length ≤ 900) (hex : ∀ v ∈ uss.flatten, IsEx G v)
   (hR : ∀ s' G' x d tp t1 t2, NewObj w s G s' G' x d 563 (grpL true tp false t1 t2) → TupAt G' tp (b :: c :: ws) → R (.ok (.ret (.ref x))) s') : codeAny (MD w) A (.call (.ref 478) ⟨[.ref a], []⟩) R s := by
  refine R_enter [(Str.ofString "self", .ref a)] (k := 15) (st := mthAt 15 3) (qual := "DualBase.flatten") (cl := []) (dV := .none) (pm := .str "boolean.boolean" 194) (cdv := .ref 477) (ct := .none) (by kernel_rfl) (by k_is) W rm (BindsTo.of_eq rfl) (by decide) (by rfl) rfl rfl rfl rfl fun L s1 C rm' => ?_
  repeat walk1
  refine R_listT (by assumption) (by walk_at "m_at") (by omega) fun la s3 na C3 => ?_
  repeat walk1
  refine wpAny_For ?_
  repeat walk1
  refine R_iterT (by assumption) (by walk_at "m_at") fun I s4 o4 ho4 C4 => ?_
  refine R_forT (t := t) (vs := vs) (fun i G' m' mu' => (∃ tk, m'.lookup (Str.ofString "i") = some (.int (((uss.take i).flatten.length : Nat) : Int) tk)) ∧ m'.lookup (Str.ofString "args") = some (.ref la) ∧ m'.lookup (Str.ofString "self") = some (.ref a) ∧ ∃ n, mu' = [(la, lstObj ((uss.take i).flatten ++ vs.drop i) n)])
    rm'.1 C4 ho4 (by walk_at "m_at") (by rfl) (by rfl) ⟨⟨_, rfl⟩, rfl, rfl, _, rfl⟩ ?_ ?_
  · intro i v G5 m5 mu5 s5 o5 E5 hv le5 ⟨⟨tk, hm1⟩, hm2, hm3, n, e2⟩ ho5 C5
    subst e2
    have hi : i < uss.length := hlen ▸ (List.getElem?_eq_some_iff.mp hv).1
    have hu : uss[i]? = some uss[i] := List.getElem?_eq_getElem hi
    generalize uss[i] = us at hu
    rcases hsp i v us hv hu with ⟨b, ca, rfl, tp, u1, u2, g1, g2⟩ | ⟨rfl, b, D, l, rfl, ob, hD, hn⟩
    · have hl1 := splice_len hu
      have hl2 : (uss.take (i + 1)).flatten.length ≤ uss.flatten.length := by
        rw [← List.take_append_drop (i + 1) uss, List.flatten_append, List.length_append, List.take_append_drop]; omega
      have hul : us.length ≤ 900 := by omega
      have hvi : i < vs.length := (List.getElem?_eq_some_iff.mp hv).1
      repeat walk1
      refine R_setSlice (pre := [_, _]) (post := []) (a := (uss.take i).flatten.length) (b := (uss.take i).flatten.length + 1) (Cx.push (Cx.toks (by assumption) _)) (Heap.IsSliceOf.new ..) (by walk_at "m_at") (by omega) ?_ ?_ fun s6 n6 C6 => ?_
      · rw [List.length_append, List.length_drop]; omega
      · rw [List.length_append, List.length_drop]; omega
      rw [splice_eq hv hu] at C6
      repeat walk1
      refine ⟨_, _, _, ?_, Km.le.refl _, Cx.pop (by assumption)⟩
      refine ⟨⟨_, Eq.trans (by rfl) (congrArg (fun z : Nat => some (Value.int (z : Int) _)) hl1.symm)⟩, by walk_at "m_lk", by walk_at "m_lk", _, rfl⟩
    · have hl1 := splice_len hu
      repeat walk1
      refine R_isiF (by assumption) (by walk_at "m_obj") hD (by decide) hn fun s6 C6 => ?_
      repeat walk1
      refine ⟨_, _, _, ?_, Km.le.refl _, by assumption⟩
      refine ⟨⟨_, Eq.trans (by rfl) (congrArg (fun z : Nat => some (Value.int (z : Int) _)) hl1.symm)⟩, by walk_at "m_lk", by walk_at "m_lk", n, ?_⟩
      rw [splice_one hv hu]
  · intro G5 m5 mu5 s5 E5 ⟨_, hm2, hm3, n, e2⟩ le5 C5
    subst e2
    rw [← hlen, List.take_length, List.drop_eq_nil_of_le (by omega), List.append_nil, hws] at C5
    replace C5 := C5.freeze (fun h => nomatch h)
    repeat walk1
    refine wpAny_call (and_made (Cx.wd (by assumption)) (rm'.le (by decide)) ⟨_, _, .inl rfl, Km.put_self⟩ (fun v hv => ?_) ?_ fun s6 G6 r d tp6 u1 u2 N h6 => ?_)
    · exact (hex v (hws ▸ hv)).mono ((Cx.ps (by assumption)).le)
    · have := congrArg List.length hws
      simp only [List.length_cons] at this
      omega
    · exact hR _ _ _ _ _ _ _ (N.of (Cx.ps (by assumption))) h6
theorem flat_or {a t : Addr} {ca : Bool} {t1 t2 : Tok} {vs : List Value} {uss : List (List Value)} {b c : Value} {ws : List Value} (W : Wd w G s) (rm : Rm A 16) (o : ObjAt G a 612 (grpL false t ca t1 t2)) (ht : TupAt G t vs)
   (hlen : uss.length = vs.length) (hsp : ∀ (i : Nat) (v : Value) us, vs[i]? = some v → uss[i]? = some us → Sp G false v us) (hws : uss.flatten = b :: c :: ws) (hz : vs.length + uss.flatten.length ≤ 900) (hex : ∀ v ∈ uss.flatten, IsEx G v)
   (hR : ∀ s' G' x d tp t1 t2, NewObj w s G s' G' x d 612 (grpL false tp false t1 t2) → TupAt G' tp (b :: c :: ws) → R (.ok (.ret (.ref x))) s') : codeAny (MD w) A (.call (.ref 478) ⟨[.ref a], []⟩) R s := by
  refine R_enter [(Str.ofString "self", .ref a)] (k := 15) (st := mthAt 15 3) (qual := "DualBase.flatten") (cl := []) (dV := .none) (pm := .str "boolean.boolean" 194) (cdv := .ref 477) (ct := .none) (by kernel_rfl) (by k_is) W rm (BindsTo.of_eq rfl) (by decide) (by rfl) rfl rfl rfl rfl fun L s1 C rm' => ?_
  repeat walk1
  refine R_listT (by assumption) (by walk_at "m_at") (by omega) fun la s3 na C3 => ?_
  repeat walk1
  refine wpAny_For ?_
  repeat walk1
  refine R_iterT (by assumption) (by walk_at "m_at") fun I s4 o4 ho4 C4 => ?_
  refine R_forT (t := t) (vs := vs) (fun i G' m' mu' => (∃ tk, m'.lookup (Str.ofString "i") = some (.int (((uss.take i).flatten.length : Nat) : Int) tk)) ∧ m'.lookup (Str.ofString "args") = some (.ref la) ∧ m'.lookup (Str.ofString "self") = some (.ref a) ∧ ∃ n, mu' = [(la, lstObj ((uss.take i).flatten ++ vs.drop i) n)])
    rm'.1 C4 ho4 (by walk_at "m_at") (by rfl) (by rfl) ⟨⟨_, rfl⟩, rfl, rfl, _, rfl⟩ ?_ ?_
  · intro i v G5 m5 mu5 s5 o5 E5 hv le5 ⟨⟨tk, hm1⟩, hm2, hm3, n, e2⟩ ho5 C5
    subst e2
    have hi : i < uss.length := hlen ▸ (List.getElem?_eq_some_iff.mp hv).1
    have hu : uss[i]? = some uss[i] := List.getElem?_eq_getElem hi
    generalize uss[i] = us at hu
    rcases hsp i v us hv hu with ⟨b, ca, rfl, tp, u1, u2, g1, g2⟩ | ⟨rfl, b, D, l, rfl, ob, hD, hn⟩
    · have hl1 := splice_len hu
      have hl2 : (uss.take (i + 1)).flatten.length ≤ uss.flatten.length := by
        rw [← List.take_append_drop (i + 1) uss, List.flatten_append, List.length_append, List.take_append_drop]; omega
      have hul : us.length ≤ 900 := by omega
      have hvi : i < vs.length := (List.getElem?_eq_some_iff.mp hv).1
      repeat walk1
      refine R_setSlice (pre := [_, _]) (post := []) (a := (uss.take i).flatten.length) (b := (uss.take i).flatten.length + 1) (Cx.push (Cx.toks (by assumption) _)) (Heap.IsSliceOf.new ..) (by walk_at "m_at") (by omega) ?_ ?_ fun s6 n6 C6 => ?_
      · rw [List.length_append, List.length_drop]; omega
      · rw [List.length_append, List.length_drop]; omega
      rw [splice_eq hv hu] at C6
      repeat walk1
      refine ⟨_, _, _, ?_, Km.le.refl _, Cx.pop (by assumption)⟩
      refine ⟨⟨_, Eq.trans (by rfl) (congrArg (fun z : Nat => some (Value.int (z : Int) _)) hl1.symm)⟩, by walk_at "m_lk", by walk_at "m_lk", _, rfl⟩
    · have hl1 := splice_len hu
      repeat walk1
      refine R_isiF (by assumption) (by walk_at "m_obj") hD (by decide) hn fun s6 C6 => ?_
      repeat walk1
      refine ⟨_, _, _, ?_, Km.le.refl _, by assumption⟩
      refine ⟨⟨_, Eq.trans (by rfl) (congrArg (fun z : Nat => some (Value.int (z : Int) _)) hl1.symm)⟩, by walk_at "m_lk", by walk_at "m_lk", n, ?_⟩
      rw [splice_one hv hu]
  · intro G5 m5 mu5 s5 E5 ⟨_, hm2, hm3, n, e2⟩ le5 C5
    subst e2
    rw [← hlen, List.take_length, List.drop_eq_nil_of_le (by omega), List.append_nil, hws] at C5
    replace C5 := C5.freeze (fun h => nomatch h)
    repeat walk1
    refine wpAny_call (or_made (Cx.wd (by assumption)) (rm'.le (by decide)) ⟨_, _, .inl rfl, Km.put_self⟩ (fun v hv => ?_) ?_ fun s6 G6 r d tp6 u1 u2 N h6 => ?_)
    · exact (hex v (hws ▸ hv)).mono ((Cx.ps (by assumption)).le)
    · have := congrArg List.length hws
      simp only [List.length_cons] at this
      omega
    · exact hR _ _ _ _ _ _ _ (N.of (Cx.ps (by assumption))) h6
end
-- part C15
inductive Atm
  | ann
  | idn
  | lit (l : Lit)
deriving DecidableEq
section
variable {w : World} {s s' : Shared} {G G' : Km}
def AtomAt (G : Km) (k : Bool) (v : Value) : Atm → Prop
  | .ann => v = .ref (cA (!k))
  | .idn => v = .ref (cA k)
  | .lit l => ∃ a, v = .ref a ∧ LitAt G a l
theorem AtomAt.mono {k : Bool} {v : Value} {x : Atm} (h : G.le G') (y : AtomAt G k v x) : AtomAt G' k v x := by
  cases x with
  | ann => exact y
  | idn => exact y
  | lit l => exact let ⟨a, e, z⟩ := y; ⟨a, e, z.mono h⟩
def AtomsAt (G : Km) (k : Bool) : List Value → List Atm → Prop
  | [], [] => True
  | v :: vs, x :: xs => AtomAt G k v x ∧ AtomsAt G k vs xs
  | _, _ => False
theorem AtomsAt.mono {k : Bool} (h : G.le G') : ∀ {vs : List Value} {xs : List Atm}, AtomsAt G k vs xs → AtomsAt G' k vs xs
  | [], [], _ => trivial
  | _ :: _, _ :: _, ⟨x, r⟩ => ⟨x.mono h, r.mono h⟩
theorem AtomsAt.len {k : Bool} : ∀ {vs : List Value} {xs : List Atm}, AtomsAt G k vs xs → vs.length = xs.length
  | [], [], _ => rfl
  | _ :: _, _ :: _, ⟨_, r⟩ => congrArg (· + 1) r.len
theorem AtomsAt.append {k : Bool} : ∀ {vs us : List Value} {xs ys : List Atm}, AtomsAt G k vs xs → AtomsAt G k us ys → AtomsAt G k (vs ++ us) (xs ++ ys)
  | [], _, [], _, _, h => h
  | _ :: _, _, _ :: _, _, ⟨x, r⟩, h => ⟨x, r.append h⟩
theorem AtomsAt.get {k : Bool} : ∀ {vs : List Value} {xs : List Atm}, AtomsAt G k vs xs → ∀ {i : Nat} {v : Value}, vs[i]? = some v → ∃ x, xs[i]? = some x ∧ AtomAt G k v x
  | [], [], _, _, _, h => by simp at h
  | v :: vs, x :: xs, ⟨a, r⟩, 0, u, h => by
    simp only [List.getElem?_cons_zero, Option.some.injEq] at h
    exact ⟨x, rfl, h ▸ a⟩
  | v :: vs, x :: xs, ⟨a, r⟩, i + 1, u, h => r.get h
def atomsOf : Den → List Atm
  | none => [.ann]
  | some [] => [.idn]
  | some (l :: ls) => (l :: ls).map .lit
theorem atomsOf_pos (D : Den) : 1 ≤ (atomsOf D).length := by
  match D with
  | none => exact Nat.le_refl 1
  | some [] => exact Nat.le_refl 1
  | some (l :: ls) => simp [atomsOf]
theorem LitsAt.atoms {k : Bool} : ∀ {vs : List Value} {ls : List Lit}, LitsAt G vs ls → AtomsAt G k vs (ls.map .lit)
  | [], [], _ => trivial
  | _ :: _, _ :: _, ⟨x, r⟩ => ⟨x, r.atoms⟩
theorem LitAt.exAt {a : Addr} {l : Lit} (h : LitAt G a l) : ∃ D la, ObjAt G a D la ∧ (D = 344 ∨ D = 440) := by
  obtain ⟨nm, b⟩ := l
  cases b with
  | false => exact let ⟨tp, t1, t2, h1, _⟩ := h; ⟨_, _, h1, .inl rfl⟩
  | true => exact let ⟨y, ca, ⟨Db, lb, tp, t1, _, _, h3, _⟩, _⟩ := h; ⟨_, _, h3, .inr rfl⟩
theorem AtomAt.obj {k : Bool} {v : Value} {x : Atm} (W : Wd w G s) (h : AtomAt G k v x) : ∃ a D la, v = .ref a ∧ ObjAt G a D la ∧ D ∈ exCls ∧ D ≠ 563 ∧ D ≠ 612 := by
  cases x with
  | ann => exact let ⟨l, o⟩ := cst_at W (!k); ⟨_, _, l, h, o, cst_ex _, by cases k <;> decide, by cases k <;> decide⟩
  | idn => exact let ⟨l, o⟩ := cst_at W k; ⟨_, _, l, h, o, cst_ex _, by cases k <;> decide, by cases k <;> decide⟩
  | lit l =>
    obtain ⟨a, e, z⟩ := h
    obtain ⟨D, la, o, hD⟩ := z.exAt
    rcases hD with rfl | rfl
    · exact ⟨a, _, la, e, o, by decide, by decide, by decide⟩
    · exact ⟨a, _, la, e, o, by decide, by decide, by decide⟩
theorem AtomAt.ex {k : Bool} {v : Value} {x : Atm} (W : Wd w G s) (h : AtomAt G k v x) : IsEx G v := let ⟨a, D, la, e, o, hD, _⟩ := h.obj W; ⟨a, D, la, e, o, hD⟩
theorem isi_grp {D : Addr} {k : Bool} (hD : D ∈ exCls) (h1 : D ≠ 563) (h2 : D ≠ 612) : isiTab D (grpOf k) = false := by
  simp only [exCls, List.mem_cons, List.not_mem_nil, or_false] at hD
  rcases hD with rfl | rfl | rfl | rfl | rfl | rfl <;> first | exact absurd rfl h1 | exact absurd rfl h2 | (cases k <;> decide)
-- the parts after literalize
def PBs (G : Km) (k : Bool) : List Value → List Den → Prop
  | [], [] => True
  | v :: vs, D :: Ds => PB k D G v ∧ PBs G k vs Ds
  | _, _ => False
theorem spl {k : Bool} (W : Wd w G s) : ∀ {vs : List Value} {Ds : List Den}, PBs G k vs Ds → ∃ uss : List (List Value), uss.length = vs.length ∧ (∀ (i : Nat) (v : Value) us, vs[i]? = some v → uss[i]? = some us → Sp G k v us) ∧ AtomsAt G k uss.flatten (Ds.flatMap atomsOf) := by
  intro vs
  induction vs with
  | nil => intro Ds h; cases Ds with
    | nil => exact ⟨[], rfl, fun _ _ _ h => by simp at h, trivial⟩
    | cons _ _ => cases h
  | cons v vs ih =>
    intro Ds h
    cases Ds with
    | nil => cases h
    | cons D Ds =>
      obtain ⟨⟨r, rfl, hb⟩, h2⟩ := h
      obtain ⟨uss, e1, e2, e3⟩ := ih h2
      have key : ∃ us, Sp G k (.ref r) us ∧ AtomsAt G k us (atomsOf D) := by
        have one : ∀ x, AtomAt G k (.ref r) x → Sp G k (.ref r) [.ref r] := fun x hx => let ⟨a, D, la, e, o, hD, n1, n2⟩ := hx.obj W; .inr ⟨rfl, a, D, la, e, o, hD, isi_grp hD n1 n2⟩
        match D, hb with
        | none, hb =>
          have x : AtomAt G k (.ref r) .ann := congrArg Value.ref hb
          exact ⟨_, one _ x, x, trivial⟩
        | some [], hb =>
          have x : AtomAt G k (.ref r) .idn := congrArg Value.ref hb
          exact ⟨_, one _ x, x, trivial⟩
        | some [l], hb =>
          have x : AtomAt G k (.ref r) (.lit l) := ⟨r, rfl, hb⟩
          exact ⟨_, one _ x, x, trivial⟩
        | some (l₁ :: l₂ :: ls), ⟨us, ca, g, hl⟩ => exact ⟨us, .inl ⟨r, ca, rfl, g⟩, hl.atoms⟩
      obtain ⟨us, k1, k2⟩ := key
      refine ⟨us :: uss, congrArg (· + 1) e1, fun i v' us' hv hu => ?_, ?_⟩
      · cases i with
        | zero =>
          simp only [List.getElem?_cons_zero, Option.some.injEq] at hv hu
          subst hv hu
          exact k1
        | succ i => exact e2 i v' us' hv hu
      · show AtomsAt G k (us ++ uss.flatten) (atomsOf D ++ Ds.flatMap atomsOf)
        exact k2.append e3
theorem flat_len : ∀ (Ds : List Den), Ds.length ≤ (Ds.flatMap atomsOf).length
  | [] => Nat.le_refl 0
  | D :: Ds => by
    rw [List.flatMap_cons, List.length_append, List.length_cons]
    have := flat_len Ds
    have := atomsOf_pos D
    omega
theorem PBs.len {k : Bool} : ∀ {vs : List Value} {Ds : List Den}, PBs G k vs Ds → vs.length = Ds.length
  | [], [], _ => rfl
  | _ :: _, _ :: _, ⟨_, r⟩ => congrArg (· + 1) r.len
theorem AtomsAt.mem {k : Bool} {vs : List Value} {xs : List Atm} (h : AtomsAt G k vs xs) {v : Value} (hv : v ∈ vs) : ∃ x, x ∈ xs ∧ AtomAt G k v x := by
  obtain ⟨i, hi⟩ := List.mem_iff_getElem?.mp hv
  obtain ⟨x, hx, a⟩ := h.get hi
  exact ⟨x, List.mem_iff_getElem?.mpr ⟨i, hx⟩, a⟩
variable {A : Around} {R : Result → Shared → Prop}
theorem flat_k {k : Bool} {a : Addr} {ca : Bool} {vs : List Value} {Ds : List Den} (W : Wd w G s) (rm : Rm A 16) (ha : GrpAt G a k vs ca) (hp : PBs G k vs Ds) (h2 : 2 ≤ vs.length) (hz : vs.length + (Ds.flatMap atomsOf).length ≤ 900)
    (hR : ∀ s' G' x d tp t1 t2 ws, NewObj w s G s' G' x d (grpOf k) (grpL k tp false t1 t2) → TupAt G' tp ws → AtomsAt G' k ws (Ds.flatMap atomsOf) → R (.ok (.ret (.ref x))) s') : codeAny (MD w) A (.call (.ref 478) ⟨[.ref a], []⟩) R s := by
  obtain ⟨uss, e1, e2, e3⟩ := spl W hp
  obtain ⟨tp, t1, t2, o, ht⟩ := ha
  have hl := e3.len
  have hl2 := flat_len Ds
  have hl3 := hp.len
  have : ∃ b c ws, uss.flatten = b :: c :: ws := by
    match uss.flatten, hl with
    | [], hl => simp only [List.length_nil] at hl; omega
    | [_], hl => simp only [List.length_cons, List.length_nil] at hl; omega
    | b :: c :: ws, _ => exact ⟨b, c, ws, rfl⟩
  obtain ⟨b, c, ws, e⟩ := this
  have hex : ∀ v ∈ uss.flatten, IsEx G v := fun v hv => let ⟨x, _, hx⟩ := e3.mem hv; hx.ex W
  cases k with
  | true => exact flat_and W rm o ht e1 e2 e (by omega) hex fun s' G' x d tp t1 t2 N h => hR s' G' x d tp t1 t2 _ N h (e ▸ e3.mono N.ps.le)
  | false => exact flat_or W rm o ht e1 e2 e (by omega) hex fun s' G' x d tp t1 t2 N h => hR s' G' x d tp t1 t2 _ N h (e ▸ e3.mono N.ps.le)
end
-- part C16
section
variable {w : World} {s s' : Shared} {G G' : Km}
theorem ObjAt.look {a D D' : Addr} {l l' : List (Str × Value)} (h : ObjAt G a D l) (h' : ObjAt G a D' l') (x : Str) : l.lookup x = l'.lookup x := by
  obtain ⟨d, es, n, h1, h2, h3⟩ := h
  obtain ⟨d', es', n', k1, k2, k3⟩ := h'
  have e1 : instObj D d = instObj D' d' := Option.some.inj (h1.symm.trans k1)
  have e2 : d = d' := by
    have := congrArg Obj.dict e1
    simpa [instObj] using this
  subst e2
  have e3 : dictOf es n = dictOf es' n' := Option.some.inj (h2.symm.trans k2)
  have e4 : es = es' := by
    have := congrArg Obj.data e3
    simp [dictOf] at this
    exact this.1
  subst e4
  exact Option.some.inj ((h3.get x).symm.trans (k3.get x))
theorem SymAt.name {a : Addr} {n1 n2 : Str} (h : SymAt G a n1) (h' : SymAt G a n2) : n1 = n2 := by
  obtain ⟨tp, t1, t2, o, _⟩ := h
  obtain ⟨tp', u1, u2, o', _⟩ := h'
  have e := o.look o' (Str.ofString "obj")
  have e : some (Value.str n1 t2) = some (Value.str n2 u2) := e
  cases e
  rfl
theorem NotOf.arg {a x y : Addr} {c1 c2 : Bool} (h : NotOf G a x c1) (h' : NotOf G a y c2) : x = y := by
  obtain ⟨D1, l1, tp, t1, _, _, o, ht⟩ := h
  obtain ⟨D2, l2, tq, t2, _, _, o', hq⟩ := h'
  have e := o.look o' (Str.ofString "args")
  have e : some (Value.ref tp) = some (Value.ref tq) := e
  cases e
  have e2 := Option.some.inj (ht.symm.trans hq)
  have e3 : (#[Value.ref x] : Array Value) = #[.ref y] := by
    have := congrArg Obj.data e2
    simpa using this
  simpa using e3
theorem LitAt.same {a : Addr} {l l' : Lit} (h : LitAt G a l) (h' : LitAt G a l') : l = l' := by
  obtain ⟨nm, b⟩ := l
  obtain ⟨nm', b'⟩ := l'
  cases b <;> cases b'
  · exact congrArg (·, false) (SymAt.name h h')
  · obtain ⟨y, ca, ⟨Db, lb, tp, t1, _, _, o, _⟩, _⟩ := h'
    obtain ⟨_, _, _, o', _⟩ := h
    have := ObjAt.same o o'
    cases this
  · obtain ⟨y, ca, ⟨Db, lb, tp, t1, _, _, o, _⟩, _⟩ := h
    obtain ⟨_, _, _, o', _⟩ := h'
    have := ObjAt.same o o'
    cases this
  · obtain ⟨y, ca, h1, h2⟩ := h
    obtain ⟨y', ca', k1, k2⟩ := h'
    cases h1.arg k1
    exact congrArg (·, true) (SymAt.name h2 k2)
theorem eq_lit {a b : Addr} {l l' : Lit} (ha : LitAt G a l) (hb : LitAt G b l') : EqB w 7 G a b (decide (l = l')) := by
  by_cases hab : a = b
  · subst hab
    cases ha.same hb
    exact .inl ⟨rfl, by simp⟩
  · refine .inr ⟨hab, ?_⟩
    obtain ⟨n1, b1⟩ := l
    obtain ⟨n2, b2⟩ := l'
    cases b1 <;> cases b2
    · have e : (decide ((n1, false) = (n2, false))) = (n1 == n2) := by
        rw [Bool.eq_iff_iff]; simp
      rw [e]
      exact (eqP_sym ha hb hab).up (by decide)
    · obtain ⟨y, ca, ⟨Db, lb, tp, t1, _, _, o, _⟩, _⟩ := hb
      obtain ⟨_, _, _, o', _⟩ := ha
      rw [show decide ((n1, false) = (n2, true)) = false by simp]
      exact (eqP_symNot o' o hab).up (by decide)
    · obtain ⟨y, ca, ⟨Db, lb, tp, t1, _, _, o, _⟩, _⟩ := ha
      obtain ⟨_, _, _, o', _⟩ := hb
      rw [show decide ((n1, true) = (n2, false)) = false by simp]
      exact (eqP_notSym o o' hab).up (by decide)
    · obtain ⟨y, ca, ⟨D1, l1, tp, t1, _, _, o, ht⟩, hy⟩ := ha
      obtain ⟨z, cb, ⟨D2, l2, tq, t2, _, _, o', hq⟩, hz⟩ := hb
      have one : ∀ {x y : Addr} {n1 n2 : Str}, SymAt G x n1 → SymAt G y n2 → EqB w 3 G x y (n1 == n2) := fun {x y n1 n2} h1 h2 => by
        by_cases e : x = y
        · subst e
          exact .inl ⟨rfl, by rw [h1.name h2]; simp⟩
        · exact .inr ⟨e, eqP_sym h1 h2 e⟩
      have e : (decide ((n1, true) = (n2, true))) = ((n2 == n1) && (n1 == n2)) := by
        rw [Bool.eq_iff_iff]
        simp only [decide_eq_true_eq, Prod.mk.injEq, and_true, Bool.and_eq_true, beq_iff_eq]
        exact ⟨fun e => ⟨e.symm, e⟩, fun e => e.2⟩
      rw [e]
      exact eqP_not o (by rfl) ht o' (by rfl) hq hab (one hz hy) (one hy hz)
theorem lit_cst {a : Addr} {l : Lit} (h : LitAt G a l) (b : Bool) {s : Shared} (W : Wd w G s) : EqP w 7 G (cA b) a false ∧ EqP w 7 G a (cA b) false ∧ a ≠ cA b := by
  obtain ⟨D, la, o, hD⟩ := h.exAt
  obtain ⟨lc, hc⟩ := cst_at W b
  have hn : a ≠ cA b := fun e => by
    subst e
    have := ObjAt.same o hc
    rcases hD with rfl | rfl <;> cases b <;> simp [cD] at this
  rcases hD with rfl | rfl
  · exact ⟨(eqP_cst o (by decide) (Ne.symm hn) (by cases b <;> decide)).up (by decide), (eqP_toCst o (by decide) hn (by cases b <;> decide) (by cases b <;> decide) (by decide) (.inr rfl)).up (by decide), hn⟩
  · exact ⟨(eqP_cst o (by decide) (Ne.symm hn) (by cases b <;> decide)).up (by decide), (eqP_toCst o (by decide) hn (by cases b <;> decide) (by cases b <;> decide) (by decide) (.inl (by decide))).up (by decide), hn⟩
theorem cst_cst (b : Bool) {s : Shared} (W : Wd w G s) : EqP w 7 G (cA b) (cA (!b)) false ∧ cA b ≠ cA (!b) := by
  obtain ⟨lc, hc⟩ := cst_at W (!b)
  have hn : cA b ≠ cA (!b) := by cases b <;> decide
  exact ⟨(eqP_cst hc (cst_ex _) hn (by cases b <;> decide)).up (by decide), hn⟩
-- equality of atoms
theorem eq_atm {k : Bool} {a b : Addr} {x y : Atm} {s : Shared} (W : Wd w G s) (ha : AtomAt G k (.ref a) x) (hb : AtomAt G k (.ref b) y) : EqB w 7 G a b (decide (x = y)) := by
  have inj : ∀ {a b : Addr}, Value.ref a = Value.ref b → a = b := fun e => Value.ref.inj e
  cases x with
  | ann =>
    have e := inj ha
    subst e
    cases y with
    | ann => exact .inl ⟨(inj hb).symm, by simp⟩
    | idn =>
      have e := inj hb
      subst e
      have := cst_cst (!k) W
      rw [Bool.not_not] at this
      exact .inr ⟨this.2, by simpa using this.1⟩
    | lit l =>
      obtain ⟨b', e, h⟩ := hb
      cases e
      have := lit_cst h (!k) W
      exact .inr ⟨Ne.symm this.2.2, by simpa using this.1⟩
  | idn =>
    have e := inj ha
    subst e
    cases y with
    | ann =>
      have e := inj hb
      subst e
      have := cst_cst k W
      exact .inr ⟨this.2, by simpa using this.1⟩
    | idn => exact .inl ⟨(inj hb).symm, by simp⟩
    | lit l =>
      obtain ⟨b', e, h⟩ := hb
      cases e
      have := lit_cst h k W
      exact .inr ⟨Ne.symm this.2.2, by simpa using this.1⟩
  | lit l =>
    obtain ⟨a', e, h⟩ := ha
    cases e
    cases y with
    | ann =>
      have e := inj hb
      subst e
      have := lit_cst h (!k) W
      exact .inr ⟨this.2.2, by simpa using this.2.1⟩
    | idn =>
      have e := inj hb
      subst e
      have := lit_cst h k W
      exact .inr ⟨this.2.2, by simpa using this.2.1⟩
    | lit l' =>
      obtain ⟨b', e, h'⟩ := hb
      cases e
      have := eq_lit (w := w) h h'
      simpa using this
theorem eq_all {k : Bool} {b : Addr} {y : Atm} {s : Shared} (W : Wd w G s) (hb : AtomAt G k (.ref b) y) : ∀ {vs : List Value} {xs : List Atm}, AtomsAt G k vs xs → EqAll w 7 G b vs (xs.map fun x => decide (x = y))
  | [], [], _ => trivial
  | v :: vs, x :: xs, ⟨h, r⟩ => by
    obtain ⟨a, D, la, rfl, _⟩ := h.obj W
    exact ⟨⟨a, rfl, eq_atm W h hb⟩, eq_all W hb r⟩
theorem any_mem (xs : List Atm) (y : Atm) : (xs.map fun x => decide (x = y)).any id = decide (y ∈ xs) := by
  rw [Bool.eq_iff_iff]
  simp
end
-- part C17
section
variable {X : List Addr} {w : World} {s₀ s s' : Shared} {G₀ G G' : Km} {L : Addr} {m : List (Str × Value)} {mu : List (Addr × Obj)} {A : Around} {E : Value → Shared → Prop} {R : Result → Shared → Prop}
theorem absorb_and {a t la : Addr} {ca : Bool} {t1 t2 : Tok} {v0 : Value} {vs : List Value} {ls : List Lit} (W : Wd w G s) (rm : Rm A 4) (o : ObjAt G a 563 (grpL true t ca t1 t2)) (ht : SeqAt G la (v0 :: vs)) (hl : LitsAt G (v0 :: vs) ls) (hz : vs.length ≤ 900)
   (hR : ∀ s' G' r n, Wd w G' s' → Ps [] s G s' G' → Fresh s s' G' [(r, lstObj (v0 :: vs) n)] → R (.ok (.ret (.ref r))) s') : codeAny (MD w) A (.call (.ref 485) ⟨[.ref a, .ref la], []⟩) R s := by
  refine R_enter [(Str.ofString "args", .ref la), (Str.ofString "self", .ref a)] (k := 3) (st := mthAt 15 4) (qual := "DualBase.absorb") (cl := []) (dV := .none) (pm := .str "boolean.boolean" 194) (cdv := .ref 484) (ct := .none) (by kernel_rfl) (by k_is) W rm (BindsTo.of_eq rfl) (by decide) (by rfl) rfl rfl rfl rfl fun L s1 C rm' => ?_
  have hzz : (v0 :: vs).length ≤ 2000 := by simp only [List.length_cons]; omega
  repeat walk1
  refine R_listS (by assumption) (ht.mono (Cx.ps (by assumption)).le) (by simp only [List.length_cons]; omega) fun lb s3 nb C3 => ?_
  repeat walk1
  refine wpAny_While (R_while (fun n s' => ∃ i m' tk, Cx [] w s G G L m' [(lb, lstObj (v0 :: vs) nb)] s' ∧ i + n = vs.length + 1 ∧ m'.lookup (Str.ofString "i") = some (.int ((i : Nat) : Int) tk) ∧ m'.lookup (Str.ofString "args") = some (.ref lb) ∧ m'.lookup (Str.ofString "self") = some (.ref a)) (fun n s4 ⟨i, m4, tk, C4, hi, h1, h2, h3⟩ => ?_) (vs.length + 1) ⟨0, _, _, by assumption, Nat.zero_add _, by with_unfolding_all exact rfl, by walk_at "m_lk", by walk_at "m_lk"⟩)
  have hwl : (v0 :: vs).length = vs.length + 1 := rfl
  generalize v0 :: vs = ws at *
  repeat walk1
  · rename_i q
    have hlt : i < ws.length := by simpa using q
    have hv : ws[i]? = some ws[i] := List.getElem?_eq_getElem hlt
    generalize ws[i] = av at hv
    clear q C3
    repeat walk1
    refine wpAny_While (R_while (fun n s' => ∃ j m' tj, Cx [] w s G G L m' [(lb, lstObj ws nb)] s' ∧ j + n = ws.length ∧ m'.lookup (Str.ofString "j") = some (.int ((j : Nat) : Int) tj) ∧ m'.lookup (Str.ofString "i") = some (.int ((i : Nat) : Int) tk) ∧ m'.lookup (Str.ofString "args") = some (.ref lb) ∧ m'.lookup (Str.ofString "self") = some (.ref a)) (fun n5 s5 ⟨j, m5, tj, C5, hj, k0, k1, k2, k3⟩ => ?_) ws.length
      ⟨0, _, _, by assumption, Nat.zero_add _, by with_unfolding_all exact rfl, by walk_at "m_lk", by walk_at "m_lk", by walk_at "m_lk"⟩)
    clear C4 h1 h2 h3
    repeat walk1
    · have hlj : j < ws.length := by have := ‹((j : Nat) : Int) < ((ws.length : Nat) : Int)›; omega
      show Again _ _ _
      exact ⟨n5 - 1, by omega, j + 1, _, _, by assumption, by omega, by with_unfolding_all exact rfl, by walk_at "m_lk", by walk_at "m_lk", by walk_at "m_lk"⟩
    · have hlj : j < ws.length := by have := ‹((j : Nat) : Int) < ((ws.length : Nat) : Int)›; omega
      have hvj : ws[j]? = some ws[j] := List.getElem?_eq_getElem hlj
      obtain ⟨b, lj, hb, _, hbl⟩ := hl.get hvj
      obtain ⟨D, lb', ob, hD⟩ := hbl.exAt
      rw [hb] at hvj
      have hDe : D ∈ exCls := by rcases hD with rfl | rfl <;> decide
      have hDi : isiTab D (grpOf (!true)) = false := by rcases hD with rfl | rfl <;> decide
      repeat walk1
      refine wpAny_call (isDual_k (k := true) (D := D) (Cx.wd (by assumption)) (rm'.le (by decide)) (ob.mono (Cx.ps (by assumption)).le) hDe fun s6 W6 P6 => ?_)
      rw [hDi]
      clear ob
      have C6 := Cx.after (by assumption) W6 P6
      repeat walk1
      show Again _ _ _
      exact ⟨n5 - 1, by omega, j + 1, _, _, by assumption, by omega, by with_unfolding_all exact rfl, by walk_at "m_lk", by walk_at "m_lk", by walk_at "m_lk"⟩
    · have hge : ws.length ≤ j := by have := ‹¬ ((j : Nat) : Int) < ((ws.length : Nat) : Int)›; omega
      repeat walk1
      show Again _ _ _
      exact ⟨n - 1, by omega, i + 1, _, _, by assumption, by omega, by with_unfolding_all exact rfl, by walk_at "m_lk", by walk_at "m_lk"⟩
  · rename_i q
    have hge : ws.length ≤ i := by simpa using q
    repeat walk1
    exact hR _ _ _ _ (Cx.wd (by assumption)) (Cx.ps (by assumption)) (Cx.fresh' (mu := [(lb, lstObj ws nb)]) (by assumption))
theorem absorb_or {a t la : Addr} {ca : Bool} {t1 t2 : Tok} {v0 : Value} {vs : List Value} {ls : List Lit} (W : Wd w G s) (rm : Rm A 4) (o : ObjAt G a 612 (grpL false t ca t1 t2)) (ht : SeqAt G la (v0 :: vs)) (hl : LitsAt G (v0 :: vs) ls) (hz : vs.length ≤ 900)
   (hR : ∀ s' G' r n, Wd w G' s' → Ps [] s G s' G' → Fresh s s' G' [(r, lstObj (v0 :: vs) n)] → R (.ok (.ret (.ref r))) s') : codeAny (MD w) A (.call (.ref 485) ⟨[.ref a, .ref la], []⟩) R s := by
  refine R_enter [(Str.ofString "args", .ref la), (Str.ofString "self", .ref a)] (k := 3) (st := mthAt 15 4) (qual := "DualBase.absorb") (cl := []) (dV := .none) (pm := .str "boolean.boolean" 194) (cdv := .ref 484) (ct := .none) (by kernel_rfl) (by k_is) W rm (BindsTo.of_eq rfl) (by decide) (by rfl) rfl rfl rfl rfl fun L s1 C rm' => ?_
  have hzz : (v0 :: vs).length ≤ 2000 := by simp only [List.length_cons]; omega
  repeat walk1
  refine R_listS (by assumption) (ht.mono (Cx.ps (by assumption)).le) (by simp only [List.length_cons]; omega) fun lb s3 nb C3 => ?_
  repeat walk1
  refine wpAny_While (R_while (fun n s' => ∃ i m' tk, Cx [] w s G G L m' [(lb, lstObj (v0 :: vs) nb)] s' ∧ i + n = vs.length + 1 ∧ m'.lookup (Str.ofString "i") = some (.int ((i : Nat) : Int) tk) ∧ m'.lookup (Str.ofString "args") = some (.ref lb) ∧ m'.lookup (Str.ofString "self") = some (.ref a)) (fun n s4 ⟨i, m4, tk, C4, hi, h1, h2, h3⟩ => ?_) (vs.length + 1) ⟨0, _, _, by assumption, Nat.zero_add _, by with_unfolding_all exact rfl, by walk_at "m_lk", by walk_at "m_lk"⟩)
  have hwl : (v0 :: vs).length = vs.length + 1 := rfl
  generalize v0 :: vs = ws at *
  repeat walk1
  · rename_i q
    have hlt : i < ws.length := by simpa using q
    have hv : ws[i]? = some ws[i] := List.getElem?_eq_getElem hlt
    generalize ws[i] = av at hv
    clear q C3
    repeat walk1
    refine wpAny_While (R_while (fun n s' => ∃ j m' tj, Cx [] w s G G L m' [(lb, lstObj ws nb)] s' ∧ j + n = ws.length ∧ m'.lookup (Str.ofString "j") = some (.int ((j : Nat) : Int) tj) ∧ m'.lookup (Str.ofString "i") = some (.int ((i : Nat) : Int) tk) ∧ m'.lookup (Str.ofString "args") = some (.ref lb) ∧ m'.lookup (Str.ofString "self") = some (.ref a)) (fun n5 s5 ⟨j, m5, tj, C5, hj, k0, k1, k2, k3⟩ => ?_) ws.length
      ⟨0, _, _, by assumption, Nat.zero_add _, by with_unfolding_all exact rfl, by walk_at "m_lk", by walk_at "m_lk", by walk_at "m_lk"⟩)
    clear C4 h1 h2 h3
    repeat walk1
    · have hlj : j < ws.length := by have := ‹((j : Nat) : Int) < ((ws.length : Nat) : Int)›; omega
      show Again _ _ _
      exact ⟨n5 - 1, by omega, j + 1, _, _, by assumption, by omega, by with_unfolding_all exact rfl, by walk_at "m_lk", by walk_at "m_lk", by walk_at "m_lk"⟩
    · have hlj : j < ws.length := by have := ‹((j : Nat) : Int) < ((ws.length : Nat) : Int)›; omega
      have hvj : ws[j]? = some ws[j] := List.getElem?_eq_getElem hlj
      obtain ⟨b, lj, hb, _, hbl⟩ := hl.get hvj
      obtain ⟨D, lb', ob, hD⟩ := hbl.exAt
      rw [hb] at hvj
      have hDe : D ∈ exCls := by rcases hD with rfl | rfl <;> decide
      have hDi : isiTab D (grpOf (!false)) = false := by rcases hD with rfl | rfl <;> decide
      repeat walk1
      refine wpAny_call (isDual_k (k := false) (D := D) (Cx.wd (by assumption)) (rm'.le (by decide)) (ob.mono (Cx.ps (by assumption)).le) hDe fun s6 W6 P6 => ?_)
      rw [hDi]
      clear ob
      have C6 := Cx.after (by assumption) W6 P6
      repeat walk1
      show Again _ _ _
      exact ⟨n5 - 1, by omega, j + 1, _, _, by assumption, by omega, by with_unfolding_all exact rfl, by walk_at "m_lk", by walk_at "m_lk", by walk_at "m_lk"⟩
    · have hge : ws.length ≤ j := by have := ‹¬ ((j : Nat) : Int) < ((ws.length : Nat) : Int)›; omega
      repeat walk1
      show Again _ _ _
      exact ⟨n - 1, by omega, i + 1, _, _, by assumption, by omega, by with_unfolding_all exact rfl, by walk_at "m_lk", by walk_at "m_lk"⟩
  · rename_i q
    have hge : ws.length ≤ i := by simpa using q
    repeat walk1
    exact hR _ _ _ _ (Cx.wd (by assumption)) (Cx.ps (by assumption)) (Cx.fresh' (mu := [(lb, lstObj ws nb)]) (by assumption))
theorem absorb_k {k : Bool} {a la : Addr} {ca : Bool} {us : List Value} {v0 : Value} {vs : List Value} {ls : List Lit} (W : Wd w G s) (rm : Rm A 4) (ha : GrpAt G a k us ca) (ht : SeqAt G la (v0 :: vs)) (hl : LitsAt G (v0 :: vs) ls) (hz : vs.length ≤ 900)
   (hR : ∀ s' G' r n, Wd w G' s' → Ps [] s G s' G' → Fresh s s' G' [(r, lstObj (v0 :: vs) n)] → R (.ok (.ret (.ref r))) s') : codeAny (MD w) A (.call (.ref 485) ⟨[.ref a, .ref la], []⟩) R s := by
  obtain ⟨tp, t1, t2, o, _⟩ := ha
  cases k with
  | true => exact absorb_and W rm o ht hl hz hR
  | false => exact absorb_or W rm o ht hl hz hR
end
-- part C18
section
variable {X : List Addr} {w : World} {s₀ s s' : Shared} {G₀ G G' : Km} {L : Addr} {m : List (Str × Value)} {mu : List (Addr × Obj)} {A : Around} {E : Value → Shared → Prop} {R : Result → Shared → Prop}
theorem order_symSym {a b : Addr} {n1 n2 : Str} (W : Wd w G s) (rm : Rm A 1) (ha : SymAt G a n1) (hb : SymAt G b n2) (hR : ∀ s', Wd w G s' → Ps [] s G s' G → R (.ok (.ret .notImplemented)) s') : codeAny (MD w) A (.call (.ref 104) ⟨[.ref a, .ref b], []⟩) R s := by
  obtain ⟨p1, t1, u1, Ia, _⟩ := ha
  obtain ⟨p2, t2, u2, Ib, _⟩ := hb
  refine R_enter [(Str.ofString "other", .ref b), (Str.ofString "self", .ref a)] (k := 0) (st := mthAt 6 9) (qual := "Expression.by_order") (cl := []) (dV := .none) (pm := .str "boolean.boolean" 194) (cdv := .ref 103) (ct := .none) (by kernel_rfl) (by k_is) W rm (BindsTo.of_eq rfl) (by decide) (by rfl) rfl rfl rfl rfl fun L s1 C rm' => ?_
  repeat walk1
  exact hR _ (W.weaken (Cx.wd (by assumption)) (Ps.le (Cx.ps (by assumption)))) (Ps.weaken (Cx.ps (by assumption)))
theorem order_symNot {a b y : Addr} {ca : Bool} {n1 : Str} (W : Wd w G s) (rm : Rm A 1) (ha : SymAt G a n1) (hb : NotOf G b y ca) (hR : ∀ s', Wd w G s' → Ps [] s G s' G → R (.ok (.ret .notImplemented)) s') : codeAny (MD w) A (.call (.ref 104) ⟨[.ref a, .ref b], []⟩) R s := by
  obtain ⟨p1, t1, u1, Ia, _⟩ := ha
  obtain ⟨D2, l2, p2, t2, _, _, Ib, _⟩ := hb
  refine R_enter [(Str.ofString "other", .ref b), (Str.ofString "self", .ref a)] (k := 0) (st := mthAt 6 9) (qual := "Expression.by_order") (cl := []) (dV := .none) (pm := .str "boolean.boolean" 194) (cdv := .ref 103) (ct := .none) (by kernel_rfl) (by k_is) W rm (BindsTo.of_eq rfl) (by decide) (by rfl) rfl rfl rfl rfl fun L s1 C rm' => ?_
  repeat walk1
  exact hR _ (W.weaken (Cx.wd (by assumption)) (Ps.le (Cx.ps (by assumption)))) (Ps.weaken (Cx.ps (by assumption)))
def sLt (a b : Str) : Bool := decide (a.cps.toList < b.cps.toList)
theorem sym_lt {a b : Addr} {n1 n2 : Str} (W : Wd w G s) (rm : Rm A 3) (ha : SymAt G a n1) (hb : SymAt G b n2) (hR : ∀ s', Wd w G s' → Ps [] s G s' G → R (.ok (.ret (.bool (sLt n1 n2)))) s') : codeAny (MD w) A (.call (.ref 334) ⟨[.ref a, .ref b], []⟩) R s := by
  obtain ⟨p1, t1, u1, Ia, _⟩ := id ha
  obtain ⟨p2, t2, u2, Ib, _⟩ := id hb
  refine R_enter [(Str.ofString "other", .ref b), (Str.ofString "self", .ref a)] (k := 2) (st := mthAt 12 4) (qual := "Symbol.__lt__") (cl := []) (dV := .none) (pm := .str "boolean.boolean" 194) (cdv := .ref 333) (ct := .none) (by kernel_rfl) (by k_is) W rm (BindsTo.of_eq rfl) (by decide) (by rfl) rfl rfl rfl rfl fun L s1 C rm' => ?_
  repeat walk1
  refine wpAny_call (order_symSym (Cx.wd (by assumption)) (rm'.le (by decide)) (ha.mono (Cx.ps (by assumption)).le) (hb.mono (Cx.ps (by assumption)).le) fun s3 W3 P3 => ?_)
  have C3 := Cx.after (by assumption) W3 P3
  repeat walk1
  exact hR _ (W.weaken (Cx.wd (by assumption)) (Ps.le (Cx.ps (by assumption)))) (Ps.weaken (Cx.ps (by assumption)))
theorem sym_ltNot {a b y : Addr} {ca : Bool} {n1 : Str} (W : Wd w G s) (rm : Rm A 3) (ha : SymAt G a n1) (hb : NotOf G b y ca) (hR : ∀ s', Wd w G s' → Ps [] s G s' G → R (.ok (.ret .notImplemented)) s') : codeAny (MD w) A (.call (.ref 334) ⟨[.ref a, .ref b], []⟩) R s := by
  obtain ⟨p1, t1, u1, Ia, _⟩ := id ha
  obtain ⟨D2, l2, p2, t2, _, _, Ib, _⟩ := id hb
  refine R_enter [(Str.ofString "other", .ref b), (Str.ofString "self", .ref a)] (k := 2) (st := mthAt 12 4) (qual := "Symbol.__lt__") (cl := []) (dV := .none) (pm := .str "boolean.boolean" 194) (cdv := .ref 333) (ct := .none) (by kernel_rfl) (by k_is) W rm (BindsTo.of_eq rfl) (by decide) (by rfl) rfl rfl rfl rfl fun L s1 C rm' => ?_
  repeat walk1
  refine wpAny_call (order_symNot (Cx.wd (by assumption)) (rm'.le (by decide)) (ha.mono (Cx.ps (by assumption)).le) (hb.mono (Cx.ps (by assumption)).le) fun s3 W3 P3 => ?_)
  have C3 := Cx.after (by assumption) W3 P3
  repeat walk1
  exact hR _ (W.weaken (Cx.wd (by assumption)) (Ps.le (Cx.ps (by assumption)))) (Ps.weaken (Cx.ps (by assumption)))
-- symbols under <
theorem cmp_symSym {a b : Addr} {n1 n2 : Str} {Q : Value → Shared → Prop} (W : Wd w G s) (rm : Rm A 3) (ha : SymAt G a n1) (hb : SymAt G b n2) (hQ : ∀ s', Wd w G s' → Ps [] s G s' G → Q (.bool (sLt n1 n2)) s') : wpAny (MD w) A (richCompare .Lt (.ref a) (.ref b)) Q E s := by
  obtain ⟨p1, t1, u1, Ia, _⟩ := id ha
  obtain ⟨p2, t2, u2, Ib, _⟩ := id hb
  have l := lt_tab (P := w.params) (D := 344) (.inl rfl)
  have g := eq_tab (P := w.params) (D := 344) (by decide)
  simp only [Bool.and_eq_true, beq_iff_eq] at l g
  exact R_cmp (op := .Lt) W rm.units Ia Ib (by decide) (by decide) l.1 l.2 g.1.2 g.2 (sym_lt W rm ha hb fun s' W' P' => ⟨_, rfl, .inl ⟨nofun, hQ s' W' P'⟩⟩)
-- NOT x < b
theorem not_lt {a x b : Addr} {ca : Bool} {r : Bool} {k : Nat} (W : Wd w G s) (rm : Rm A (k + 1)) (ha : NotOf G a x ca)
    (hc : ∀ (A : Around) (E : Value → Shared → Prop) (s : Shared) (Q : Value → Shared → Prop), Wd w G s → Rm A k → (∀ s', Wd w G s' → Ps [] s G s' G → Q (.bool r) s') → wpAny (MD w) A (richCompare .Lt (.ref x) (.ref b)) Q E s)
    (hR : ∀ s', Wd w G s' → Ps [] s G s' G → R (.ok (.ret (.bool r))) s') : codeAny (MD w) A (.call (.ref 437) ⟨[.ref a, .ref b], []⟩) R s := by
  obtain ⟨D1, l1, p1, t1, Ix, _, Ia, h1⟩ := id ha
  clear Ix
  refine R_enter [(Str.ofString "other", .ref b), (Str.ofString "self", .ref a)] (k := k) (st := mthAt 14 7) (qual := "NOT.__lt__") (cl := []) (dV := .none) (pm := .str "boolean.boolean" 194) (cdv := .ref 436) (ct := .none) (by kernel_rfl) (by k_is) W rm (BindsTo.of_eq rfl) (by decide) (by rfl) rfl rfl rfl rfl fun L s1 C rm' => ?_
  repeat walk1
  refine hc _ _ _ _ (W.weaken (Cx.wd (by assumption)) (Ps.le (Cx.ps (by assumption)))) rm' fun s3 W3 P3 => ?_
  have C3 := Cx.after (by assumption) W3 P3
  repeat walk1
  exact hR _ (W.weaken (Cx.wd (by assumption)) (Ps.le (Cx.ps (by assumption)))) (Ps.weaken (Cx.ps (by assumption)))
-- NOT y > a
theorem gt_notSym {b y a : Addr} {ca : Bool} {n1 n2 : Str} (W : Wd w G s) (rm : Rm A 6) (hb : NotOf G b y ca) (hy : SymAt G y n2) (ha : SymAt G a n1) (hR : ∀ s', Wd w G s' → Ps [] s G s' G → R (.ok (.ret (.bool (!sLt n2 n1)))) s') : codeAny (MD w) A (.call (.ref 111) ⟨[.ref b, .ref a], []⟩) R s := by
  obtain ⟨p1, t1, u1, Ia, _⟩ := id ha
  obtain ⟨D2, l2, p2, t2, _, _, Ib, _⟩ := id hb
  refine R_enter [(Str.ofString "other", .ref a), (Str.ofString "self", .ref b)] (k := 5) (st := mthAt 6 10) (qual := "Expression.__gt__") (cl := []) (dV := .none) (pm := .str "boolean.boolean" 194) (cdv := .ref 110) (ct := .none) (by kernel_rfl) (by k_is) W rm (BindsTo.of_eq rfl) (by decide) (by rfl) rfl rfl rfl rfl fun L s1 C rm' => ?_
  repeat walk1
  refine wpAny_call (sym_ltNot (Cx.wd (by assumption)) (rm'.le (by decide)) (ha.mono (Cx.ps (by assumption)).le) (hb.mono (Cx.ps (by assumption)).le) fun s3 W3 P3 => ?_)
  have C3 := Cx.after (by assumption) W3 P3
  repeat walk1
  refine wpAny_call (not_lt (k := 4) (r := sLt n2 n1) (Cx.wd (by assumption)) (rm'.le (by decide)) (hb.mono (Cx.ps (by assumption)).le) (fun A E s Q W rm hQ => cmp_symSym W (rm.le (by decide)) (hy.mono (Cx.ps (by assumption)).le) (ha.mono (Cx.ps (by assumption)).le) hQ) fun s4 W4 P4 => ?_)
  have C4 := Cx.after (by assumption) W4 P4
  cases h : sLt n2 n1
  all_goals
    rw [h] at hR
    repeat walk1
    refine wpAny_is_other (by rfl) (by intro x; cases x) ?_
    repeat walk1
    exact hR _ (W.weaken (Cx.wd (by assumption)) (Ps.le (Cx.ps (by assumption)))) (Ps.weaken (Cx.ps (by assumption)))
theorem cmp_symNot {a b y : Addr} {ca : Bool} {n1 n2 : Str} {Q : Value → Shared → Prop} (W : Wd w G s) (rm : Rm A 6) (ha : SymAt G a n1) (hb : NotOf G b y ca) (hy : SymAt G y n2) (hQ : ∀ s', Wd w G s' → Ps [] s G s' G → Q (.bool (!sLt n2 n1)) s') : wpAny (MD w) A (richCompare .Lt (.ref a) (.ref b)) Q E s := by
  obtain ⟨p1, t1, u1, Ia, _⟩ := id ha
  obtain ⟨D2, l2, p2, t2, _, _, Ib, _⟩ := id hb
  have l := lt_tab (P := w.params) (D := 344) (.inl rfl)
  have g := eq_tab (P := w.params) (D := 440) (by decide)
  simp only [Bool.and_eq_true, beq_iff_eq] at l g
  exact R_cmp (op := .Lt) W rm.units Ia Ib (by decide) (by decide) l.1 l.2 g.1.2 g.2 (sym_ltNot W (rm.le (by decide)) ha hb fun s' W' P' => ⟨_, rfl, .inr ⟨rfl, G, W', Km.le.refl _, gt_notSym W' rm hb hy ha fun s2 W2 P2 => ⟨_, rfl, .inl ⟨nofun, hQ s2 W2 (P'.trans P2)⟩⟩⟩⟩)
-- a Symbol under < a literal of another name
theorem cmp_symLit {a b : Addr} {n1 : Str} {l : Lit} {Q : Value → Shared → Prop} (W : Wd w G s) (rm : Rm A 6) (ha : SymAt G a n1) (hb : LitAt G b l) (hn : sLt l.1 n1 = !sLt n1 l.1) (hQ : ∀ s', Wd w G s' → Ps [] s G s' G → Q (.bool (sLt n1 l.1)) s') : wpAny (MD w) A (richCompare .Lt (.ref a) (.ref b)) Q E s := by
  obtain ⟨n2, p⟩ := l
  cases p with
  | false => exact cmp_symSym W (rm.le (by decide)) ha hb hQ
  | true =>
    obtain ⟨y, ca, h1, h2⟩ := hb
    refine cmp_symNot W rm ha h1 h2 ?_
    rw [hn, Bool.not_not]
    exact hQ
def ltClass (l : Lit) : Addr := if l.2 then 440 else 344
theorem lt_lit {a b : Addr} {l l' : Lit} (W : Wd w G s) (rm : Rm A 7) (ha : LitAt G a l) (hb : LitAt G b l') (hn : sLt l'.1 l.1 = !sLt l.1 l'.1) (hR : ∀ s', Wd w G s' → Ps [] s G s' G → (R (.ok (.ret (.bool (sLt l.1 l'.1)))) s' ∧ R (.ok (.ret .notImplemented)) s')) :
    codeAny (MD w) A (.call (.ref (ltFn (ltClass l))) ⟨[.ref a, .ref b], []⟩) R s := by
  obtain ⟨n1, p⟩ := l
  cases p with
  | false =>
    obtain ⟨n2, p⟩ := l'
    cases p with
    | false => exact sym_lt W (rm.le (by decide)) ha hb fun s' W' P' => (hR s' W' P').1
    | true =>
      obtain ⟨y, ca, h1, h2⟩ := hb
      exact sym_ltNot W (rm.le (by decide)) ha h1 fun s' W' P' => (hR s' W' P').2
  | true =>
    obtain ⟨x, ca, h1, h2⟩ := ha
    exact not_lt (k := 6) W rm h1 (fun A E s Q W rm hQ => cmp_symLit W rm h2 hb hn hQ) fun s' W' P' => (hR s' W' P').1
theorem LitAt.cls {a : Addr} {l : Lit} (h : LitAt G a l) : ∃ la, ObjAt G a (ltClass l) la := by
  obtain ⟨nm, b⟩ := l
  cases b with
  | false => exact let ⟨tp, t1, t2, h1, _⟩ := h; ⟨_, h1⟩
  | true => exact let ⟨y, ca, ⟨Db, lb, tp, t1, _, _, h3, _⟩, _⟩ := h; ⟨_, h3⟩
theorem cmp_lit {a b : Addr} {l l' : Lit} {Q : Value → Shared → Prop} (W : Wd w G s) (rm : Rm A 7) (ha : LitAt G a l) (hb : LitAt G b l') (hn : sLt l'.1 l.1 = !sLt l.1 l'.1) (hQ : ∀ s', Wd w G s' → Ps [] s G s' G → Q (.bool (sLt l.1 l'.1)) s') : wpAny (MD w) A (richCompare .Lt (.ref a) (.ref b)) Q E s := by
  obtain ⟨n1, p⟩ := l
  cases p with
  | false => exact cmp_symLit W (rm.le (by decide)) ha hb hn hQ
  | true =>
    obtain ⟨x, ca, h1, h2⟩ := ha
    obtain ⟨D1, l1, p1, t1, _, _, Ia, _⟩ := id h1
    obtain ⟨lb, Ib⟩ := hb.cls
    have hD : ltClass l' ∈ exCls := by unfold ltClass; split <;> decide
    have l := lt_tab (P := w.params) (D := 440) (.inr rfl)
    have g := eq_tab (P := w.params) hD
    simp only [Bool.and_eq_true, beq_iff_eq] at l g
    exact R_cmp (op := .Lt) W rm.units Ia Ib (by decide) hD l.1 l.2 g.1.2 g.2 (not_lt (k := 6) W rm h1 (fun A E s Q W rm hQ => cmp_symLit W rm h2 hb hn hQ) fun s' W' P' => ⟨_, rfl, .inl ⟨nofun, hQ s' W' P'⟩⟩)
theorem ltP_lit {a b : Addr} {l l' : Lit} (ha : LitAt G a l) (hb : LitAt G b l') (hn : sLt l'.1 l.1 = !sLt l.1 l'.1) : LtP w 7 G (.ref a) (.ref b) (sLt l.1 l'.1) := fun kd hk A E s G' Q W le rm hQ => by
  have ha' := ha.mono le
  have hb' := hb.mono le
  rcases hk with rfl | rfl
  · rw [keyLt'_oneType, oneLt'_eq]
    simp only [if_true]
    refine wpAny_bind (wpAny_cRoomFor rm.units ?_)
    obtain ⟨la, Ia⟩ := ha'.cls
    obtain ⟨d, es, n, I, _⟩ := (Ia.here W).inst
    have lt := lt_tab (P := w.params) (D := ltClass l) (by unfold ltClass; split <;> simp)
    simp only [Bool.and_eq_true, beq_iff_eq] at lt
    refine wpAny_bind (ifBound_K W.inn I lt.1 lt.2 (wpAny_call (lt_lit W rm ha' hb' hn fun s' W' P' => ⟨?_, ?_⟩)))
    · exact wpAny_truthy_bool (hQ s' W' P')
    · refine wpAny_bind (wpAny_rule ?_)
      refine wpAny_bind (cmp_lit W' rm ha' hb' hn fun s2 W2 P2 => ?_)
      exact wpAny_truthy_bool (hQ s2 W2 (P'.trans P2))
  · show wpAny _ _ (oneLt' false _ _) _ _ _
    rw [oneLt'_eq]
    simp only [Bool.false_eq_true, if_false]
    refine wpAny_bind (cmp_lit W rm ha' hb' hn fun s2 W2 P2 => ?_)
    exact wpAny_truthy_bool (hQ s2 W2 P2)
end
-- part C19
-- names and their order
def nmL : List Str := [Str.ofString "10", Str.ofString "Zed", Str.ofString "a.c", Str.ofString "not_b"]
def nmR (n : Str) : Nat := if n = Str.ofString "10" then 0 else if n = Str.ofString "Zed" then 1 else if n = Str.ofString "a.c" then 2 else 3
theorem nm_cases {n : Str} (h : n ∈ nmL) : n = Str.ofString "10" ∨ n = Str.ofString "Zed" ∨ n = Str.ofString "a.c" ∨ n = Str.ofString "not_b" := by
  simpa [nmL] using h
theorem sLt_rank {a b : Str} (ha : a ∈ nmL) (hb : b ∈ nmL) : sLt a b = decide (nmR a < nmR b) := by
  rcases nm_cases ha with rfl | rfl | rfl | rfl <;> rcases nm_cases hb with rfl | rfl | rfl | rfl <;> decide +kernel
theorem nmR_inj {a b : Str} (ha : a ∈ nmL) (hb : b ∈ nmL) (h : nmR a = nmR b) : a = b := by
  rcases nm_cases ha with rfl | rfl | rfl | rfl <;> rcases nm_cases hb with rfl | rfl | rfl | rfl <;> first | rfl | (revert h; decide +kernel)
-- the row that an expression means
def allL : List Lit := nmL.flatMap fun n => [(n, false), (n, true)]
theorem mem_allL {l : Lit} (h : l.1 ∈ nmL) : l ∈ allL := by
  obtain ⟨n, b⟩ := l
  unfold allL
  rw [List.mem_flatMap]
  exact ⟨n, h, by cases b <;> simp⟩
theorem nm_of_allL {l : Lit} (h : l ∈ allL) : l.1 ∈ nmL := by
  unfold allL at h
  rw [List.mem_flatMap] at h
  obtain ⟨n, hn, h⟩ := h
  simp only [List.mem_cons, List.not_mem_nil, or_false] at h
  rcases h with rfl | rfl <;> exact hn
def Clash (xs : List Atm) : Prop := .ann ∈ xs ∨ ∃ l ∈ allL, .lit l ∈ xs ∧ .lit (flipL l) ∈ xs
theorem iteP {α : Type} {p q : Prop} {dp : Decidable p} {dq : Decidable q} (h : p ↔ q) {a b : α} : @ite _ p dp a b = @ite _ q dq a b := by
  by_cases c : q
  · rw [if_pos c, if_pos (h.mpr c)]
  · rw [if_neg c, if_neg (fun x => c (h.mp x))]
def clashDec (xs : List Atm) : Decidable (Clash xs) := by unfold Clash; infer_instance
def nrm (xs : List Atm) : Den := @ite _ (Clash xs) (clashDec xs) none (some (allL.filter fun l => decide (.lit l ∈ xs)))
theorem Clash.congr {xs ys : List Atm} (h : ∀ x, x ∈ xs ↔ x ∈ ys) : Clash xs ↔ Clash ys := by
  unfold Clash; simp only [h]
theorem nrm_congr {xs ys : List Atm} (h : ∀ x, x ∈ xs ↔ x ∈ ys) : nrm xs = nrm ys := by
  unfold nrm; simp only [h]; exact iteP (Clash.congr h)
-- all literals bear the four names
def AOk (xs : List Atm) : Prop := ∀ l, .lit l ∈ xs → l.1 ∈ nmL
-- the first of each
def dd (xs : List Atm) : List Atm := xs.foldl (fun acc x => if x ∈ acc then acc else acc ++ [x]) []
theorem dd_snoc (xs : List Atm) (x : Atm) : dd (xs ++ [x]) = if x ∈ dd xs then dd xs else dd xs ++ [x] := by
  unfold dd; rw [List.foldl_append]; rfl
theorem rev_ind {α : Type} {P : List α → Prop} (h0 : P []) (hs : ∀ xs x, P xs → P (xs ++ [x])) (xs : List α) : P xs := by
  have h : ∀ ys : List α, P ys.reverse := fun ys => by
    induction ys with
    | nil => exact h0
    | cons y ys ih => rw [List.reverse_cons]; exact hs _ _ ih
  have := h xs.reverse
  rwa [List.reverse_reverse] at this
theorem dd_mem (xs : List Atm) : ∀ x, x ∈ dd xs ↔ x ∈ xs := by
  refine rev_ind (P := fun xs => ∀ x, x ∈ dd xs ↔ x ∈ xs) (fun x => Iff.rfl) (fun xs y ih => ?_) xs
  · intro x
    rw [dd_snoc]
    split
    · rename_i h
      rw [ih, List.mem_append, List.mem_singleton]
      exact ⟨.inl, fun q => q.elim id fun e => e ▸ (ih y).mp h⟩
    · rw [List.mem_append, List.mem_append, ih]
theorem dd_nodup (xs : List Atm) : (dd xs).Nodup := by
  refine rev_ind (P := fun xs => (dd xs).Nodup) .nil (fun xs y ih => ?_) xs
  · 
    rw [dd_snoc]
    split
    · exact ih
    · rename_i h
      rw [List.nodup_append]
      refine ⟨ih, by simp, fun a ha b hb e => ?_⟩
      rw [List.mem_singleton.mp hb] at e
      exact h (e ▸ ha)
theorem dd_len (xs : List Atm) : (dd xs).length ≤ xs.length := by
  refine rev_ind (P := fun xs => (dd xs).length ≤ xs.length) (Nat.le_refl _) (fun xs y ih => ?_) xs
  · 
    rw [dd_snoc, List.length_append]
    split
    · exact Nat.le_trans ih (Nat.le_add_right _ _)
    · rw [List.length_append]; exact Nat.add_le_add_right ih _
section
variable {w : World} {s s' : Shared} {G G' : Km}
-- NOT(NOT x) is no literal
theorem eq_nn {a b x y : Addr} {l : Lit} {ca cb : Bool} {nm : Str} (ha : LitAt G a l) (hx : NotOf G x b ca) (hb : NotOf G b y cb) (hy : SymAt G y nm) : EqB w 7 G a x false := by
  obtain ⟨n1, p⟩ := l
  obtain ⟨D1, l1, tp, t1, _, _, ox, hp⟩ := id hx
  obtain ⟨D2, l2, tq, t2, _, _, ob, _⟩ := id hb
  cases p with
  | false =>
    obtain ⟨_, _, _, o, _⟩ := id ha
    have hn : a ≠ x := fun e => by subst e; have := ObjAt.same o ox; cases this
    exact .inr ⟨hn, (eqP_symNot o ox hn).up (by decide)⟩
  | true =>
    obtain ⟨z, cz, hz, hs⟩ := ha
    obtain ⟨D3, l3, tr, t3, _, _, oa, hr⟩ := id hz
    obtain ⟨_, _, _, oz, _⟩ := id hs
    have hzb : z ≠ b := fun e => by subst e; have := ObjAt.same oz ob; cases this
    have hn : a ≠ x := fun e => by subst e; exact hzb (hz.arg hx)
    have h := eqP_not (w := w) (r1 := false) (r2 := false) oa (by rfl) hr ox (by rfl) hp hn (.inr ⟨Ne.symm hzb, eqP_notSym ob oz (Ne.symm hzb)⟩) (.inr ⟨hzb, eqP_symNot oz ob hzb⟩)
    exact .inr ⟨hn, h⟩
theorem eq_nn_all {b x y : Addr} {ca cb : Bool} {nm : Str} (hx : NotOf G x b ca) (hb : NotOf G b y cb) (hy : SymAt G y nm) : ∀ {vs : List Value} {ls : List Lit}, LitsAt G vs ls → EqAll w 7 G x vs (ls.map fun _ => false)
  | [], [], _ => trivial
  | v :: vs, l :: ls, ⟨⟨a, e, h⟩, r⟩ => ⟨⟨a, e, eq_nn h hx hb hy⟩, eq_nn_all hx hb hy r⟩
theorem eq_lit_all {b : Addr} {l' : Lit} (hb : LitAt G b l') : ∀ {vs : List Value} {ls : List Lit}, LitsAt G vs ls → EqAll w 7 G b vs (ls.map fun l => decide (l = l'))
  | [], [], _ => trivial
  | v :: vs, l :: ls, ⟨⟨a, e, h⟩, r⟩ => ⟨⟨a, e, eq_lit h hb⟩, eq_lit_all hb r⟩
-- parts taken out
theorem AtomsAt.rm {k : Bool} (y : Atm) : ∀ {vs : List Value} {xs : List Atm}, AtomsAt G k vs xs → AtomsAt G k (rmF vs (xs.map fun x => decide (x = y))) (xs.erase y)
  | [], [], _ => trivial
  | v :: vs, x :: xs, ⟨h, r⟩ => by
    rw [List.erase_cons]
    by_cases e : x = y
    · rw [List.map_cons, if_pos (by simpa using e), decide_eq_true e]
      exact r
    · rw [List.map_cons, if_neg (by simpa using e), decide_eq_false e]
      exact ⟨h, r.rm y⟩
theorem AtomsAt.lits {k : Bool} : ∀ {vs : List Value} {xs : List Atm}, AtomsAt G k vs xs → (.ann ∉ xs) → (.idn ∉ xs) → ∃ ls : List Lit, xs = ls.map .lit ∧ LitsAt G vs ls
  | [], [], _, _, _ => ⟨[], rfl, trivial⟩
  | v :: vs, .ann :: xs, _, h, _ => absurd (.head _) h
  | v :: vs, .idn :: xs, _, _, h => absurd (.head _) h
  | v :: vs, .lit l :: xs, ⟨x, r⟩, h1, h2 => by
    obtain ⟨ls, e, h⟩ := r.lits (fun q => h1 (.tail _ q)) (fun q => h2 (.tail _ q))
    exact ⟨l :: ls, by rw [e]; rfl, x, h⟩
-- ranks of the parts
open Classical in
noncomputable def rkV (G : Km) (v : Value) : Nat := if h : ∃ l a, v = .ref a ∧ LitAt G a l then nmR h.choose.1 else 0
theorem rkV_eq {a : Addr} {l : Lit} (h : LitAt G a l) : rkV G (.ref a) = nmR l.1 := by
  have e : ∃ l a', Value.ref a = .ref a' ∧ LitAt G a' l := ⟨l, a, rfl, h⟩
  unfold rkV
  rw [dif_pos e]
  obtain ⟨a', q, h'⟩ := e.choose_spec
  cases q
  rw [h'.same h]
theorem LitsAt.perm {us vs : List Value} (p : us.Perm vs) : ∀ {ls : List Lit}, LitsAt G vs ls → ∃ ls', LitsAt G us ls' ∧ ls'.Perm ls := by
  induction p with
  | nil => intro ls h; exact ⟨ls, h, .refl _⟩
  | cons x p ih =>
    intro ls h
    cases ls with
    | nil => cases h
    | cons l ls =>
      obtain ⟨ls', h1, h2⟩ := ih h.2
      exact ⟨l :: ls', ⟨h.1, h1⟩, h2.cons _⟩
  | swap x y r =>
    intro ls h
    match ls, h with
    | l₁ :: l₂ :: ls, ⟨h1, h2, h3⟩ => exact ⟨l₂ :: l₁ :: ls, ⟨h2, h1, h3⟩, .swap ..⟩
  | trans p q ihp ihq =>
    intro ls h
    obtain ⟨l1, h1, h2⟩ := ihq h
    obtain ⟨l2, h3, h4⟩ := ihp h1
    exact ⟨l2, h3, h4.trans h2⟩
theorem LitsAt.sorted : ∀ {vs : List Value} {ls : List Lit}, LitsAt G vs ls → List.Pairwise (fun a b => rkV G a < rkV G b) vs → List.Pairwise (fun a b : Lit => nmR a.1 < nmR b.1) ls
  | [], [], _, _ => .nil
  | v :: vs, l :: ls, ⟨⟨a, e, h⟩, r⟩, p => by
    subst e
    obtain ⟨p1, p2⟩ := List.pairwise_cons.mp p
    refine List.pairwise_cons.mpr ⟨fun l' hl' => ?_, r.sorted p2⟩
    obtain ⟨i, hi⟩ := List.mem_iff_getElem?.mp hl'
    have hlt : i < vs.length := by rw [r.len]; exact (List.getElem?_eq_some_iff.mp hi).1
    obtain ⟨b, l2, e2, e3, h2⟩ := r.at (List.getElem?_eq_getElem hlt)
    rw [hi] at e3
    cases e3
    have := p1 vs[i] (List.getElem_mem ..)
    rw [e2, rkV_eq h, rkV_eq h2] at this
    exact this
end
theorem sorted_unique : ∀ {as bs : List Lit}, List.Pairwise (fun a b : Lit => nmR a.1 < nmR b.1) as → List.Pairwise (fun a b : Lit => nmR a.1 < nmR b.1) bs → (∀ x, x ∈ as ↔ x ∈ bs) → as = bs
  | [], [], _, _, _ => rfl
  | [], b :: bs, _, _, h => by have := (h b).mpr (.head _); cases this
  | a :: as, [], _, _, h => by have := (h a).mp (.head _); cases this
  | a :: as, b :: bs, pa, pb, h => by
    obtain ⟨a1, a2⟩ := List.pairwise_cons.mp pa
    obtain ⟨b1, b2⟩ := List.pairwise_cons.mp pb
    have e : a = b := by
      rcases List.mem_cons.mp ((h a).mp (.head _)) with e | hm
      · exact e
      rcases List.mem_cons.mp ((h b).mpr (.head _)) with e | hm'
      · exact e.symm
      have := b1 a hm
      have := a1 b hm'
      omega
    subst e
    have key : ∀ x, x ∈ as ↔ x ∈ bs := fun x => by
      constructor
      · intro hx
        rcases List.mem_cons.mp ((h x).mp (.tail _ hx)) with e | hm
        · subst e; exact absurd (a1 _ hx) (Nat.lt_irrefl _)
        · exact hm
      · intro hx
        rcases List.mem_cons.mp ((h x).mpr (.tail _ hx)) with e | hm
        · subst e; exact absurd (b1 _ hx) (Nat.lt_irrefl _)
        · exact hm
    rw [sorted_unique a2 b2 key]
theorem pairwise_filter {α : Type} {R : α → α → Prop} {p : α → Bool} {l : List α} (h : ∀ a b, p a = true → p b = true → R a b) : ∀ (l : List α), (l.filter p).Pairwise (fun a b => p a = true ∧ p b = true)
  | [] => .nil
  | a :: l => by
    rw [List.filter_cons]
    split
    · rename_i ha
      exact List.pairwise_cons.mpr ⟨fun b hb => ⟨ha, (List.mem_filter.mp hb).2⟩, pairwise_filter (R := R) (l := l) h l⟩
    · exact pairwise_filter (R := R) (l := l) h l
theorem allL_sorted : List.Pairwise (fun a b : Lit => nmR a.1 < nmR b.1 ∨ b = flipL a) allL := by
  decide +kernel
theorem nrm_sorted {xs : List Atm} (h : ¬ Clash xs) : List.Pairwise (fun a b : Lit => nmR a.1 < nmR b.1) (allL.filter fun l => decide (.lit l ∈ xs)) := by
  have h1 := allL_sorted.filter (fun l => decide (.lit l ∈ xs))
  have h2 : List.Pairwise (fun a b : Lit => decide (Atm.lit a ∈ xs) = true ∧ decide (Atm.lit b ∈ xs) = true) (allL.filter fun l => decide (.lit l ∈ xs)) := pairwise_filter (R := fun _ _ => True) (l := allL) (fun _ _ _ _ => trivial) allL
  refine (h1.and h2).imp_of_mem fun {a b} ha hb ⟨q1, q2, q3⟩ => ?_
  rcases q1 with q1 | q1
  · exact q1
  · subst q1
    exact absurd (.inr ⟨a, (List.mem_filter.mp ha).1, of_decide_eq_true q2, of_decide_eq_true q3⟩) h
-- the end of simplify
theorem nrm_lits {xs : List Atm} {ls : List Lit} (hok : AOk xs) (hc : ¬ Clash xs) (hm : ∀ l, l ∈ ls ↔ .lit l ∈ xs) (hs : List.Pairwise (fun a b : Lit => nmR a.1 < nmR b.1) ls) : nrm xs = some ls := by
  unfold nrm
  rw [if_neg hc]
  refine congrArg some (sorted_unique (nrm_sorted hc) hs fun x => ?_)
  rw [List.mem_filter, hm]
  simp only [decide_eq_true_eq]
  exact ⟨And.right, fun h => ⟨mem_allL (hok _ h), h⟩⟩
theorem nrm_congr' {xs ys : List Atm} (h : ∀ l, .lit l ∈ xs ↔ .lit l ∈ ys) (ha : .ann ∈ xs ↔ .ann ∈ ys) : nrm xs = nrm ys := by
  have e : Clash xs ↔ Clash ys := by unfold Clash; simp only [h, ha]
  unfold nrm; simp only [h]; exact iteP e
theorem nodup_len {α : Type} [DecidableEq α] : ∀ {l l' : List α}, l.Nodup → (∀ x ∈ l, x ∈ l') → l.length ≤ l'.length
  | [], _, _, _ => Nat.zero_le _
  | a :: l, l', h, s => by
    obtain ⟨h1, h2⟩ := List.nodup_cons.mp h
    have h3 := nodup_len (l := l) (l' := l'.erase a) h2 fun x hx => (List.mem_erase_of_ne (fun e : x = a => h1 (e ▸ hx))).mpr (s x (.tail _ hx))
    have h4 := List.length_erase_of_mem (s a (.head _))
    have h5 : 1 ≤ l'.length := by
      cases l' with
      | nil => cases s a (.head _)
      | cons b l' => simp
    rw [List.length_cons]; omega
theorem atoms_len {ys : List Atm} (h : ys.Nodup) (hok : AOk ys) : ys.length ≤ 10 := by
  refine Nat.le_trans (nodup_len (l' := .ann :: .idn :: allL.map .lit) h fun x hx => ?_) (by decide)
  cases x with
  | ann => exact .head _
  | idn => exact .tail _ (.head _)
  | lit l => exact .tail _ (.tail _ (List.mem_map_of_mem (mem_allL (hok l hx))))
theorem nrm_idn : nrm [.idn] = some [] := by decide +kernel
theorem flip_flip (l : Lit) : flipL (flipL l) = l := by
  obtain ⟨n, b⟩ := l
  simp [flipL]
theorem nrm_one {l : Lit} (h : l.1 ∈ nmL) : nrm [.lit l] = some [l] := by
  refine nrm_lits (fun l' h' => ?_) (fun c => ?_) (fun x => by simp) (by simp)
  · have e := List.mem_singleton.mp h'
    cases e; exact h
  · rcases c with c | ⟨x, _, c1, c2⟩
    · simp at c
    · have e1 := List.mem_singleton.mp c1
      have e2 := List.mem_singleton.mp c2
      rw [← e1] at e2
      have := Atm.lit.inj e2
      obtain ⟨n, b⟩ := x
      simp [flipL] at this
theorem lit_mem {l : Lit} {ls : List Lit} : Atm.lit l ∈ ls.map Atm.lit ↔ l ∈ ls := by
  rw [List.mem_map]
  exact ⟨fun ⟨x, h, e⟩ => by cases e; exact h, fun h => ⟨l, h, rfl⟩⟩
theorem noClash {ls : List Lit} (h : ∀ nm, (nm, false) ∈ ls → (nm, true) ∉ ls) : ¬ Clash (ls.map .lit) := by
  rintro (c | ⟨⟨nm, b⟩, _, c1, c2⟩)
  · simp at c
  · rw [lit_mem] at c1 c2
    cases b with
    | false => exact h nm c1 c2
    | true => exact h nm c2 c1
theorem isClash {ls : List Lit} {nm : Str} (hn : ∀ l ∈ ls, l.1 ∈ nmL) (h1 : (nm, false) ∈ ls) (h2 : (nm, true) ∈ ls) : Clash (ls.map .lit) :=
  .inr ⟨(nm, false), mem_allL (hn _ h1), lit_mem.mpr h1, lit_mem.mpr h2⟩
theorem names_nodup : ∀ {ls : List Lit}, ls.Nodup → (∀ nm, (nm, false) ∈ ls → (nm, true) ∉ ls) → (ls.map (·.1)).Nodup
  | [], _, _ => .nil
  | l :: ls, h, hc => by
    obtain ⟨h1, h2⟩ := List.nodup_cons.mp h
    rw [List.map_cons]
    refine List.nodup_cons.mpr ⟨fun q => ?_, names_nodup h2 fun nm a b => hc nm (.tail _ a) (.tail _ b)⟩
    obtain ⟨l', hl', e⟩ := List.mem_map.mp q
    obtain ⟨n1, b1⟩ := l
    obtain ⟨n2, b2⟩ := l'
    have e : n2 = n1 := e
    subst e
    cases b1 <;> cases b2
    · exact h1 hl'
    · exact hc n2 (.head _) (.tail _ hl')
    · exact hc n2 (.tail _ hl') (.head _)
    · exact h1 hl'
theorem AOk.sub {xs ys : List Atm} (h : AOk ys) (s : ∀ x ∈ xs, x ∈ ys) : AOk xs := fun l hl => h l (s _ hl)
theorem nrm_sorted_lits {ls ls' : List Lit} (hn : ∀ l ∈ ls, l.1 ∈ nmL) (hc : ∀ nm, (nm, false) ∈ ls → (nm, true) ∉ ls) (hp : ls'.Perm ls) (hs : List.Pairwise (fun a b : Lit => nmR a.1 < nmR b.1) ls') : nrm (ls.map .lit) = some ls' :=
  nrm_lits (fun l h => hn l (lit_mem.mp h)) (noClash hc) (fun l => by rw [lit_mem, hp.mem_iff]) hs
-- part C20
section
variable {X : List Addr} {w : World} {s₀ s s' : Shared} {G₀ G G' : Km} {L : Addr} {m : List (Str × Value)} {mu : List (Addr × Obj)} {A : Around} {E : Value → Shared → Prop} {R : Result → Shared → Prop}
-- the contract of x.simplify()
def SimQ (w : World) (n : Nat) (G : Km) (b : Addr) (P : Km → Addr → Prop) : Prop := ∃ Dc, ExAt G b Dc ∧ ∀ (A : Around) (R : Result → Shared → Prop) (s : Shared) (G' : Km), Wd w G' s → G.le G' → Rm A n →
  (∀ s' G'' r, Wd w G'' s' → Ps [] s G' s' G'' → P G'' r → R (.ok (.ret (.ref r))) s') → codeAny (MD w) A (.call (.ref (simFn Dc)) ⟨[.ref b], []⟩) R s
theorem SimQ.mono {n : Nat} {b : Addr} {P : Km → Addr → Prop} (h : G.le G') (x : SimQ w n G b P) : SimQ w n G' b P := let ⟨D, h1, h2⟩ := x; ⟨D, h1.mono h, fun A R s G2 W le => h2 A R s G2 W (h.trans le)⟩
theorem SimQ.up {n n' : Nat} {b : Addr} {P : Km → Addr → Prop} (h : n ≤ n') (x : SimQ w n G b P) : SimQ w n' G b P := let ⟨D, h1, h2⟩ := x; ⟨D, h1, fun A R s G2 W le rm => h2 A R s G2 W le (rm.le h)⟩
theorem SimQ.imp {n : Nat} {b : Addr} {P P' : Km → Addr → Prop} (h : ∀ G r, P G r → P' G r) (x : SimQ w n G b P) : SimQ w n G b P' := let ⟨D, h1, h2⟩ := x; ⟨D, h1, fun A R s G2 W le rm hR => h2 A R s G2 W le rm fun s' G'' r W' P' hp => hR s' G'' r W' P' (h _ _ hp)⟩
abbrev SimP (w : World) (n : Nat) (G : Km) (b : Addr) (k : Bool) (D : Den) : Prop := SimQ w n G b fun G r => IsRes G r k D
abbrev SimB (w : World) (n : Nat) (G : Km) (b : Addr) (k : Bool) (D : Den) : Prop := SimQ w n G b fun G r => IsB G r k D
theorem R_sim {n : Nat} {b : Addr} {P : Km → Addr → Prop} {env : Env} {pos : Pos} {pl : Sem Bool} {Q : Value → Shared → Prop} (C : Cx X w s₀ G₀ G L m mu s) (rm : Rm A n) (hb : SimQ w n G b P)
    (h : ∀ s' G' r, G.le G' → P G' r → Cx X w s₀ G₀ G' L m mu s' → Q (.ref r) s') : wpAny (MD w) A (getMethod (.ref b) "simplify" pl) (fun fx s2 => wpAny (MD w) A (callWith pos fx.1 fx.2 (backTo pos (starEach [] env)) []) Q E s2) E s := by
  obtain ⟨D, ⟨l, hl, hD, _, hv⟩, hc⟩ := hb
  have t := meth_tab (P := w.params) hD
  simp only [Bool.and_eq_true, beq_iff_eq] at t
  refine R_meth C (hl.here C.wd) t.1.1.1.2 t.1.1.2 t.1.2 hv ?_
  refine callWith_K0 C.inn t.2 ?_
  exact wpAny_call (hc A _ s G C.wd (Km.le.refl G) rm fun s' G' y W' P' hy => h s' G' y P'.le hy (C.after W' P'))
def DGood (D : Den) : Prop := ∀ ls, D = some ls → (∀ l ∈ ls, l.1 ∈ nmL) ∧ ls.length ≤ 8
theorem DGood.ok {D : Den} (h : DGood D) : DenOk D := fun ls e => Nat.le_trans (h ls e).2 (by decide)
theorem IsB.ex {a : Addr} {k : Bool} {D : Den} (W : Wd w G s) (h : IsB G a k D) : IsEx G (.ref a) := by
  match D, h with
  | none, h => exact AtomAt.ex (k := k) (x := .ann) W (congrArg Value.ref h)
  | some [], h => exact AtomAt.ex (k := k) (x := .idn) W (congrArg Value.ref h)
  | some [l], h => exact LitAt.ex h
  | some (l₁ :: l₂ :: ls), ⟨vs, ca, h1, h2⟩ => exact h1.ex
theorem NotOf.ex {a x : Addr} {ca : Bool} (h : NotOf G a x ca) : IsEx G (.ref a) := let ⟨Db, lb, tp, t1, _, _, o, _⟩ := h; ⟨a, _, _, rfl, o, by decide⟩
theorem IsRes.ex {a : Addr} {k : Bool} {D : Den} (W : Wd w G s) (h : IsRes G a k D) : IsEx G (.ref a) := by
  rcases h with h | ⟨x, ca, D', _, h, _⟩
  · exact h.ex W
  · exact h.ex
theorem PBs_of {k : Bool} : ∀ {ys : List Value} {Ds : List Den}, ys.length = Ds.length → (∀ (i : Nat) y, ys[i]? = some y → ∃ D, Ds[i]? = some D ∧ PB k D G y) → PBs G k ys Ds
  | [], [], _, _ => trivial
  | y :: ys, D :: Ds, e, h => by
    obtain ⟨D', e2, h1⟩ := h 0 y rfl
    cases e2
    exact ⟨h1, PBs_of (Nat.succ.inj e) fun i z hz => h (i + 1) z hz⟩
theorem nodup_get {α β : Type} {f : α → β} : ∀ {ls : List α} {i j : Nat} {a b : α}, (ls.map f).Nodup → ls[i]? = some a → ls[j]? = some b → f a = f b → i = j := fun {ls i j a b} h hi hj e => by
  obtain ⟨h1, e1⟩ := List.getElem?_eq_some_iff.mp hi
  obtain ⟨h2, e2⟩ := List.getElem?_eq_some_iff.mp hj
  have := (List.getElem_inj (xs := ls.map f) (i := i) (j := j) (h₀ := by simpa using h1) (h₁ := by simpa using h2) h).mp (by simp [e1, e2, e])
  exact this
theorem LitsAt.two {vs : List Value} {ls : List Lit} (hl : LitsAt G vs ls) (hd : (ls.map (·.1)).Nodup) {x y : Value} (hx : x ∈ vs) (hy : y ∈ vs) : ∃ a l b l', x = .ref a ∧ y = .ref b ∧ LitAt G a l ∧ LitAt G b l' ∧ l ∈ ls ∧ l' ∈ ls ∧ (l.1 = l'.1 → x = y) := by
  obtain ⟨i, hi⟩ := List.mem_iff_getElem?.mp hx
  obtain ⟨j, hj⟩ := List.mem_iff_getElem?.mp hy
  obtain ⟨a, l, rfl, e1, h1⟩ := hl.at hi
  obtain ⟨b, l', rfl, e2, h2⟩ := hl.at hj
  refine ⟨a, l, b, l', rfl, rfl, h1, h2, List.mem_iff_getElem?.mpr ⟨i, e1⟩, List.mem_iff_getElem?.mpr ⟨j, e2⟩, fun e => ?_⟩
  have := nodup_get hd e1 e2 e
  subst this
  rw [hi] at hj
  exact Option.some.inj hj
theorem LitsAt.nodup : ∀ {vs : List Value} {ls : List Lit}, LitsAt G vs ls → (ls.map (·.1)).Nodup → vs.Nodup
  | [], [], _, _ => .nil
  | v :: vs, l :: ls, ⟨⟨a, e, h⟩, r⟩, d => by
    obtain ⟨d1, d2⟩ := List.nodup_cons.mp d
    refine List.nodup_cons.mpr ⟨fun q => d1 ?_, r.nodup d2⟩
    obtain ⟨i, hi⟩ := List.mem_iff_getElem?.mp q
    obtain ⟨b, l', e2, e3, h2⟩ := r.at hi
    rw [e] at e2
    cases e2
    rw [h.same h2]
    exact List.mem_map_of_mem (List.mem_iff_getElem?.mpr ⟨i, e3⟩)
theorem LitsAt.inj {vs : List Value} {ls : List Lit} (hl : LitsAt G vs ls) (hd : (ls.map (·.1)).Nodup) (hn : ∀ l ∈ ls, l.1 ∈ nmL) : RkInj (rkV G) vs := fun x hx y hy e => by
  obtain ⟨a, l, b, l', rfl, rfl, h1, h2, m1, m2, h⟩ := hl.two hd hx hy
  rw [rkV_eq h1, rkV_eq h2] at e
  exact h (nmR_inj (hn _ m1) (hn _ m2) e)
theorem LitsAt.ltP {vs : List Value} {ls : List Lit} (hl : LitsAt G vs ls) (hd : (ls.map (·.1)).Nodup) (hn : ∀ l ∈ ls, l.1 ∈ nmL) : ∀ x ∈ vs, ∀ y ∈ vs, x ≠ y → LtP w 7 G x y (decide (rkV G x < rkV G y)) := fun x hx y hy hxy => by
  obtain ⟨a, l, b, l', rfl, rfl, h1, h2, m1, m2, h⟩ := hl.two hd hx hy
  rw [rkV_eq h1, rkV_eq h2, ← sLt_rank (hn _ m1) (hn _ m2)]
  refine ltP_lit h1 h2 ?_
  rw [sLt_rank (hn _ m1) (hn _ m2), sLt_rank (hn _ m2) (hn _ m1)]
  have : nmR l.1 ≠ nmR l'.1 := fun e => hxy (h (nmR_inj (hn _ m1) (hn _ m2) e))
  by_cases q : nmR l.1 < nmR l'.1
  · rw [decide_eq_true q, decide_eq_false (by omega)]; rfl
  · rw [decide_eq_false q, decide_eq_true (by omega)]; rfl
theorem NewObj.fresh {x d C : Addr} {l : List (Str × Value)} (N : NewObj w s G s' G' x d C l) : ∃ es n, Fresh s s' G' [(d, dictOf es n)] ∧ EsAre es l := by
  obtain ⟨es, n, h, he⟩ := N.made
  exact ⟨es, n, ⟨fun p hp => by rw [List.mem_singleton.mp hp]; exact ⟨h, N.new, N.off, N.tab⟩, by simp⟩, he⟩
theorem R_methL {l : Addr} {vs : List Value} {n : Nat} {name : Str} {id : String} {pl : Sem Bool} {Q : Value × List Value → Shared → Prop} (C : Cx X w s₀ G₀ G L m mu s) (hm : (l, lstObj vs n) ∈ mu) (slot : Slot "list" name id) (hty : typeOf (.builtin id) = pure (.type "method_descriptor"))
    (h : Q (.builtin id, [.ref l]) s) : wpAny (MD w) A (getMethod (.ref l) name pl) Q E s :=
  getMethod_builtin ⟨_, C.getMu hm, rfl⟩ PySem.F.plainAttrs_list slot hty (fun a e => by cases e; exact ⟨_, C.getMu hm, rfl⟩) h
theorem two_of {α : Type} : ∀ {ys : List α}, 2 ≤ ys.length → ∃ y1 y2 yt, ys = y1 :: y2 :: yt
  | y1 :: y2 :: yt, _ => ⟨y1, y2, yt, rfl⟩
theorem atoms_len8 : ∀ {Ds : List Den}, (∀ D ∈ Ds, DGood D) → (Ds.flatMap atomsOf).length ≤ 8 * Ds.length
  | [], _ => Nat.le_refl 0
  | D :: Ds, h => by
    have h1 := atoms_len8 fun D hD => h D (.tail _ hD)
    have h2 : (atomsOf D).length ≤ 8 := by
      have := h D (.head _)
      match D, this with
      | none, _ => exact by decide
      | some [], _ => exact by decide
      | some (l :: ls), h => have := (h _ rfl).2; simpa [atomsOf] using this
    rw [List.flatMap_cons, List.length_append, List.length_cons]
    omega
end
-- part C21
local macro_rules | `(tactic| walk_at "getMethod ref") => `(tactic| ((with_reducible show wpAny _ _ (getMethod (Value.ref _) (PySem.Str.ofString "sort") _) _ _ _); refine' R_methL ?c ?t PySem.F.slot_list_sort PySem.F.type_list_sort ?_; (case c => first | assumption | exact Cx.toks (by assumption) _); (case t => walk_at "m_mem")))
local macro_rules | `(tactic| walk_at "getMethod ref") => `(tactic| ((with_reducible show wpAny _ _ (getMethod (Value.ref _) (PySem.Str.ofString "remove") _) _ _ _); refine' R_methL ?c ?t PySem.F.slot_list_remove PySem.F.type_list_remove ?_; (case c => first | assumption | exact Cx.toks (by assumption) _); (case t => walk_at "m_mem")))
local macro_rules | `(tactic| walk_at "getMethod ref") => `(tactic| ((with_reducible show wpAny _ _ (getMethod (Value.ref _) (PySem.Str.ofString "append") _) _ _ _); refine' R_methL ?c ?t _root_.PySem.slot_list_append _root_.PySem.type_list_append ?_; (case c => first | assumption | exact Cx.toks (by assumption) _); (case t => walk_at "m_mem")))
local macro_rules | `(tactic| walk_at "eval Attribute Subscript") => `(tactic| refine Attribute_any_ ?_)
local macro_rules | `(tactic| walk_at "getMethod ref") => `(tactic| ((with_reducible show wpAny _ _ (getMethod (Value.ref _) (PySem.Str.ofString "pop") _) _ _ _); refine' R_methL ?c ?t PySem.F.slot_list_pop PySem.F.type_list_pop ?_; (case c => first | assumption | exact Cx.toks (by assumption) _); (case t => walk_at "m_mem")))
section
variable {X : List Addr} {w : World} {s₀ s s' : Shared} {G₀ G G' : Km} {L : Addr} {m : List (Str × Value)} {mu : List (Addr × Obj)} {A : Around} {E : Value → Shared → Prop} {R : Result → Shared → Prop}
-- the last part of DualBase.simplify: two literals or more, of different names
theorem sim4_and {a t la : Addr} {t1 t2 : Tok} {vs : List Value} {ls : List Lit} {n : Nat} {G1 : Km} {s1 : Shared} (rm : Rm A 40) (C : Cx [] w s G G1 L m [(la, lstObj vs n)] s1)
   (hm1 : m.lookup (Str.ofString "args") = some (.ref la)) (hm2 : m.lookup (Str.ofString "self") = some (.ref a)) (hm3 : m.lookup (Str.ofString "sort") = some (.bool true))
   (o : ObjAt G1 a 563 (grpL true t false t1 t2)) (hl : LitsAt G1 vs ls) (hn : ∀ l ∈ ls, l.1 ∈ nmL) (hd : (ls.map (·.1)).Nodup) (h2 : 2 ≤ vs.length) (hz : vs.length ≤ 60)
   (hR : ∀ s' G' r ls', Wd w G' s' → Ps [] s G s' G' → IsB G' r true (some ls') → ls'.Perm ls → List.Pairwise (fun a b : Lit => nmR a.1 < nmR b.1) ls' → R (.ok (.ret (.ref r))) s') :
   wpAny (MD w) A (execs ((fnBody (mthAt 15 2)).drop 11) (envX "DualBase.simplify" (fnScope (mthAt 15 2)) L 471 (.ref 470) [])) (fun fl s'' => R (.ok (.ret (match fl with | .ret v => v | _ => .none))) s'') (fun _ _ => False) s1 := by
  repeat walk1
  refine wpAny_While (R_while (fun n' s' => ∃ i m' tk, Cx [] w s G G1 L m' [(la, lstObj vs n)] s' ∧ i + n' = vs.length + 1 ∧ m'.lookup (Str.ofString "i") = some (.int ((i : Nat) : Int) tk) ∧ m'.lookup (Str.ofString "args") = some (.ref la) ∧ m'.lookup (Str.ofString "self") = some (.ref a) ∧ m'.lookup (Str.ofString "sort") = some (.bool true)) (fun n' s4 ⟨i, m4, tk, C4, hi, h1, k2, k3, k4⟩ => ?_) (vs.length + 1)
    ⟨0, _, _, by assumption, Nat.zero_add _, by with_unfolding_all exact rfl, by walk_at "m_lk", by walk_at "m_lk", by walk_at "m_lk"⟩)
  clear C hm1 hm2 hm3
  repeat walk1
  · have hlt : i < vs.length := by have := ‹((i : Nat) : Int) < ((vs.length : Nat) : Int) - 1›; omega
    have hv : vs[i]? = some vs[i] := List.getElem?_eq_getElem hlt
    obtain ⟨b, lj, hb, _, hbl⟩ := hl.get hv
    obtain ⟨D, lb', ob, hD⟩ := hbl.exAt
    rw [hb] at hv
    have hDe : D ∈ exCls := by rcases hD with rfl | rfl <;> decide
    have hDi : isiTab D (grpOf (!true)) = false := by rcases hD with rfl | rfl <;> decide
    clear C4
    repeat walk1
    refine wpAny_call (isDual_k (k := true) (D := D) (Cx.wd (by assumption)) (rm.le (by decide)) ob hDe fun s6 W6 P6 => ?_)
    rw [hDi]
    clear ob
    have C6 := Cx.after (by assumption) W6 P6
    repeat walk1
    show Again _ _ _
    exact ⟨n' - 1, by omega, i + 1, _, _, by assumption, by omega, by with_unfolding_all exact rfl, by walk_at "m_lk", by walk_at "m_lk", by walk_at "m_lk"⟩
  · clear C4 h1
    obtain ⟨v0, v1, vt, rfl⟩ := two_of h2
    have hput : G1.le (G1.put la (lstObj (v0 :: v1 :: vt) n)) := Km.put_le ((‹Cx [] w s G G1 L m4 [(la, lstObj (v0 :: v1 :: vt) n)] _›).new la (by simp)).2.1
    have C5 := (‹Cx [] w s G G1 L m4 [(la, lstObj (v0 :: v1 :: vt) n)] _›).freeze (fun h => nomatch h)
    replace o := o.mono hput
    replace hl := hl.mono hput
    repeat walk1
    have hput5 : SeqAt (G1.put la (lstObj (v0 :: v1 :: vt) n)) la (v0 :: v1 :: vt) := ⟨"list", n, .inl rfl, Km.put_self⟩
    have hz5 : vt.length ≤ 58 := by simp only [List.length_cons] at hz; omega
    refine wpAny_call (absorb_and (Cx.wd (Cx.toks C5 _)) (rm.le (by decide)) o hput5 hl (by simp only [List.length_cons]; omega) fun s6 G6 r6 n6 W6 P6 F6 => ?_)
    have C6 : Cx [] w s G G6 L m4 [(r6, lstObj (v0 :: v1 :: vt) n6)] s6 := (Cx.toks C5 _).adopt W6 P6 F6
    replace o := o.mono P6.le
    replace hl := hl.mono P6.le
    clear hput5 hput C5
    repeat walk1
    · exfalso
      have := ‹((((v0 :: v1 :: vt).length : Nat) : Int)) = 1›
      simp only [List.length_cons] at this
      omega
    repeat walk1
    refine R_sort (pre := []) (post := []) (ρ := rkV G6) (k := 7) (by assumption) (rm.le (by decide)) (by omega) hl.exs (hl.nodup hd) (hl.inj hd hn) (hl.ltP hd hn) fun s7 n7 out hop hos C7 => ?_
    clear C6
    replace C7 : Cx [] w s G G6 _ _ [(r6, lstObj out n7)] s7 := C7
    obtain ⟨ls', hl', hpl⟩ := hl.perm hop
    have hsl := hl'.sorted hos
    have ho2 : 2 ≤ out.length := by rw [hop.length_eq]; simp
    have hoz : out.length ≤ 60 := by rw [hop.length_eq]; exact hz
    obtain ⟨w0, w1, wt, rfl⟩ := two_of ho2
    have hput : G6.le (G6.put r6 (lstObj (w0 :: w1 :: wt) n7)) := Km.put_le (C7.new r6 (by simp)).2.1
    replace C7 := C7.freeze (fun h => nomatch h)
    replace o := o.mono hput
    replace hl' := hl'.mono hput
    clear hl hz5 hop hos
    repeat walk1
    refine wpAny_call (and_made (Cx.wd (by assumption)) (rm.le (by decide)) ⟨"list", n7, .inl rfl, Km.put_self⟩ hl'.exs (by simp only [List.length_cons] at hoz; omega) fun s8 G8 r8 d8 tp8 u1 u2 N8 h8 => ?_)
    obtain ⟨es8, n8, F8, he8⟩ := N8.fresh
    have C8 : Cx [] w s G G8 _ _ [(d8, dictOf es8 n8)] s8 := Cx.adopt (by assumption) N8.wd N8.ps F8
    have hx8 := N8.at_
    replace hl' := hl'.mono N8.ps.le
    replace o := o.mono N8.ps.le
    have hcl : isCls 563 := by unfold isCls; decide
    clear N8 F8 hput
    repeat walk1
    obtain ⟨l0, l1, lt, rfl⟩ := two_of (ys := ls') (by rw [← hl'.len]; exact ho2)
    have hput : ∀ ob, G8.le (G8.put d8 ob) := fun ob => Km.put_le ((C8.new d8 (by simp)).2.1)
    have fin : ∀ {s9 : Shared} {m9 : List (Str × Value)} {es9 : List DictEntry} {n9 : Nat}, EsAre es9 (putA (Str.ofString "iscanonical") (.bool true) (grpL true tp8 false u1 u2)) → Cx [] w s G G8 L m9 [(d8, dictOf es9 n9)] s9 → R (.ok (.ret (.ref r8))) s9 := fun {s9 m9 es9 n9} he C =>
      hR _ _ _ (l0 :: l1 :: lt) (C.freeze (by simp)).wd (C.freeze (by simp)).ps ⟨w0 :: w1 :: wt, true, ⟨tp8, u1, u2, ⟨d8, _, _, hput _ _ _ hx8, Km.put_self, EsAre.norm he (by with_unfolding_all rfl)⟩, h8.mono (hput _)⟩, hl'.mono (hput _)⟩ hpl hsl
    exact fin (by assumption) (by assumption)
--CUT
-- the last part of DualBase.simplify: two literals or more, of different names
theorem sim4_or {a t la : Addr} {t1 t2 : Tok} {vs : List Value} {ls : List Lit} {n : Nat} {G1 : Km} {s1 : Shared} (rm : Rm A 40) (C : Cx [] w s G G1 L m [(la, lstObj vs n)] s1)
   (hm1 : m.lookup (Str.ofString "args") = some (.ref la)) (hm2 : m.lookup (Str.ofString "self") = some (.ref a)) (hm3 : m.lookup (Str.ofString "sort") = some (.bool true))
   (o : ObjAt G1 a 612 (grpL false t false t1 t2)) (hl : LitsAt G1 vs ls) (hn : ∀ l ∈ ls, l.1 ∈ nmL) (hd : (ls.map (·.1)).Nodup) (h2 : 2 ≤ vs.length) (hz : vs.length ≤ 60)
   (hR : ∀ s' G' r ls', Wd w G' s' → Ps [] s G s' G' → IsB G' r false (some ls') → ls'.Perm ls → List.Pairwise (fun a b : Lit => nmR a.1 < nmR b.1) ls' → R (.ok (.ret (.ref r))) s') :
   wpAny (MD w) A (execs ((fnBody (mthAt 15 2)).drop 11) (envX "DualBase.simplify" (fnScope (mthAt 15 2)) L 471 (.ref 470) [])) (fun fl s'' => R (.ok (.ret (match fl with | .ret v => v | _ => .none))) s'') (fun _ _ => False) s1 := by
  repeat walk1
  refine wpAny_While (R_while (fun n' s' => ∃ i m' tk, Cx [] w s G G1 L m' [(la, lstObj vs n)] s' ∧ i + n' = vs.length + 1 ∧ m'.lookup (Str.ofString "i") = some (.int ((i : Nat) : Int) tk) ∧ m'.lookup (Str.ofString "args") = some (.ref la) ∧ m'.lookup (Str.ofString "self") = some (.ref a) ∧ m'.lookup (Str.ofString "sort") = some (.bool true)) (fun n' s4 ⟨i, m4, tk, C4, hi, h1, k2, k3, k4⟩ => ?_) (vs.length + 1)
    ⟨0, _, _, by assumption, Nat.zero_add _, by with_unfolding_all exact rfl, by walk_at "m_lk", by walk_at "m_lk", by walk_at "m_lk"⟩)
  clear C hm1 hm2 hm3
  repeat walk1
  · have hlt : i < vs.length := by have := ‹((i : Nat) : Int) < ((vs.length : Nat) : Int) - 1›; omega
    have hv : vs[i]? = some vs[i] := List.getElem?_eq_getElem hlt
    obtain ⟨b, lj, hb, _, hbl⟩ := hl.get hv
    obtain ⟨D, lb', ob, hD⟩ := hbl.exAt
    rw [hb] at hv
    have hDe : D ∈ exCls := by rcases hD with rfl | rfl <;> decide
    have hDi : isiTab D (grpOf (!false)) = false := by rcases hD with rfl | rfl <;> decide
    clear C4
    repeat walk1
    refine wpAny_call (isDual_k (k := false) (D := D) (Cx.wd (by assumption)) (rm.le (by decide)) ob hDe fun s6 W6 P6 => ?_)
    rw [hDi]
    clear ob
    have C6 := Cx.after (by assumption) W6 P6
    repeat walk1
    show Again _ _ _
    exact ⟨n' - 1, by omega, i + 1, _, _, by assumption, by omega, by with_unfolding_all exact rfl, by walk_at "m_lk", by walk_at "m_lk", by walk_at "m_lk"⟩
  · clear C4 h1
    obtain ⟨v0, v1, vt, rfl⟩ := two_of h2
    have hput : G1.le (G1.put la (lstObj (v0 :: v1 :: vt) n)) := Km.put_le ((‹Cx [] w s G G1 L m4 [(la, lstObj (v0 :: v1 :: vt) n)] _›).new la (by simp)).2.1
    have C5 := (‹Cx [] w s G G1 L m4 [(la, lstObj (v0 :: v1 :: vt) n)] _›).freeze (fun h => nomatch h)
    replace o := o.mono hput
    replace hl := hl.mono hput
    repeat walk1
    have hput5 : SeqAt (G1.put la (lstObj (v0 :: v1 :: vt) n)) la (v0 :: v1 :: vt) := ⟨"list", n, .inl rfl, Km.put_self⟩
    have hz5 : vt.length ≤ 58 := by simp only [List.length_cons] at hz; omega
    refine wpAny_call (absorb_or (Cx.wd (Cx.toks C5 _)) (rm.le (by decide)) o hput5 hl (by simp only [List.length_cons]; omega) fun s6 G6 r6 n6 W6 P6 F6 => ?_)
    have C6 : Cx [] w s G G6 L m4 [(r6, lstObj (v0 :: v1 :: vt) n6)] s6 := (Cx.toks C5 _).adopt W6 P6 F6
    replace o := o.mono P6.le
    replace hl := hl.mono P6.le
    clear hput5 hput C5
    repeat walk1
    · exfalso
      have := ‹((((v0 :: v1 :: vt).length : Nat) : Int)) = 1›
      simp only [List.length_cons] at this
      omega
    repeat walk1
    refine R_sort (pre := []) (post := []) (ρ := rkV G6) (k := 7) (by assumption) (rm.le (by decide)) (by omega) hl.exs (hl.nodup hd) (hl.inj hd hn) (hl.ltP hd hn) fun s7 n7 out hop hos C7 => ?_
    clear C6
    replace C7 : Cx [] w s G G6 _ _ [(r6, lstObj out n7)] s7 := C7
    obtain ⟨ls', hl', hpl⟩ := hl.perm hop
    have hsl := hl'.sorted hos
    have ho2 : 2 ≤ out.length := by rw [hop.length_eq]; simp
    have hoz : out.length ≤ 60 := by rw [hop.length_eq]; exact hz
    obtain ⟨w0, w1, wt, rfl⟩ := two_of ho2
    have hput : G6.le (G6.put r6 (lstObj (w0 :: w1 :: wt) n7)) := Km.put_le (C7.new r6 (by simp)).2.1
    replace C7 := C7.freeze (fun h => nomatch h)
    replace o := o.mono hput
    replace hl' := hl'.mono hput
    clear hl hz5 hop hos
    repeat walk1
    refine wpAny_call (or_made (Cx.wd (by assumption)) (rm.le (by decide)) ⟨"list", n7, .inl rfl, Km.put_self⟩ hl'.exs (by simp only [List.length_cons] at hoz; omega) fun s8 G8 r8 d8 tp8 u1 u2 N8 h8 => ?_)
    obtain ⟨es8, n8, F8, he8⟩ := N8.fresh
    have C8 : Cx [] w s G G8 _ _ [(d8, dictOf es8 n8)] s8 := Cx.adopt (by assumption) N8.wd N8.ps F8
    have hx8 := N8.at_
    replace hl' := hl'.mono N8.ps.le
    replace o := o.mono N8.ps.le
    have hcl : isCls 612 := by unfold isCls; decide
    clear N8 F8 hput
    repeat walk1
    obtain ⟨l0, l1, lt, rfl⟩ := two_of (ys := ls') (by rw [← hl'.len]; exact ho2)
    have hput : ∀ ob, G8.le (G8.put d8 ob) := fun ob => Km.put_le ((C8.new d8 (by simp)).2.1)
    have fin : ∀ {s9 : Shared} {m9 : List (Str × Value)} {es9 : List DictEntry} {n9 : Nat}, EsAre es9 (putA (Str.ofString "iscanonical") (.bool true) (grpL false tp8 false u1 u2)) → Cx [] w s G G8 L m9 [(d8, dictOf es9 n9)] s9 → R (.ok (.ret (.ref r8))) s9 := fun {s9 m9 es9 n9} he C =>
      hR _ _ _ (l0 :: l1 :: lt) (C.freeze (by simp)).wd (C.freeze (by simp)).ps ⟨w0 :: w1 :: wt, true, ⟨tp8, u1, u2, ⟨d8, _, _, hput _ _ _ hx8, Km.put_self, EsAre.norm he (by with_unfolding_all rfl)⟩, h8.mono (hput _)⟩, hl'.mono (hput _)⟩ hpl hsl
    exact fin (by assumption) (by assumption)
--CUT
end
-- part C22
section
variable {X : List Addr} {w : World} {s₀ s s' : Shared} {G₀ G G' : Km} {L : Addr} {m : List (Str × Value)} {mu : List (Addr × Obj)} {A : Around} {E : Value → Shared → Prop} {R : Result → Shared → Prop}
-- the part of DualBase.simplify that seeks a literal and its negation
theorem simC_and {a t la : Addr} {t1 t2 : Tok} {vs : List Value} {ls : List Lit} {n : Nat} {G1 : Km} {s1 : Shared} (rm : Rm A 40) (C : Cx [] w s G G1 L m [(la, lstObj vs n)] s1)
   (hm1 : m.lookup (Str.ofString "args") = some (.ref la)) (hm2 : m.lookup (Str.ofString "self") = some (.ref a)) (hm3 : m.lookup (Str.ofString "sort") = some (.bool true))
   (o : ObjAt G1 a 563 (grpL true t false t1 t2)) (hl : LitsAt G1 vs ls) (hn : ∀ l ∈ ls, l.1 ∈ nmL) (hd : ls.Nodup) (h2 : 2 ≤ vs.length) (hz : vs.length ≤ 60)
   (hR : ∀ s' G' r, Wd w G' s' → Ps [] s G s' G' → IsB G' r true (nrm (ls.map .lit)) → R (.ok (.ret (.ref r))) s') :
   wpAny (MD w) A (execs ((fnBody (mthAt 15 2)).drop 10) (envX "DualBase.simplify" (fnScope (mthAt 15 2)) L 471 (.ref 470) [])) (fun fl s'' => R (.ok (.ret (match fl with | .ret v => v | _ => .none))) s'') (fun _ _ => False) s1 := by
  repeat walk1
  refine wpAny_For ?_
  repeat walk1
  refine R_iterL (by assumption) (.head _) fun I s4 o4 ho4 C4 => ?_
  refine R_forL (l := la) (vs := vs) (n := n) (fun i G' m' mu' => m'.lookup (Str.ofString "args") = some (.ref la) ∧ m'.lookup (Str.ofString "self") = some (.ref a) ∧ m'.lookup (Str.ofString "sort") = some (.bool true) ∧ mu' = [(la, lstObj vs n)] ∧ ∀ j, j < i → ∀ nm, ls[j]? = some (nm, false) → (nm, true) ∉ ls)
    rm.1 C4 ho4 (fun i G' m' mu' h => by rw [h.2.2.2.1]; exact .head _) (by rfl) (by rfl) ⟨hm1, hm2, hm3, rfl, fun j hj => absurd hj (Nat.not_lt_zero j)⟩ ?_ ?_
  · intro i v G5 m5 mu5 s5 o5 E5 hv le5 ⟨k1, k2, k3, e2, hi⟩ ho5 C5
    subst e2
    replace hl := hl.mono le5
    replace o := o.mono le5
    obtain ⟨b, lb, rfl, hlb, hb⟩ := hl.get hv
    obtain ⟨Db, ob, x1, x2, _⟩ := hb.obj
    clear C C4 hm1 hm2 hm3
    repeat walk1
    refine R_mkNot (by assumption) (rm.le (by decide)) x1 x2 fun s6 G6 xn le6 hxn C6 => ?_
    clear x1
    replace hl := hl.mono le6
    replace o := o.mono le6
    replace hb := hb.mono le6
    repeat walk1
    obtain ⟨nm, bb⟩ := lb
    cases bb with
    | false =>
      have hx : LitAt G6 xn (nm, true) := ⟨b, false, hxn, hb⟩
      refine R_inL (k := 7) (by assumption) (rm.le (by decide)) (.tail _ (.head _)) (eq_lit_all hx hl) fun s7 C7 => ?_
      have e : (ls.map fun l => decide (l = (nm, true))).any id = decide ((nm, true) ∈ ls) := by
        rw [Bool.eq_iff_iff]; simp
      rw [e]
      clear hx hxn hb C5
      by_cases q : (nm, true) ∈ ls
      · rw [decide_eq_true q]
        repeat walk1
        refine hR _ _ _ (Cx.wd (by assumption)) (Cx.ps (by assumption)) ?_
        unfold nrm
        rw [if_pos (isClash hn (List.mem_iff_getElem?.mpr ⟨i, hlb⟩) q)]
        rfl
      · rw [decide_eq_false q]
        repeat walk1
        show ∃ _, _
        refine ⟨_, _, _, ?_, le6, by assumption⟩
        refine ⟨by walk_at "m_lk", by walk_at "m_lk", by walk_at "m_lk", rfl, fun j hj nm' h => ?_⟩
        rcases Nat.lt_succ_iff_lt_or_eq.mp hj with hj | rfl
        · exact hi j hj nm' h
        · rw [hlb] at h
          cases h
          exact q
    | true =>
      obtain ⟨y, cy, hy, hs⟩ := hb
      refine R_inL (k := 7) (by assumption) (rm.le (by decide)) (.tail _ (.head _)) (eq_nn_all hxn hy hs hl) fun s7 C7 => ?_
      have e : (ls.map fun l => false).any id = false := by simp
      rw [e]
      clear hxn hy hs C5
      repeat walk1
      show ∃ _, _
      refine ⟨_, _, _, ?_, le6, by assumption⟩
      refine ⟨by walk_at "m_lk", by walk_at "m_lk", by walk_at "m_lk", rfl, fun j hj nm' h => ?_⟩
      rcases Nat.lt_succ_iff_lt_or_eq.mp hj with hj | rfl
      · exact hi j hj nm' h
      · rw [hlb] at h
        cases h
  · intro G5 m5 mu5 s5 E5 ⟨k1, k2, k3, e2, hi⟩ le5 C5
    subst e2
    have hc : ∀ nm, (nm, false) ∈ ls → (nm, true) ∉ ls := fun nm h => let ⟨j, hj⟩ := List.mem_iff_getElem?.mp h; hi j (by have := (List.getElem?_eq_some_iff.mp hj).1; rw [hl.len]; exact this) nm hj
    clear C C4 hm1 hm2 hm3
    walk1
    exact sim4_and rm C5 k1 k2 k3 (o.mono le5) (hl.mono le5) hn (names_nodup hd hc) h2 hz fun s' G' r ls' W' P' hb hp hs => hR s' G' r W' P' (by rw [nrm_sorted_lits hn hc hp hs]; exact hb)
--CUT
-- the part of DualBase.simplify that seeks a literal and its negation
theorem simC_or {a t la : Addr} {t1 t2 : Tok} {vs : List Value} {ls : List Lit} {n : Nat} {G1 : Km} {s1 : Shared} (rm : Rm A 40) (C : Cx [] w s G G1 L m [(la, lstObj vs n)] s1)
   (hm1 : m.lookup (Str.ofString "args") = some (.ref la)) (hm2 : m.lookup (Str.ofString "self") = some (.ref a)) (hm3 : m.lookup (Str.ofString "sort") = some (.bool true))
   (o : ObjAt G1 a 612 (grpL false t false t1 t2)) (hl : LitsAt G1 vs ls) (hn : ∀ l ∈ ls, l.1 ∈ nmL) (hd : ls.Nodup) (h2 : 2 ≤ vs.length) (hz : vs.length ≤ 60)
   (hR : ∀ s' G' r, Wd w G' s' → Ps [] s G s' G' → IsB G' r false (nrm (ls.map .lit)) → R (.ok (.ret (.ref r))) s') :
   wpAny (MD w) A (execs ((fnBody (mthAt 15 2)).drop 10) (envX "DualBase.simplify" (fnScope (mthAt 15 2)) L 471 (.ref 470) [])) (fun fl s'' => R (.ok (.ret (match fl with | .ret v => v | _ => .none))) s'') (fun _ _ => False) s1 := by
  repeat walk1
  refine wpAny_For ?_
  repeat walk1
  refine R_iterL (by assumption) (.head _) fun I s4 o4 ho4 C4 => ?_
  refine R_forL (l := la) (vs := vs) (n := n) (fun i G' m' mu' => m'.lookup (Str.ofString "args") = some (.ref la) ∧ m'.lookup (Str.ofString "self") = some (.ref a) ∧ m'.lookup (Str.ofString "sort") = some (.bool true) ∧ mu' = [(la, lstObj vs n)] ∧ ∀ j, j < i → ∀ nm, ls[j]? = some (nm, false) → (nm, true) ∉ ls)
    rm.1 C4 ho4 (fun i G' m' mu' h => by rw [h.2.2.2.1]; exact .head _) (by rfl) (by rfl) ⟨hm1, hm2, hm3, rfl, fun j hj => absurd hj (Nat.not_lt_zero j)⟩ ?_ ?_
  · intro i v G5 m5 mu5 s5 o5 E5 hv le5 ⟨k1, k2, k3, e2, hi⟩ ho5 C5
    subst e2
    replace hl := hl.mono le5
    replace o := o.mono le5
    obtain ⟨b, lb, rfl, hlb, hb⟩ := hl.get hv
    obtain ⟨Db, ob, x1, x2, _⟩ := hb.obj
    clear C C4 hm1 hm2 hm3
    repeat walk1
    refine R_mkNot (by assumption) (rm.le (by decide)) x1 x2 fun s6 G6 xn le6 hxn C6 => ?_
    clear x1
    replace hl := hl.mono le6
    replace o := o.mono le6
    replace hb := hb.mono le6
    repeat walk1
    obtain ⟨nm, bb⟩ := lb
    cases bb with
    | false =>
      have hx : LitAt G6 xn (nm, true) := ⟨b, false, hxn, hb⟩
      refine R_inL (k := 7) (by assumption) (rm.le (by decide)) (.tail _ (.head _)) (eq_lit_all hx hl) fun s7 C7 => ?_
      have e : (ls.map fun l => decide (l = (nm, true))).any id = decide ((nm, true) ∈ ls) := by
        rw [Bool.eq_iff_iff]; simp
      rw [e]
      clear hx hxn hb C5
      by_cases q : (nm, true) ∈ ls
      · rw [decide_eq_true q]
        repeat walk1
        refine hR _ _ _ (Cx.wd (by assumption)) (Cx.ps (by assumption)) ?_
        unfold nrm
        rw [if_pos (isClash hn (List.mem_iff_getElem?.mpr ⟨i, hlb⟩) q)]
        rfl
      · rw [decide_eq_false q]
        repeat walk1
        show ∃ _, _
        refine ⟨_, _, _, ?_, le6, by assumption⟩
        refine ⟨by walk_at "m_lk", by walk_at "m_lk", by walk_at "m_lk", rfl, fun j hj nm' h => ?_⟩
        rcases Nat.lt_succ_iff_lt_or_eq.mp hj with hj | rfl
        · exact hi j hj nm' h
        · rw [hlb] at h
          cases h
          exact q
    | true =>
      obtain ⟨y, cy, hy, hs⟩ := hb
      refine R_inL (k := 7) (by assumption) (rm.le (by decide)) (.tail _ (.head _)) (eq_nn_all hxn hy hs hl) fun s7 C7 => ?_
      have e : (ls.map fun l => false).any id = false := by simp
      rw [e]
      clear hxn hy hs C5
      repeat walk1
      show ∃ _, _
      refine ⟨_, _, _, ?_, le6, by assumption⟩
      refine ⟨by walk_at "m_lk", by walk_at "m_lk", by walk_at "m_lk", rfl, fun j hj nm' h => ?_⟩
      rcases Nat.lt_succ_iff_lt_or_eq.mp hj with hj | rfl
      · exact hi j hj nm' h
      · rw [hlb] at h
        cases h
  · intro G5 m5 mu5 s5 E5 ⟨k1, k2, k3, e2, hi⟩ le5 C5
    subst e2
    have hc : ∀ nm, (nm, false) ∈ ls → (nm, true) ∉ ls := fun nm h => let ⟨j, hj⟩ := List.mem_iff_getElem?.mp h; hi j (by have := (List.getElem?_eq_some_iff.mp hj).1; rw [hl.len]; exact this) nm hj
    clear C C4 hm1 hm2 hm3
    walk1
    exact sim4_or rm C5 k1 k2 k3 (o.mono le5) (hl.mono le5) hn (names_nodup hd hc) h2 hz fun s' G' r ls' W' P' hb hp hs => hR s' G' r W' P' (by rw [nrm_sorted_lits hn hc hp hs]; exact hb)
--CUT
end
-- part C23
section
variable {X : List Addr} {w : World} {s₀ s s' : Shared} {G₀ G G' : Km} {L : Addr} {m : List (Str × Value)} {mu : List (Addr × Obj)} {A : Around} {E : Value → Shared → Prop} {R : Result → Shared → Prop}
theorem atom_den {k : Bool} {v : Value} {x : Atm} (h : AtomAt G k v x) (hx : x ≠ .ann) (hok : AOk [x]) : ∃ r, v = .ref r ∧ IsB G r k (nrm [x]) := by
  cases x with
  | ann => exact absurd rfl hx
  | idn => exact ⟨_, h, by rw [nrm_idn]; rfl⟩
  | lit l =>
    obtain ⟨a, e, h⟩ := h
    exact ⟨a, e, by rw [nrm_one (hok l (.head _))]; exact h⟩
theorem one_of {α : Type} : ∀ {ys : List α}, ys.length = 1 → ∃ y, ys = [y]
  | [y], _ => ⟨y, rfl⟩
theorem nodup_of_map {α β : Type} {f : α → β} : ∀ {l : List α}, (l.map f).Nodup → l.Nodup
  | [], _ => .nil
  | a :: l, h => by
    obtain ⟨h1, h2⟩ := List.nodup_cons.mp h
    exact List.nodup_cons.mpr ⟨fun q => h1 (List.mem_map_of_mem q), nodup_of_map h2⟩
-- the part of DualBase.simplify behind the taking out of doubles
theorem simD_and {a t la : Addr} {t1 t2 : Tok} {vs : List Value} {ys : List Atm} {n : Nat} {G1 : Km} {s1 : Shared} (rm : Rm A 40) (C : Cx [] w s G G1 L m [(la, lstObj vs n)] s1)
   (hm1 : m.lookup (Str.ofString "args") = some (.ref la)) (hm2 : m.lookup (Str.ofString "self") = some (.ref a)) (hm3 : m.lookup (Str.ofString "sort") = some (.bool true))
   (o : ObjAt G1 a 563 (grpL true t false t1 t2)) (hl : AtomsAt G1 true vs ys) (hok : AOk ys) (hd : ys.Nodup) (hann : .ann ∉ ys) (h1 : 1 ≤ ys.length)
   (hR : ∀ s' G' r, Wd w G' s' → Ps [] s G s' G' → IsB G' r true (nrm ys) → R (.ok (.ret (.ref r))) s') :
   wpAny (MD w) A (execs ((fnBody (mthAt 15 2)).drop 8) (envX "DualBase.simplify" (fnScope (mthAt 15 2)) L 471 (.ref 470) [])) (fun fl s'' => R (.ok (.ret (match fl with | .ret v => v | _ => .none))) s'') (fun _ _ => False) s1 := by
  have hz : vs.length ≤ 10 := by rw [hl.len]; exact atoms_len hd hok
  have hvy := hl.len
  by_cases hone : ys.length = 1
  · obtain ⟨y, rfl⟩ := one_of hone
    obtain ⟨v, rfl⟩ := one_of (ys := vs) (by rw [hvy]; rfl)
    obtain ⟨r, rfl, hb⟩ := atom_den hl.1 (fun e => hann (e ▸ .head _)) hok
    repeat walk1
    · exact hR _ _ _ (Cx.wd (by assumption)) (Cx.ps (by assumption)) hb
    · rename_i q
      exact absurd rfl q
  · repeat walk1
    · exfalso
      have := ‹((vs.length : Nat) : Int) = 1›
      omega
    repeat walk1
    refine R_inL (k := 7) (by assumption) (rm.le (by decide)) (.head _) (eq_all (k := true) (y := .idn) (Cx.wd (by assumption)) rfl hl) fun s3 C3 => ?_
    rw [any_mem]
    by_cases q : Atm.idn ∈ ys
    · rw [decide_eq_true q]
      clear C hone
      repeat walk1
      refine R_removeL (pre := []) (post := []) (k := 7) (by assumption) (rm.le (by decide)) (by omega) (eq_all (k := true) (y := .idn) (Cx.wd (by assumption)) rfl hl) (by rw [any_mem, decide_eq_true q]) fun s4 n4 C4 => ?_
      have hl4 := hl.rm .idn
      have hle := List.length_erase_of_mem q
      generalize hvs : rmF vs (ys.map fun x => decide (x = .idn)) = vs4 at hl4 C4
      have C4 : Cx [] w s G G1 L m [(la, lstObj vs4 n4)] s4 := C4
      have hnr : nrm (ys.erase .idn) = nrm ys := nrm_congr' (fun l => List.mem_erase_of_ne nofun) (List.mem_erase_of_ne nofun)
      have hok4 : AOk (ys.erase .idn) := hok.sub fun x hx => List.mem_of_mem_erase hx
      have hd4 : (ys.erase .idn).Nodup := hd.erase _
      have hni : .idn ∉ ys.erase .idn := fun h => ((List.Nodup.mem_erase_iff hd).mp h).1 rfl
      have hna : .ann ∉ ys.erase .idn := fun h => hann (List.mem_of_mem_erase h)
      rw [← hnr] at hR
      clear hvs hl hok hd hann
      generalize ys.erase .idn = zs at *
      have hzl := hl4.len
      by_cases hone : zs.length = 1
      · obtain ⟨y, rfl⟩ := one_of hone
        obtain ⟨v, rfl⟩ := one_of (ys := vs4) (by rw [hzl]; rfl)
        obtain ⟨r, rfl, hb⟩ := atom_den hl4.1 (fun e => hna (e ▸ .head _)) hok4
        repeat walk1
        · exact hR _ _ _ (Cx.wd (by assumption)) (Cx.ps (by assumption)) hb
        · rename_i q
          exact absurd rfl q
      · repeat walk1
        · exfalso
          have := ‹((vs4.length : Nat) : Int) = 1›
          omega
        obtain ⟨ls, rfl, hls⟩ := hl4.lits hna hni
        have hlm : (ls.map Atm.lit).length = ls.length := List.length_map ..
        have hz4 : 2 ≤ vs4.length ∧ vs4.length ≤ 10 := by omega
        iterate 2 walk1
        exact simC_and rm (by assumption) hm1 hm2 hm3 o hls (fun l h => hok4 _ (lit_mem.mpr h)) (nodup_of_map hd4) (by omega) (by omega) hR
    · rw [decide_eq_false q]
      obtain ⟨ls, rfl, hls⟩ := hl.lits hann q
      have hlm : (ls.map Atm.lit).length = ls.length := List.length_map ..
      iterate 3 walk1
      exact simC_and rm (by assumption) hm1 hm2 hm3 o hls (fun l h => hok _ (lit_mem.mpr h)) (nodup_of_map hd) (by omega) (by omega) hR
--CUT
-- the part of DualBase.simplify behind the taking out of doubles
theorem simD_or {a t la : Addr} {t1 t2 : Tok} {vs : List Value} {ys : List Atm} {n : Nat} {G1 : Km} {s1 : Shared} (rm : Rm A 40) (C : Cx [] w s G G1 L m [(la, lstObj vs n)] s1)
   (hm1 : m.lookup (Str.ofString "args") = some (.ref la)) (hm2 : m.lookup (Str.ofString "self") = some (.ref a)) (hm3 : m.lookup (Str.ofString "sort") = some (.bool true))
   (o : ObjAt G1 a 612 (grpL false t false t1 t2)) (hl : AtomsAt G1 false vs ys) (hok : AOk ys) (hd : ys.Nodup) (hann : .ann ∉ ys) (h1 : 1 ≤ ys.length)
   (hR : ∀ s' G' r, Wd w G' s' → Ps [] s G s' G' → IsB G' r false (nrm ys) → R (.ok (.ret (.ref r))) s') :
   wpAny (MD w) A (execs ((fnBody (mthAt 15 2)).drop 8) (envX "DualBase.simplify" (fnScope (mthAt 15 2)) L 471 (.ref 470) [])) (fun fl s'' => R (.ok (.ret (match fl with | .ret v => v | _ => .none))) s'') (fun _ _ => False) s1 := by
  have hz : vs.length ≤ 10 := by rw [hl.len]; exact atoms_len hd hok
  have hvy := hl.len
  by_cases hone : ys.length = 1
  · obtain ⟨y, rfl⟩ := one_of hone
    obtain ⟨v, rfl⟩ := one_of (ys := vs) (by rw [hvy]; rfl)
    obtain ⟨r, rfl, hb⟩ := atom_den hl.1 (fun e => hann (e ▸ .head _)) hok
    repeat walk1
    · exact hR _ _ _ (Cx.wd (by assumption)) (Cx.ps (by assumption)) hb
    · rename_i q
      exact absurd rfl q
  · repeat walk1
    · exfalso
      have := ‹((vs.length : Nat) : Int) = 1›
      omega
    repeat walk1
    refine R_inL (k := 7) (by assumption) (rm.le (by decide)) (.head _) (eq_all (k := false) (y := .idn) (Cx.wd (by assumption)) rfl hl) fun s3 C3 => ?_
    rw [any_mem]
    by_cases q : Atm.idn ∈ ys
    · rw [decide_eq_true q]
      clear C hone
      repeat walk1
      refine R_removeL (pre := []) (post := []) (k := 7) (by assumption) (rm.le (by decide)) (by omega) (eq_all (k := false) (y := .idn) (Cx.wd (by assumption)) rfl hl) (by rw [any_mem, decide_eq_true q]) fun s4 n4 C4 => ?_
      have hl4 := hl.rm .idn
      have hle := List.length_erase_of_mem q
      generalize hvs : rmF vs (ys.map fun x => decide (x = .idn)) = vs4 at hl4 C4
      have C4 : Cx [] w s G G1 L m [(la, lstObj vs4 n4)] s4 := C4
      have hnr : nrm (ys.erase .idn) = nrm ys := nrm_congr' (fun l => List.mem_erase_of_ne nofun) (List.mem_erase_of_ne nofun)
      have hok4 : AOk (ys.erase .idn) := hok.sub fun x hx => List.mem_of_mem_erase hx
      have hd4 : (ys.erase .idn).Nodup := hd.erase _
      have hni : .idn ∉ ys.erase .idn := fun h => ((List.Nodup.mem_erase_iff hd).mp h).1 rfl
      have hna : .ann ∉ ys.erase .idn := fun h => hann (List.mem_of_mem_erase h)
      rw [← hnr] at hR
      clear hvs hl hok hd hann
      generalize ys.erase .idn = zs at *
      have hzl := hl4.len
      by_cases hone : zs.length = 1
      · obtain ⟨y, rfl⟩ := one_of hone
        obtain ⟨v, rfl⟩ := one_of (ys := vs4) (by rw [hzl]; rfl)
        obtain ⟨r, rfl, hb⟩ := atom_den hl4.1 (fun e => hna (e ▸ .head _)) hok4
        repeat walk1
        · exact hR _ _ _ (Cx.wd (by assumption)) (Cx.ps (by assumption)) hb
        · rename_i q
          exact absurd rfl q
      · repeat walk1
        · exfalso
          have := ‹((vs4.length : Nat) : Int) = 1›
          omega
        obtain ⟨ls, rfl, hls⟩ := hl4.lits hna hni
        have hlm : (ls.map Atm.lit).length = ls.length := List.length_map ..
        have hz4 : 2 ≤ vs4.length ∧ vs4.length ≤ 10 := by omega
        iterate 2 walk1
        exact simC_or rm (by assumption) hm1 hm2 hm3 o hls (fun l h => hok4 _ (lit_mem.mpr h)) (nodup_of_map hd4) (by omega) (by omega) hR
    · rw [decide_eq_false q]
      obtain ⟨ls, rfl, hls⟩ := hl.lits hann q
      have hlm : (ls.map Atm.lit).length = ls.length := List.length_map ..
      iterate 3 walk1
      exact simC_or rm (by assumption) hm1 hm2 hm3 o hls (fun l h => hok _ (lit_mem.mpr h)) (nodup_of_map hd) (by omega) (by omega) hR
--CUT
end
-- part C24
section
variable {X : List Addr} {w : World} {s₀ s s' : Shared} {G₀ G G' : Km} {L : Addr} {m : List (Str × Value)} {mu : List (Addr × Obj)} {A : Around} {E : Value → Shared → Prop} {R : Result → Shared → Prop}
theorem R_newL {vs : List Value} {Q : Value → Shared → Prop} (C : Cx X w s₀ G₀ G L m mu s) (hz : vs.length ≤ 2000) (h : ∀ l s' n, Cx X w s₀ G₀ G L m ((l, lstObj vs n) :: mu) s' → Q (.ref l) s') : wpAny (MD w) A (newList vs) Q E s :=
  wpAny_newList (h _ _ 0 C.push)
-- the part of DualBase.simplify from the search for the annihilator
theorem simE_and {a t r7 tp7 : Addr} {t1 t2 u5 u6 : Tok} {ws : List Value} {xs : List Atm} {G1 : Km} {s1 : Shared} (rm : Rm A 40) (C : Cx [] w s G G1 L m [] s1)
   (hm1 : m.lookup (Str.ofString "expr") = some (.ref r7)) (hm2 : m.lookup (Str.ofString "self") = some (.ref a)) (hm3 : m.lookup (Str.ofString "sort") = some (.bool true))
   (o : ObjAt G1 a 563 (grpL true t false t1 t2)) (o7 : ObjAt G1 r7 563 (grpL true tp7 false u5 u6)) (h7 : TupAt G1 tp7 ws) (at7 : AtomsAt G1 true ws xs) (hok : AOk xs) (h1 : 1 ≤ xs.length) (hz : xs.length ≤ 400)
   (hR : ∀ s' G' r, Wd w G' s' → Ps [] s G s' G' → IsB G' r true (nrm xs) → R (.ok (.ret (.ref r))) s') :
   wpAny (MD w) A (execs ((fnBody (mthAt 15 2)).drop 5) (envX "DualBase.simplify" (fnScope (mthAt 15 2)) L 471 (.ref 470) [])) (fun fl s'' => R (.ok (.ret (match fl with | .ret v => v | _ => .none))) s'') (fun _ _ => False) s1 := by
  repeat walk1
  refine R_inT (by assumption) (rm.le (k' := 8) (by omega)) h7 (eq_all (k := true) (y := .ann) (Cx.wd (by assumption)) rfl at7) fun s8 C8 => ?_
  rw [any_mem]
  by_cases q : Atm.ann ∈ xs
  · rw [decide_eq_true q]
    repeat walk1
    refine hR _ _ _ (Cx.wd (by assumption)) (Cx.ps (by assumption)) ?_
    rw [show nrm xs = none from if_pos (.inl q)]
    rfl
  · rw [decide_eq_false q]
    clear C
    repeat walk1
    refine R_newL (by assumption) (by decide) fun la s9 n9 C9 => ?_
    repeat walk1
    refine wpAny_For ?_
    repeat walk1
    refine R_iterT (by assumption) h7 fun I s10 o10 ho10 C10 => ?_
    refine R_forT (t := tp7) (vs := ws) (fun i G' m' mu' => m'.lookup (Str.ofString "args") = some (.ref la) ∧ m'.lookup (Str.ofString "self") = some (.ref a) ∧ m'.lookup (Str.ofString "sort") = some (.bool true) ∧ ∃ ys n, mu' = [(la, lstObj ys n)] ∧ AtomsAt G' true ys (dd (xs.take i)))
      rm.1 C10 ho10 h7 (by rfl) (by rfl) ⟨by walk_at "m_lk", by walk_at "m_lk", by walk_at "m_lk", _, _, rfl, trivial⟩ ?_ ?_
    · intro i v G5 m5 mu5 s5 o5 E5 hv le5 ⟨k1, k2, k3, ys, n5, e2, hys⟩ ho5 C5
      subst e2
      replace at7 := at7.mono le5
      obtain ⟨x, hx, hvx⟩ := at7.get hv
      obtain ⟨b, Db, lb, rfl, ob, hDb, _⟩ := hvx.obj C5.wd
      have hdl : (dd (xs.take i)).length ≤ 400 := Nat.le_trans (dd_len _) (by rw [List.length_take]; omega)
      have hyl := hys.len
      have hxi : xs.take (i + 1) = xs.take i ++ [x] := by rw [List.take_add_one, hx]; rfl
      have hsn := dd_snoc (xs.take i) x
      rw [← hxi] at hsn
      clear C8 C9 C10 hm1 hm2 hm3
      repeat walk1
      refine R_notInL (k := 7) (by assumption) (rm.le (by decide)) (.tail _ (.head _)) (eq_all (k := true) (y := x) (Cx.wd (by assumption)) hvx hys) fun s7 C7 => ?_
      rw [any_mem]
      by_cases q : x ∈ dd (xs.take i)
      · rw [decide_eq_true q]
        rw [if_pos q] at hsn
        repeat walk1
        refine ⟨_, _, _, ?_, Km.le.refl _, by assumption⟩
        exact ⟨by walk_at "m_lk", by walk_at "m_lk", by walk_at "m_lk", _, _, rfl, hsn ▸ hys⟩
      · rw [decide_eq_false q]
        rw [if_neg q] at hsn
        repeat walk1
        refine R_append (pre := [(I, o5)]) (post := []) (by assumption) (by omega) fun s11 n11 C11 => ?_
        have C11 : Cx [] w s G G5 _ _ [(I, o5), (la, lstObj (ys ++ [.ref b]) n11)] s11 := C11
        have hys11 : AtomsAt G5 true (ys ++ [.ref b]) (dd (xs.take (i + 1))) := hsn ▸ hys.append ⟨hvx, trivial⟩
        clear C7 hsn
        repeat walk1
        refine ⟨_, _, _, ?_, Km.le.refl _, by assumption⟩
        exact ⟨by walk_at "m_lk", by walk_at "m_lk", by walk_at "m_lk", _, _, rfl, hys11⟩
    · intro G5 m5 mu5 s5 E5 ⟨k1, k2, k3, ys, n5, e2, hys⟩ le5 C5
      subst e2
      have hws := at7.len
      rw [hws, List.take_length] at hys
      walk1
      exact simD_and rm C5 k1 k2 k3 (o.mono le5) hys (hok.sub fun x hx => (dd_mem xs x).mp hx) (dd_nodup xs) (fun h => q ((dd_mem xs _).mp h)) (by
        match xs, h1 with
        | x :: xs, _ =>
          have := (dd_mem (x :: xs) x).mpr (.head _)
          exact List.length_pos_of_mem this) (by rw [nrm_congr (dd_mem xs)]; exact hR)
--CUT
-- the part of DualBase.simplify from the search for the annihilator
theorem simE_or {a t r7 tp7 : Addr} {t1 t2 u5 u6 : Tok} {ws : List Value} {xs : List Atm} {G1 : Km} {s1 : Shared} (rm : Rm A 40) (C : Cx [] w s G G1 L m [] s1)
   (hm1 : m.lookup (Str.ofString "expr") = some (.ref r7)) (hm2 : m.lookup (Str.ofString "self") = some (.ref a)) (hm3 : m.lookup (Str.ofString "sort") = some (.bool true))
   (o : ObjAt G1 a 612 (grpL false t false t1 t2)) (o7 : ObjAt G1 r7 612 (grpL false tp7 false u5 u6)) (h7 : TupAt G1 tp7 ws) (at7 : AtomsAt G1 false ws xs) (hok : AOk xs) (h1 : 1 ≤ xs.length) (hz : xs.length ≤ 400)
   (hR : ∀ s' G' r, Wd w G' s' → Ps [] s G s' G' → IsB G' r false (nrm xs) → R (.ok (.ret (.ref r))) s') :
   wpAny (MD w) A (execs ((fnBody (mthAt 15 2)).drop 5) (envX "DualBase.simplify" (fnScope (mthAt 15 2)) L 471 (.ref 470) [])) (fun fl s'' => R (.ok (.ret (match fl with | .ret v => v | _ => .none))) s'') (fun _ _ => False) s1 := by
  repeat walk1
  refine R_inT (by assumption) (rm.le (k' := 8) (by omega)) h7 (eq_all (k := false) (y := .ann) (Cx.wd (by assumption)) rfl at7) fun s8 C8 => ?_
  rw [any_mem]
  by_cases q : Atm.ann ∈ xs
  · rw [decide_eq_true q]
    repeat walk1
    refine hR _ _ _ (Cx.wd (by assumption)) (Cx.ps (by assumption)) ?_
    rw [show nrm xs = none from if_pos (.inl q)]
    rfl
  · rw [decide_eq_false q]
    clear C
    repeat walk1
    refine R_newL (by assumption) (by decide) fun la s9 n9 C9 => ?_
    repeat walk1
    refine wpAny_For ?_
    repeat walk1
    refine R_iterT (by assumption) h7 fun I s10 o10 ho10 C10 => ?_
    refine R_forT (t := tp7) (vs := ws) (fun i G' m' mu' => m'.lookup (Str.ofString "args") = some (.ref la) ∧ m'.lookup (Str.ofString "self") = some (.ref a) ∧ m'.lookup (Str.ofString "sort") = some (.bool true) ∧ ∃ ys n, mu' = [(la, lstObj ys n)] ∧ AtomsAt G' false ys (dd (xs.take i)))
      rm.1 C10 ho10 h7 (by rfl) (by rfl) ⟨by walk_at "m_lk", by walk_at "m_lk", by walk_at "m_lk", _, _, rfl, trivial⟩ ?_ ?_
    · intro i v G5 m5 mu5 s5 o5 E5 hv le5 ⟨k1, k2, k3, ys, n5, e2, hys⟩ ho5 C5
      subst e2
      replace at7 := at7.mono le5
      obtain ⟨x, hx, hvx⟩ := at7.get hv
      obtain ⟨b, Db, lb, rfl, ob, hDb, _⟩ := hvx.obj C5.wd
      have hdl : (dd (xs.take i)).length ≤ 400 := Nat.le_trans (dd_len _) (by rw [List.length_take]; omega)
      have hyl := hys.len
      have hxi : xs.take (i + 1) = xs.take i ++ [x] := by rw [List.take_add_one, hx]; rfl
      have hsn := dd_snoc (xs.take i) x
      rw [← hxi] at hsn
      clear C8 C9 C10 hm1 hm2 hm3
      repeat walk1
      refine R_notInL (k := 7) (by assumption) (rm.le (by decide)) (.tail _ (.head _)) (eq_all (k := false) (y := x) (Cx.wd (by assumption)) hvx hys) fun s7 C7 => ?_
      rw [any_mem]
      by_cases q : x ∈ dd (xs.take i)
      · rw [decide_eq_true q]
        rw [if_pos q] at hsn
        repeat walk1
        refine ⟨_, _, _, ?_, Km.le.refl _, by assumption⟩
        exact ⟨by walk_at "m_lk", by walk_at "m_lk", by walk_at "m_lk", _, _, rfl, hsn ▸ hys⟩
      · rw [decide_eq_false q]
        rw [if_neg q] at hsn
        repeat walk1
        refine R_append (pre := [(I, o5)]) (post := []) (by assumption) (by omega) fun s11 n11 C11 => ?_
        have C11 : Cx [] w s G G5 _ _ [(I, o5), (la, lstObj (ys ++ [.ref b]) n11)] s11 := C11
        have hys11 : AtomsAt G5 false (ys ++ [.ref b]) (dd (xs.take (i + 1))) := hsn ▸ hys.append ⟨hvx, trivial⟩
        clear C7 hsn
        repeat walk1
        refine ⟨_, _, _, ?_, Km.le.refl _, by assumption⟩
        exact ⟨by walk_at "m_lk", by walk_at "m_lk", by walk_at "m_lk", _, _, rfl, hys11⟩
    · intro G5 m5 mu5 s5 E5 ⟨k1, k2, k3, ys, n5, e2, hys⟩ le5 C5
      subst e2
      have hws := at7.len
      rw [hws, List.take_length] at hys
      walk1
      exact simD_or rm C5 k1 k2 k3 (o.mono le5) hys (hok.sub fun x hx => (dd_mem xs x).mp hx) (dd_nodup xs) (fun h => q ((dd_mem xs _).mp h)) (by
        match xs, h1 with
        | x :: xs, _ =>
          have := (dd_mem (x :: xs) x).mpr (.head _)
          exact List.length_pos_of_mem this) (by rw [nrm_congr (dd_mem xs)]; exact hR)
--CUT
theorem sim_and {a t : Addr} {t1 t2 : Tok} {vs : List Value} {Ds : List Den} {n : Nat} (W : Wd w G s) (rm : Rm A (n + 1)) (hn : 88 ≤ n) (o : ObjAt G a 563 (grpL true t false t1 t2)) (ht : TupAt G t vs) (h2 : 2 ≤ vs.length) (hz : vs.length ≤ 40) (hDs : Ds.length = vs.length) (hgd : ∀ D ∈ Ds, DGood D)
   (hp : ∀ (i : Nat) v, vs[i]? = some v → ∃ b D, v = .ref b ∧ Ds[i]? = some D ∧ SimP w n G b true D)
   (hR : ∀ s' G' r, Wd w G' s' → Ps [] s G s' G' → IsB G' r true (nrm (Ds.flatMap atomsOf)) → R (.ok (.ret (.ref r))) s') : codeAny (MD w) A (.call (.ref 471) ⟨[.ref a], []⟩) R s := by
  refine R_enter [(Str.ofString "sort", .bool true), (Str.ofString "self", .ref a)] (k := n) (st := mthAt 15 2) (qual := "DualBase.simplify") (cl := []) (dV := .ref 466) (pm := .str "boolean.boolean" 194) (cdv := .ref 470) (ct := .none) (by kernel_rfl) (by k_is) W rm (BindsTo.of_defaults rfl (W.inn 466 (tupObj [.bool true]) (by kernel_rfl)) rfl rfl rfl) (by decide) (by rfl) rfl rfl rfl rfl fun L s1 C rm' => ?_
  repeat walk1
  show wpAny _ _ _ _ _ _
  refine R_compUsed (t := t) (vs := vs) (fun G i y => ∃ r D, y = .ref r ∧ Ds[i]? = some D ∧ IsRes G r true D) (fun G G' i y le ⟨r, D, h1, h2, h3⟩ => ⟨r, D, h1, h2, h3.mono le⟩) rm'.1 (by assumption) (by walk_at "m_at") (by omega) (by rfl) (by rfl) (by decide) (by rfl) (by decide) (by rfl) (by rfl) (by rfl) ?_ (fun sb i v G3 L' s3 mu' E' hv le C3 => ?_) (fun _ => rfl) ?_
  · intro Q' hQ'
    repeat walk1
    exact hQ' _ (by assumption)
  · obtain ⟨b, D, rfl, hD, hb⟩ := hp i v hv
    repeat walk1
    exact R_sim (by assumption) (rm'.le (by omega)) (hb.mono le) fun s4 G4 y le4 hy C4 => ⟨G4, le4, ⟨y, D, rfl, hD, hy⟩, C4.sub fun _ _ h => (nomatch h)⟩
  intro s3 G3 ys n3 la hl hpr le3 C3
  replace o := o.mono le3
  have hyl : ys.length ≤ 40 := by omega
  have hyd : ys.length = Ds.length := by omega
  have hy2 : 2 ≤ ys.length := by omega
  clear hp hl hz h2 hDs
  obtain ⟨y1, y2, yt, rfl⟩ := two_of hy2
  have hput : G3.le (G3.put la (lstObj (y1 :: y2 :: yt) n3)) := Km.put_le (C3.new la (by simp)).2.1
  replace C3 := C3.freeze (fun h => nomatch h)
  have hpr3 : ∀ (i : Nat) v, (y1 :: y2 :: yt)[i]? = some v → ∃ r D, v = Value.ref r ∧ Ds[i]? = some D ∧ IsRes (G3.put la (lstObj (y1 :: y2 :: yt) n3)) r true D := fun i v h => let ⟨r, D, e1, e2, e3⟩ := hpr i v h; ⟨r, D, e1, e2, e3.mono hput⟩
  have hex3 : ∀ v ∈ y1 :: y2 :: yt, IsEx (G3.put la (lstObj (y1 :: y2 :: yt) n3)) v := fun v hv => by
    obtain ⟨i, hi⟩ := List.mem_iff_getElem?.mp hv
    obtain ⟨r, D, rfl, _, h⟩ := hpr3 i v hi
    exact h.ex C3.wd
  replace o := o.mono hput
  show wpAny (MD w) _ _ _ _ _
  clear hpr hput hy2 le3 C
  repeat walk1
  refine wpAny_call (and_made (Cx.wd (by assumption)) (rm'.le (by omega)) ⟨"list", n3, .inl rfl, Km.put_self⟩ hex3 (by simp only [List.length_cons] at hyl; omega) fun s4 G4 r4 d4 tp4 u1 u2 N4 h4 => ?_)
  obtain ⟨G5, W5, P5, O5, le5⟩ := N4.freeze
  have C5 := Cx.after (by assumption) W5 P5
  replace h4 := h4.mono le5
  replace o := o.mono P5.le
  replace hpr3 : ∀ (i : Nat) v, (y1 :: y2 :: yt)[i]? = some v → ∃ b, v = Value.ref b ∧ IsEx G5 v ∧ LitP w 60 G5 b (fun G y => (∃ D, Ds[i]? = some D ∧ PB true D G y) ∧ IsEx G y) := fun i v h => by
    obtain ⟨r, D, rfl, e2, e3⟩ := hpr3 i v h
    replace e3 := e3.mono P5.le
    obtain ⟨Dc, x1, x2⟩ := litP_res W5 e3 ((hgd D (List.mem_iff_getElem?.mpr ⟨i, e2⟩)).ok)
    exact ⟨r, rfl, e3.ex W5, Dc, x1, fun A R s G' W le rm h => x2 A R s G' W le rm fun s' G'' y W' P' hy => h s' G'' y W' P' ⟨⟨D, e2, hy⟩, let ⟨r, e, hb⟩ := hy; e ▸ hb.ex W'⟩⟩
  clear hex3 N4 P5 W5 le5 C3
  repeat walk1
  refine wpAny_call (lz_and (n := 60) (P := fun i G y => (∃ D, Ds[i]? = some D ∧ PB true D G y) ∧ IsEx G y) (Cx.wd (by assumption)) (rm'.le (by omega)) O5 h4 (by simp only [List.length_cons] at hyl; omega) (fun G G' i y le ⟨⟨D, h1, h2⟩, h3⟩ => ⟨⟨D, h1, h2.mono le⟩, h3.mono le⟩) (fun i G y h => h.2) hpr3 fun s6 G6 r6 zs ca6 W6 P6 g6 hzl hzp => ?_)
  have C6 := Cx.after (by assumption) W6 P6
  have hzs : PBs G6 true zs Ds := PBs_of (by rw [hzl, ← hyd]; rfl) fun i y h => (hzp i y h).1
  replace o := o.mono P6.le
  clear hpr3 hzp O5 h4 C5 P6 W6
  have al := atoms_len8 hgd
  have hzl2 : 2 ≤ zs.length := by omega
  have hzl3 : zs.length ≤ 40 := by simp only [List.length_cons] at hyl; omega
  have hdl : Ds.length ≤ 40 := by omega
  have o6 := g6
  obtain ⟨tp6, u3, u4, o6, _⟩ := o6
  repeat walk1
  refine wpAny_call (flat_k (k := true) (Cx.wd (by assumption)) (rm'.le (by omega)) g6 hzs hzl2 (by omega) fun s7 G7 r7 d7 tp7 u5 u6 ws N7 h7 at7 => ?_)
  obtain ⟨G8, W8, P8, O8, le8⟩ := N7.freeze
  have C8 := Cx.after (by assumption) W8 P8
  replace h7 := h7.mono le8
  replace at7 := at7.mono le8
  replace o := o.mono P8.le
  clear o6 g6 hzs N7 P8 W8 le8 C6
  have hxok : AOk (Ds.flatMap atomsOf) := fun l h => by
    obtain ⟨D, hD, hl⟩ := List.mem_flatMap.mp h
    match D, hgd D hD, hl with
    | none, _, hl => simp [atomsOf] at hl
    | some [], _, hl => simp [atomsOf] at hl
    | some (l' :: ls), g, hl => exact (g _ rfl).1 l (lit_mem.mp hl)
  have hx1 : 1 ≤ (Ds.flatMap atomsOf).length := by
    have := flat_len Ds
    simp only [List.length_cons] at hyd
    omega
  have hx4 : (Ds.flatMap atomsOf).length ≤ 400 := by omega
  walk1
  exact simE_and (rm'.le (by omega)) (by assumption) (by with_unfolding_all exact rfl) (by with_unfolding_all exact rfl) (by with_unfolding_all exact rfl) o O8 h7 at7 hxok hx1 hx4 hR
--CUT
theorem sim_or {a t : Addr} {t1 t2 : Tok} {vs : List Value} {Ds : List Den} {n : Nat} (W : Wd w G s) (rm : Rm A (n + 1)) (hn : 88 ≤ n) (o : ObjAt G a 612 (grpL false t false t1 t2)) (ht : TupAt G t vs) (h2 : 2 ≤ vs.length) (hz : vs.length ≤ 40) (hDs : Ds.length = vs.length) (hgd : ∀ D ∈ Ds, DGood D)
   (hp : ∀ (i : Nat) v, vs[i]? = some v → ∃ b D, v = .ref b ∧ Ds[i]? = some D ∧ SimP w n G b false D)
   (hR : ∀ s' G' r, Wd w G' s' → Ps [] s G s' G' → IsB G' r false (nrm (Ds.flatMap atomsOf)) → R (.ok (.ret (.ref r))) s') : codeAny (MD w) A (.call (.ref 471) ⟨[.ref a], []⟩) R s := by
  refine R_enter [(Str.ofString "sort", .bool true), (Str.ofString "self", .ref a)] (k := n) (st := mthAt 15 2) (qual := "DualBase.simplify") (cl := []) (dV := .ref 466) (pm := .str "boolean.boolean" 194) (cdv := .ref 470) (ct := .none) (by kernel_rfl) (by k_is) W rm (BindsTo.of_defaults rfl (W.inn 466 (tupObj [.bool true]) (by kernel_rfl)) rfl rfl rfl) (by decide) (by rfl) rfl rfl rfl rfl fun L s1 C rm' => ?_
  repeat walk1
  show wpAny _ _ _ _ _ _
  refine R_compUsed (t := t) (vs := vs) (fun G i y => ∃ r D, y = .ref r ∧ Ds[i]? = some D ∧ IsRes G r false D) (fun G G' i y le ⟨r, D, h1, h2, h3⟩ => ⟨r, D, h1, h2, h3.mono le⟩) rm'.1 (by assumption) (by walk_at "m_at") (by omega) (by rfl) (by rfl) (by decide) (by rfl) (by decide) (by rfl) (by rfl) (by rfl) ?_ (fun sb i v G3 L' s3 mu' E' hv le C3 => ?_) (fun _ => rfl) ?_
  · intro Q' hQ'
    repeat walk1
    exact hQ' _ (by assumption)
  · obtain ⟨b, D, rfl, hD, hb⟩ := hp i v hv
    repeat walk1
    exact R_sim (by assumption) (rm'.le (by omega)) (hb.mono le) fun s4 G4 y le4 hy C4 => ⟨G4, le4, ⟨y, D, rfl, hD, hy⟩, C4.sub fun _ _ h => (nomatch h)⟩
  intro s3 G3 ys n3 la hl hpr le3 C3
  replace o := o.mono le3
  have hyl : ys.length ≤ 40 := by omega
  have hyd : ys.length = Ds.length := by omega
  have hy2 : 2 ≤ ys.length := by omega
  clear hp hl hz h2 hDs
  obtain ⟨y1, y2, yt, rfl⟩ := two_of hy2
  have hput : G3.le (G3.put la (lstObj (y1 :: y2 :: yt) n3)) := Km.put_le (C3.new la (by simp)).2.1
  replace C3 := C3.freeze (fun h => nomatch h)
  have hpr3 : ∀ (i : Nat) v, (y1 :: y2 :: yt)[i]? = some v → ∃ r D, v = Value.ref r ∧ Ds[i]? = some D ∧ IsRes (G3.put la (lstObj (y1 :: y2 :: yt) n3)) r false D := fun i v h => let ⟨r, D, e1, e2, e3⟩ := hpr i v h; ⟨r, D, e1, e2, e3.mono hput⟩
  have hex3 : ∀ v ∈ y1 :: y2 :: yt, IsEx (G3.put la (lstObj (y1 :: y2 :: yt) n3)) v := fun v hv => by
    obtain ⟨i, hi⟩ := List.mem_iff_getElem?.mp hv
    obtain ⟨r, D, rfl, _, h⟩ := hpr3 i v hi
    exact h.ex C3.wd
  replace o := o.mono hput
  show wpAny (MD w) _ _ _ _ _
  clear hpr hput hy2 le3 C
  repeat walk1
  refine wpAny_call (or_made (Cx.wd (by assumption)) (rm'.le (by omega)) ⟨"list", n3, .inl rfl, Km.put_self⟩ hex3 (by simp only [List.length_cons] at hyl; omega) fun s4 G4 r4 d4 tp4 u1 u2 N4 h4 => ?_)
  obtain ⟨G5, W5, P5, O5, le5⟩ := N4.freeze
  have C5 := Cx.after (by assumption) W5 P5
  replace h4 := h4.mono le5
  replace o := o.mono P5.le
  replace hpr3 : ∀ (i : Nat) v, (y1 :: y2 :: yt)[i]? = some v → ∃ b, v = Value.ref b ∧ IsEx G5 v ∧ LitP w 60 G5 b (fun G y => (∃ D, Ds[i]? = some D ∧ PB false D G y) ∧ IsEx G y) := fun i v h => by
    obtain ⟨r, D, rfl, e2, e3⟩ := hpr3 i v h
    replace e3 := e3.mono P5.le
    obtain ⟨Dc, x1, x2⟩ := litP_res W5 e3 ((hgd D (List.mem_iff_getElem?.mpr ⟨i, e2⟩)).ok)
    exact ⟨r, rfl, e3.ex W5, Dc, x1, fun A R s G' W le rm h => x2 A R s G' W le rm fun s' G'' y W' P' hy => h s' G'' y W' P' ⟨⟨D, e2, hy⟩, let ⟨r, e, hb⟩ := hy; e ▸ hb.ex W'⟩⟩
  clear hex3 N4 P5 W5 le5 C3
  repeat walk1
  refine wpAny_call (lz_or (n := 60) (P := fun i G y => (∃ D, Ds[i]? = some D ∧ PB false D G y) ∧ IsEx G y) (Cx.wd (by assumption)) (rm'.le (by omega)) O5 h4 (by simp only [List.length_cons] at hyl; omega) (fun G G' i y le ⟨⟨D, h1, h2⟩, h3⟩ => ⟨⟨D, h1, h2.mono le⟩, h3.mono le⟩) (fun i G y h => h.2) hpr3 fun s6 G6 r6 zs ca6 W6 P6 g6 hzl hzp => ?_)
  have C6 := Cx.after (by assumption) W6 P6
  have hzs : PBs G6 false zs Ds := PBs_of (by rw [hzl, ← hyd]; rfl) fun i y h => (hzp i y h).1
  replace o := o.mono P6.le
  clear hpr3 hzp O5 h4 C5 P6 W6
  have al := atoms_len8 hgd
  have hzl2 : 2 ≤ zs.length := by omega
  have hzl3 : zs.length ≤ 40 := by simp only [List.length_cons] at hyl; omega
  have hdl : Ds.length ≤ 40 := by omega
  have o6 := g6
  obtain ⟨tp6, u3, u4, o6, _⟩ := o6
  repeat walk1
  refine wpAny_call (flat_k (k := false) (Cx.wd (by assumption)) (rm'.le (by omega)) g6 hzs hzl2 (by omega) fun s7 G7 r7 d7 tp7 u5 u6 ws N7 h7 at7 => ?_)
  obtain ⟨G8, W8, P8, O8, le8⟩ := N7.freeze
  have C8 := Cx.after (by assumption) W8 P8
  replace h7 := h7.mono le8
  replace at7 := at7.mono le8
  replace o := o.mono P8.le
  clear o6 g6 hzs N7 P8 W8 le8 C6
  have hxok : AOk (Ds.flatMap atomsOf) := fun l h => by
    obtain ⟨D, hD, hl⟩ := List.mem_flatMap.mp h
    match D, hgd D hD, hl with
    | none, _, hl => simp [atomsOf] at hl
    | some [], _, hl => simp [atomsOf] at hl
    | some (l' :: ls), g, hl => exact (g _ rfl).1 l (lit_mem.mp hl)
  have hx1 : 1 ≤ (Ds.flatMap atomsOf).length := by
    have := flat_len Ds
    simp only [List.length_cons] at hyd
    omega
  have hx4 : (Ds.flatMap atomsOf).length ≤ 400 := by omega
  walk1
  exact simE_or (rm'.le (by omega)) (by assumption) (by with_unfolding_all exact rfl) (by with_unfolding_all exact rfl) (by with_unfolding_all exact rfl) o O8 h7 at7 hxok hx1 hx4 hR
--CUT
theorem sim_grp {k : Bool} {a : Addr} {vs : List Value} {Ds : List Den} {n : Nat} (W : Wd w G s) (rm : Rm A (n + 1)) (hn : 88 ≤ n) (ha : GrpAt G a k vs false) (h2 : 2 ≤ vs.length) (hz : vs.length ≤ 40) (hDs : Ds.length = vs.length) (hgd : ∀ D ∈ Ds, DGood D)
   (hp : ∀ (i : Nat) v, vs[i]? = some v → ∃ b D, v = .ref b ∧ Ds[i]? = some D ∧ SimP w n G b k D)
   (hR : ∀ s' G' r, Wd w G' s' → Ps [] s G s' G' → IsB G' r k (nrm (Ds.flatMap atomsOf)) → R (.ok (.ret (.ref r))) s') : codeAny (MD w) A (.call (.ref 471) ⟨[.ref a], []⟩) R s := by
  obtain ⟨tp, t1, t2, o, ht⟩ := ha
  cases k with
  | true => exact sim_and W rm hn o ht h2 hz hDs hgd hp hR
  | false => exact sim_or W rm hn o ht h2 hz hDs hgd hp hR
end
-- part C25
section
variable {X : List Addr} {w : World} {s₀ s s' : Shared} {G₀ G G' : Km} {L : Addr} {m : List (Str × Value)} {mu : List (Addr × Obj)} {A : Around} {E : Value → Shared → Prop} {R : Result → Shared → Prop}
theorem leaf_sim {a : Addr} (W : Wd w G s) (rm : Rm A 1) (hR : ∀ s', Wd w G s' → Ps [] s G s' G → R (.ok (.ret (.ref a))) s') : codeAny (MD w) A (.call (.ref 83) ⟨[.ref a], []⟩) R s := by
  refine R_enter [(Str.ofString "self", .ref a)] (k := 0) (st := mthAt 6 6) (qual := "Expression.simplify") (cl := []) (dV := .none) (pm := .str "boolean.boolean" 194) (cdv := .ref 82) (ct := .none) (by kernel_rfl) (by k_is) W rm (BindsTo.of_eq rfl) (by decide) (by rfl) rfl rfl rfl rfl fun L s1 C rm' => ?_
  repeat walk1
  exact hR _ (W.weaken (Cx.wd (by assumption)) (Ps.le (Cx.ps (by assumption)))) (Ps.weaken (Cx.ps (by assumption)))
theorem simQ_sym {a : Addr} {nm : Str} {P : Km → Addr → Prop} (h : SymAt G a nm) (hP : ∀ G', SymAt G' a nm → P G' a) : SimQ w 88 G a P :=
  ⟨344, h.exAt, fun A R s G' W le rm hR => leaf_sim W (rm.le (by decide)) fun s' W' P' => hR s' G' a W' P' (hP _ (h.mono le))⟩
theorem simQ_cst {b : Bool} {P : Km → Addr → Prop} (W : Wd w G s) (hP : ∀ G', P G' (cA b)) : SimQ w 88 G (cA b) P := by
  refine ⟨cD b, cst_exAt W b, fun A R s G' W le rm hR => ?_⟩
  have e : simFn (cD b) = 83 := by cases b <;> rfl
  rw [e]
  exact leaf_sim W (rm.le (by decide)) fun s' W' P' => hR s' G' _ W' P' (hP _)
-- an even row of NOTs
theorem not_even {n k : Nat} {a a1 b Db : Addr} {lb : List (Str × Value)} {P : Km → Addr → Prop} (W : Wd w G s) (rm : Rm A (n + 1)) (hn : 88 ≤ n) (h1 : NotOf G a a1 false) (hch : NotCh G (k + 1) a b) (hk : (k + 1) % 2 = 0) (hb : ObjAt G b Db lb) (hD : Db ∈ exCls) (hi : isiTab Db 440 = false) (hs : SimQ w n G b P)
    (hR : ∀ s' G' r, Wd w G' s' → Ps [] s G s' G' → P G' r → R (.ok (.ret (.ref r))) s') : codeAny (MD w) A (.call (.ref 411) ⟨[.ref a], []⟩) R s := by
  obtain ⟨Da, la, tp, u1, x1, _, oa, _⟩ := id h1
  clear x1
  refine R_enter [(Str.ofString "self", .ref a)] (k := n) (st := mthAt 14 3) (qual := "NOT.simplify") (cl := []) (dV := .none) (pm := .str "boolean.boolean" 194) (cdv := .ref 410) (ct := .none) (by kernel_rfl) (by k_is) W rm (BindsTo.of_eq rfl) (by decide) (by rfl) rfl rfl rfl rfl fun L s1 C rm' => ?_
  repeat walk1
  refine R_cancel (n := k) (by assumption) (rm'.le (by omega)) hch hb hD hi fun s2 r hr C2 => ?_
  rw [hk] at hr
  cases hr
  repeat walk1
  refine R_isiF (by assumption) (ObjAt.here (Cx.wd (by assumption)) hb) hD (by decide) hi fun s3 C3 => ?_
  clear hb
  repeat walk1
  exact R_sim C3 rm' hs fun s4 G4 y le4 hy C4 => hR _ _ _ C4.wd C4.ps hy
theorem eqP_cc (c b : Bool) (W : Wd w G s) : EqP w 7 G (cA c) (cA b) (c == b) := fun A E s G' Q W' le rm hQ => by
  have same : ∀ c : Bool, (∀ s', Wd w G' s' → Ps [] s G' s' G' → Q (.bool true) s') → wpAny (MD w) A (richCompare .Eq (.ref (cA c)) (.ref (cA c))) Q E s := fun c hQ => by
    obtain ⟨lc, hc⟩ := cst_at W' c
    refine cmpEq W' rm.units hc hc (cst_ex c) (cst_ex c) ?_
    cases c with
    | true => exact true_self W' (rm.le (by decide)) fun s' G2 W2 P2 => ⟨_, rfl, .inl ⟨nofun, hQ s' (W'.weaken W2 P2.le) P2.weaken⟩⟩
    | false => exact false_self W' (rm.le (by decide)) fun s' G2 W2 P2 => ⟨_, rfl, .inl ⟨nofun, hQ s' (W'.weaken W2 P2.le) P2.weaken⟩⟩
  cases c <;> cases b
  · exact same false hQ
  · exact (cst_cst false W').1 A E s G' Q W' (Km.le.refl _) rm hQ
  · exact (cst_cst true W').1 A E s G' Q W' (Km.le.refl _) rm hQ
  · exact same true hQ
theorem R_eqP {n : Nat} {a b : Addr} {r : Bool} {Q : Value → Shared → Prop} (C : Cx X w s₀ G₀ G L m mu s) (rm : Rm A n) (e : EqP w n G a b r) (h : ∀ s', Cx X w s₀ G₀ G L m mu s' → Q (.bool r) s') : wpAny (MD w) A (compareOp .Eq (.ref a) (.ref b)) Q E s :=
  e A E s G Q C.wd (Km.le.refl _) rm fun s' W' P' => h s' (C.after W' P')
-- an odd row above a constant
theorem not_cst {k : Nat} {a a1 : Addr} {c : Bool} (W : Wd w G s) (rm : Rm A 20) (h1 : NotOf G a a1 false) (hch : NotCh G (k + 1) a (cA c)) (hk : (k + 1) % 2 = 1)
    (hR : ∀ s', Wd w G s' → Ps [] s G s' G → R (.ok (.ret (.ref (cA (!c))))) s') : codeAny (MD w) A (.call (.ref 411) ⟨[.ref a], []⟩) R s := by
  obtain ⟨Da, la, tp, u1, x1, _, oa, _⟩ := id h1
  clear x1
  obtain ⟨lc, oc⟩ := cst_at W c
  have hi : isiTab (cD c) 440 = false := by cases c <;> decide
  refine R_enter [(Str.ofString "self", .ref a)] (k := 19) (st := mthAt 14 3) (qual := "NOT.simplify") (cl := []) (dV := .none) (pm := .str "boolean.boolean" 194) (cdv := .ref 410) (ct := .none) (by kernel_rfl) (by k_is) W rm (BindsTo.of_eq rfl) (by decide) (by rfl) rfl rfl rfl rfl fun L s1 C rm' => ?_
  repeat walk1
  refine R_cancel (n := k) (by assumption) (rm'.le (by omega)) hch oc (cst_ex c) hi fun s2 r hr C2 => ?_
  rw [hk] at hr
  obtain ⟨a', ca', hr, e⟩ := hr
  cases e
  obtain ⟨Db, lb', tr, v1, j1, j2, j3, j4⟩ := id hr
  clear j1 oc
  repeat walk1
  refine R_eqP (n := 7) (b := 284) (by assumption) (rm'.le (by omega)) (eqP_cc c true W) fun s3 C3 => ?_
  cases c with
  | true =>
    repeat walk1
    refine R_dual (b := true) (by assumption) (rm'.le (by omega)) fun s4 C4 => ?_
    repeat walk1
    exact hR _ (W.weaken (Cx.wd (by assumption)) (Ps.le (Cx.ps (by assumption)))) (Ps.weaken (Cx.ps (by assumption)))
  | false =>
    repeat walk1
    refine R_eqP (n := 7) (b := 288) (by assumption) (rm'.le (by omega)) (eqP_cc false false W) fun s5 C5 => ?_
    repeat walk1
    refine R_dual (b := false) (by assumption) (rm'.le (by omega)) fun s4 C4 => ?_
    repeat walk1
    exact hR _ (W.weaken (Cx.wd (by assumption)) (Ps.le (Cx.ps (by assumption)))) (Ps.weaken (Cx.ps (by assumption)))
-- an odd row above a symbol or a group
theorem not_odd {n k : Nat} {a a1 b Db : Addr} {lb : List (Str × Value)} {P : Km → Addr → Prop} (W : Wd w G s) (rm : Rm A (n + 1)) (hn : 88 ≤ n) (h1 : NotOf G a a1 false) (hch : NotCh G (k + 1) a b) (hk : (k + 1) % 2 = 1) (hb : ObjAt G b Db lb) (hD : Db = 344 ∨ Db = 563 ∨ Db = 612) (hs : SimQ w n G b P)
    (hex : ∀ G s r, Wd w G s → P G r → IsEx G (.ref r)) (hPm : ∀ G G' r, G.le G' → P G r → P G' r)
    (hR : ∀ s' G' r x, Wd w G' s' → Ps [] s G s' G' → NotOf G' r x true → P G' x → R (.ok (.ret (.ref r))) s') : codeAny (MD w) A (.call (.ref 411) ⟨[.ref a], []⟩) R s := by
  obtain ⟨Da, la, tp, u1, x1, _, oa, _⟩ := id h1
  clear x1
  have hDe : Db ∈ exCls := by rcases hD with rfl | rfl | rfl <;> decide
  have hi : isiTab Db 440 = false := by rcases hD with rfl | rfl | rfl <;> decide
  have hc : ∀ c : Bool, EqP w 7 G b (cA c) false := fun c => by
    obtain ⟨lc, oc⟩ := cst_at W c
    have hne : b ≠ cA c := fun e => by
      subst e
      have := ObjAt.same hb oc
      rcases hD with rfl | rfl | rfl <;> cases c <;> simp [cD] at this
    rcases hD with rfl | rfl | rfl
    · exact (eqP_toCst hb (by decide) hne (by cases c <;> decide) (by cases c <;> decide) (by decide) (.inr rfl)).up (by decide)
    · exact (eqP_toCst hb (by decide) hne (by cases c <;> decide) (by cases c <;> decide) (by decide) (.inl (by decide))).up (by decide)
    · exact (eqP_toCst hb (by decide) hne (by cases c <;> decide) (by cases c <;> decide) (by decide) (.inl (by decide))).up (by decide)
  refine R_enter [(Str.ofString "self", .ref a)] (k := n) (st := mthAt 14 3) (qual := "NOT.simplify") (cl := []) (dV := .none) (pm := .str "boolean.boolean" 194) (cdv := .ref 410) (ct := .none) (by kernel_rfl) (by k_is) W rm (BindsTo.of_eq rfl) (by decide) (by rfl) rfl rfl rfl rfl fun L s1 C rm' => ?_
  repeat walk1
  refine R_cancel (n := k) (by assumption) (rm'.le (by omega)) hch hb hDe hi fun s2 r hr C2 => ?_
  rw [hk] at hr
  obtain ⟨a', ca', hr, e⟩ := hr
  cases e
  obtain ⟨Dc, lb', tr, v1, j1, j2, j3, j4⟩ := id hr
  clear j1 hb
  repeat walk1
  refine R_eqP (n := 7) (b := 284) (by assumption) (rm'.le (by omega)) (hc true) fun s3 C3 => ?_
  repeat walk1
  refine R_eqP (n := 7) (b := 288) (by assumption) (rm'.le (by omega)) (hc false) fun s3 C3 => ?_
  repeat walk1
  refine R_sim (by assumption) rm' hs fun s4 G4 y le4 hy C4 => ?_
  obtain ⟨y', Dy, ly, e, oy, hDy⟩ := hex _ _ _ C4.wd hy
  cases e
  clear j3 j4 oa
  repeat walk1
  refine wpAny_call (mk_not (Cx.wd (by assumption)) (rm'.le (by omega)) oy hDy fun s5 G5 x d tp5 t5 N5 h5 => ?_)
  obtain ⟨es5, n5, F5, he5⟩ := N5.fresh
  have C5 : Cx [] w s G G5 _ _ [(d, dictOf es5 n5)] s5 := Cx.adopt (by assumption) N5.wd N5.ps F5
  have hx5 := N5.at_
  replace oy := oy.mono N5.ps.le
  replace hy := hPm _ _ _ N5.ps.le hy
  have hcl : isCls 440 := by unfold isCls; decide
  clear N5 F5 C4
  repeat walk1
  have hput : ∀ ob, G5.le (G5.put d ob) := fun ob => Km.put_le ((C5.new d (by simp)).2.1)
  have fin : ∀ {s9 : Shared} {m9 : List (Str × Value)} {es9 : List DictEntry} {n9 : Nat}, EsAre es9 (putA (Str.ofString "iscanonical") (.bool true) (notL tp5 (isiTab Dy 344) false t5)) → Cx [] w s G G5 L m9 [(d, dictOf es9 n9)] s9 → R (.ok (.ret (.ref x))) s9 := fun {s9 m9 es9 n9} he C =>
    hR _ _ _ y (C.freeze (by simp)).wd (C.freeze (by simp)).ps ⟨Dy, ly, tp5, t5, oy.mono (hput _), hDy, ⟨d, _, _, hput _ _ _ hx5, Km.put_self, EsAre.norm he (by with_unfolding_all rfl)⟩, h5.mono (hput _)⟩ (hPm _ _ _ (hput _) hy)
  exact fin (by assumption) (by assumption)
end
-- part C26
-- the trees that the law builds
inductive Tr where
  | sym (n : Str)
  | cst (b : Bool)
  | not (t : Tr)
  | grp (ts : List Tr)
mutual
def den (k : Bool) : Tr → Den
  | .sym n => some [(n, false)]
  | .cst b => if b = k then some [] else none
  | .not t => flipD (den (!k) t)
  | .grp ts => nrm (dens k ts)
def dens (k : Bool) : List Tr → List Atm
  | [] => []
  | t :: ts => atomsOf (den k t) ++ dens k ts
end
mutual
def TrAt (G : Km) (k : Bool) : Tr → Addr → Prop
  | .sym n, a => SymAt G a n
  | .cst b, a => a = cA b
  | .not t, a => ∃ x, NotOf G a x false ∧ TrAt G (!k) t x
  | .grp ts, a => ∃ vs, GrpAt G a k vs false ∧ TrsAt G k ts vs
def TrsAt (G : Km) (k : Bool) : List Tr → List Value → Prop
  | [], vs => vs = []
  | t :: ts, vs => ∃ a us, vs = .ref a :: us ∧ TrAt G k t a ∧ TrsAt G k ts us
end
mutual
def Tr.ok : Tr → Prop
  | .sym n => n ∈ nmL
  | .cst _ => True
  | .not t => t.ok
  | .grp ts => 2 ≤ ts.length ∧ ts.length ≤ 40 ∧ oks ts
def oks : List Tr → Prop
  | [] => True
  | t :: ts => t.ok ∧ oks ts
end
mutual
def Tr.dep : Tr → Nat
  | .sym _ => 1
  | .cst _ => 1
  | .not t => t.dep + 1
  | .grp ts => deps ts + 1
def deps : List Tr → Nat
  | [] => 0
  | t :: ts => max t.dep (deps ts)
end
theorem oks_mem : ∀ {ts : List Tr}, oks ts → ∀ t ∈ ts, t.ok
  | t :: ts, h, u, hu => by
    unfold oks at h
    rcases List.mem_cons.mp hu with rfl | hu
    · exact h.1
    · exact oks_mem h.2 u hu
theorem deps_mem : ∀ {ts : List Tr} {t : Tr}, t ∈ ts → t.dep ≤ deps ts
  | t :: ts, u, hu => by
    unfold deps
    rcases List.mem_cons.mp hu with rfl | hu
    · exact Nat.le_max_left ..
    · exact Nat.le_trans (deps_mem hu) (Nat.le_max_right ..)
theorem dens_eq {k : Bool} : ∀ (ts : List Tr), dens k ts = (ts.map (den k)).flatMap atomsOf
  | [] => by unfold dens; rfl
  | t :: ts => by unfold dens; rw [dens_eq ts]; rfl
-- a row of NOTs above a tree of another kind
def notN : Nat → Tr → Tr
  | 0, t => t
  | n + 1, t => .not (notN n t)
def Tr.bare : Tr → Prop
  | .not _ => False
  | _ => True
theorem Tr.split : ∀ t : Tr, ∃ n b, t = notN n b ∧ b.bare
  | .sym n => ⟨0, .sym n, rfl, trivial⟩
  | .cst b => ⟨0, .cst b, rfl, trivial⟩
  | .grp ts => ⟨0, .grp ts, rfl, trivial⟩
  | .not t => let ⟨n, b, e, h⟩ := Tr.split t; ⟨n + 1, b, by rw [e]; rfl, h⟩
def par (n : Nat) (k : Bool) : Bool := if n % 2 = 0 then k else !k
theorem par_succ (n : Nat) (k : Bool) : par (n + 1) k = par n (!k) := by
  rcases Nat.mod_two_eq_zero_or_one n with h | h
  · have h2 : (n + 1) % 2 = 1 := by omega
    simp [par, h, h2]
  · have h2 : (n + 1) % 2 = 0 := by omega
    simp [par, h, h2]
theorem den_not {k : Bool} {t : Tr} : den k (.not t) = flipD (den (!k) t) := by rw [den]
theorem flipD_flipD (D : Den) : flipD (flipD D) = D := by
  cases D with
  | none => rfl
  | some ls => simp [flipD, List.map_map, Function.comp_def, flip_flip]
theorem den_notN (b : Tr) : ∀ (n : Nat) (k : Bool), den k (notN n b) = if n % 2 = 0 then den (par n k) b else flipD (den (par n k) b)
  | 0, k => by unfold par; rfl
  | n + 1, k => by
    show den k (.not (notN n b)) = _
    rw [par_succ, den_not, den_notN b n (!k)]
    rcases Nat.mod_two_eq_zero_or_one n with h | h
    · have h2 : (n + 1) % 2 = 1 := by omega
      simp [h, h2]
    · have h2 : (n + 1) % 2 = 0 := by omega
      simp [h, h2, flipD_flipD]
theorem ok_notN {b : Tr} : ∀ {n : Nat}, (notN n b).ok → b.ok
  | 0, h => h
  | n + 1, h => ok_notN (n := n) (by unfold notN Tr.ok at h; exact h)
theorem dep_notN {b : Tr} : ∀ {n : Nat}, (notN n b).dep = b.dep + n
  | 0 => rfl
  | n + 1 => by
    show (Tr.not (notN n b)).dep = _
    have : (Tr.not (notN n b)).dep = (notN n b).dep + 1 := by rw [Tr.dep]
    rw [this, dep_notN (n := n)]; omega
theorem size_notN {b : Tr} : ∀ {n : Nat}, sizeOf b ≤ sizeOf (notN n b)
  | 0 => Nat.le_refl _
  | n + 1 => by
    have := size_notN (b := b) (n := n)
    show sizeOf b ≤ sizeOf (Tr.not (notN n b))
    simp only [Tr.not.sizeOf_spec]; omega
section
variable {w : World} {s s' : Shared} {G G' : Km}
mutual
theorem TrAt.mono {k : Bool} (h : G.le G') : ∀ {t : Tr} {a : Addr}, TrAt G k t a → TrAt G' k t a
  | .sym n, a, x => by unfold TrAt at x ⊢; exact x.mono h
  | .cst b, a, x => by unfold TrAt at x ⊢; exact x
  | .not t, a, x => by
    unfold TrAt at x ⊢
    obtain ⟨y, h1, h2⟩ := x
    exact ⟨y, h1.mono h, TrAt.mono h h2⟩
  | .grp ts, a, x => by
    unfold TrAt at x ⊢
    obtain ⟨vs, h1, h2⟩ := x
    exact ⟨vs, h1.mono h, TrsAt.mono h h2⟩
theorem TrsAt.mono {k : Bool} (h : G.le G') : ∀ {ts : List Tr} {vs : List Value}, TrsAt G k ts vs → TrsAt G' k ts vs
  | [], vs, x => by unfold TrsAt at x ⊢; exact x
  | t :: ts, vs, x => by
    unfold TrsAt at x ⊢
    obtain ⟨a, us, e, h1, h2⟩ := x
    exact ⟨a, us, e, TrAt.mono h h1, TrsAt.mono h h2⟩
end
theorem TrsAt.len {k : Bool} : ∀ {ts : List Tr} {vs : List Value}, TrsAt G k ts vs → vs.length = ts.length
  | [], vs, x => by unfold TrsAt at x; rw [x]; rfl
  | t :: ts, vs, x => by
    unfold TrsAt at x
    obtain ⟨a, us, e, h1, h2⟩ := x
    rw [e, List.length_cons, List.length_cons, h2.len]
theorem TrsAt.get {k : Bool} : ∀ {ts : List Tr} {vs : List Value}, TrsAt G k ts vs → ∀ {i : Nat} {v : Value}, vs[i]? = some v → ∃ a t, v = .ref a ∧ ts[i]? = some t ∧ TrAt G k t a
  | [], vs, x, i, v, h => by unfold TrsAt at x; rw [x] at h; simp at h
  | t :: ts, vs, x, i, v, h => by
    unfold TrsAt at x
    obtain ⟨a, us, e, h1, h2⟩ := x
    subst e
    cases i with
    | zero => cases h; exact ⟨a, t, rfl, rfl, h1⟩
    | succ i => exact h2.get h
theorem TrAt.chain {b : Tr} : ∀ {n : Nat} {k : Bool} {a : Addr}, TrAt G k (notN n b) a → ∃ x, NotCh G n a x ∧ TrAt G (par n k) b x
  | 0, k, a, h => ⟨a, rfl, by unfold par; exact h⟩
  | n + 1, k, a, h => by
    have h : TrAt G k (.not (notN n b)) a := h
    unfold TrAt at h
    obtain ⟨y, h1, h2⟩ := h
    obtain ⟨x, h3, h4⟩ := TrAt.chain (n := n) h2
    rw [par_succ]
    exact ⟨x, ⟨y, false, h1, h3⟩, h4⟩
-- the rows that come out hold few literals of the four names
theorem nrm_good {xs : List Atm} : DGood (nrm xs) := fun ls e => by
  unfold nrm at e
  split at e
  · cases e
  · cases e
    refine ⟨fun l hl => nm_of_allL (List.mem_filter.mp hl).1, ?_⟩
    exact Nat.le_trans (List.length_filter_le ..) (by decide)
theorem flip_good {D : Den} (h : DGood D) : DGood (flipD D) := fun ls e => by
  cases D with
  | none => cases e
  | some ms =>
    cases e
    obtain ⟨h1, h2⟩ := h _ rfl
    refine ⟨fun l hl => ?_, by rw [List.length_map]; exact h2⟩
    obtain ⟨m, hm, rfl⟩ := List.mem_map.mp hl
    exact h1 m hm
theorem den_good : ∀ {t : Tr} {k : Bool}, t.ok → DGood (den k t)
  | .sym n, k, h => fun ls e => by
    unfold den at e
    unfold Tr.ok at h
    cases e
    exact ⟨fun l hl => by rw [List.mem_singleton.mp hl]; exact h, by simp⟩
  | .cst b, k, h => fun ls e => by
    unfold den at e
    split at e
    · cases e; exact ⟨fun l hl => (nomatch hl), by simp⟩
    · cases e
  | .not t, k, h => by
    unfold den
    unfold Tr.ok at h
    exact flip_good (den_good h)
  | .grp ts, k, h => by unfold den; exact nrm_good
-- simplify keeps the meaning
theorem sim_all : ∀ (z : Nat) (t : Tr) (k : Bool) (a : Addr) (G : Km) (s : Shared), sizeOf t < z → t.ok → Wd w G s → TrAt G k t a → SimP w (88 + t.dep) G a k (den k t) := by
  intro z
  induction z with
  | zero => intro t k a G s h; exact absurd h (Nat.not_lt_zero _)
  | succ z ih =>
    intro t k a G s hz hok W ht
    obtain ⟨n, b, rfl, hb⟩ := Tr.split t
    obtain ⟨x, hch, hx⟩ := ht.chain
    have hok' := ok_notN hok
    have hsz := size_notN (b := b) (n := n)
    -- the tree below the NOTs
    have base : SimB w (88 + b.dep) G x (par n k) (den (par n k) b) ∧ (∀ c, b = .cst c → x = cA c) ∧ ((∀ c, b ≠ .cst c) → ∃ D l, ObjAt G x D l ∧ (D = 344 ∨ D = 563 ∨ D = 612)) := by
      cases b with
      | sym nm =>
        unfold TrAt at hx
        refine ⟨(simQ_sym hx fun G' h => ?_).up (Nat.le_add_right ..), fun c e => (nomatch e), fun _ => ?_⟩
        · unfold den; exact h
        · obtain ⟨tp, t1, t2, o, _⟩ := hx
          exact ⟨_, _, o, .inl rfl⟩
      | cst c =>
        unfold TrAt at hx
        subst hx
        refine ⟨(simQ_cst W fun G' => ?_).up (Nat.le_add_right ..), fun c' e => by cases e; rfl, fun h => absurd rfl (h c)⟩
        unfold den
        split
        · rename_i e; exact congrArg cA e
        · rename_i e
          show cA c = cA (!(par n k))
          congr 1
          revert e; cases c <;> cases (par n k) <;> simp
      | not t => exact hb.elim
      | grp ts =>
        unfold TrAt at hx
        unfold Tr.ok at hok'
        obtain ⟨vs, hg, hts⟩ := hx
        have hl := hts.len
        refine ⟨⟨grpOf (par n k), hg.exAt, fun A R s2 G2 W2 le rm hR => ?_⟩, fun c e => (nomatch e), fun _ => ?_⟩
        · have e : simFn (grpOf (par n k)) = 471 := by cases (par n k) <;> rfl
          rw [e]
          have hd : (Tr.grp ts).dep = deps ts + 1 := by unfold Tr.dep; rfl
          rw [hd] at rm
          refine sim_grp (n := 88 + deps ts) (Ds := ts.map (den (par n k))) W2 rm (Nat.le_add_right ..) (hg.mono le) (by omega) (by omega) (by rw [List.length_map, hl]) (fun D hD => ?_) (fun i v hv => ?_) fun s' G' r W' P' hr => hR s' G' r W' P' ?_
          · obtain ⟨t, ht, rfl⟩ := List.mem_map.mp hD
            exact den_good (oks_mem hok'.2.2 t ht)
          · obtain ⟨c, t, rfl, hi, h⟩ := hts.get hv
            have hm : t ∈ ts := List.mem_iff_getElem?.mpr ⟨i, hi⟩
            have hs := List.sizeOf_lt_of_mem hm
            simp only [Tr.grp.sizeOf_spec] at hsz
            refine ⟨c, _, rfl, by rw [List.getElem?_map, hi]; rfl, (ih t (par n k) c G2 s2 (by omega) (oks_mem hok'.2.2 t hm) W2 (h.mono le)).up ?_⟩
            have := deps_mem hm
            omega
          · rw [← dens_eq] at hr
            unfold den
            exact hr
        · obtain ⟨tp, t1, t2, o, _⟩ := hg
          exact ⟨_, _, o, by cases (par n k) <;> simp [grpOf]⟩
    obtain ⟨hB, hc, ho⟩ := base
    cases n with
    | zero =>
      cases hch
      have e : par 0 k = k := rfl
      rw [e] at hB
      exact hB.imp fun G r h => .inl h
    | succ m =>
      obtain ⟨a1, ca, h1, hch1⟩ := id hch
      have ht2 : TrAt G k (.not (notN m b)) a := ht
      unfold TrAt at ht2
      obtain ⟨y, hy, _⟩ := ht2
      have hdep : (notN (m + 1) b).dep = b.dep + (m + 1) := dep_notN
      rw [hdep]
      refine ⟨440, hy.exAt, fun A R s2 G2 W2 le rm hR => ?_⟩
      show codeAny _ _ (.call (.ref 411) _) _ _
      rw [den_notN] at hR
      rcases Nat.mod_two_eq_zero_or_one (m + 1) with hp | hp
      · rw [if_pos hp] at hR
        have e : par (m + 1) k = k := by unfold par; rw [if_pos hp]
        rw [e] at hB hR
        have hob : ∃ D l, ObjAt G x D l ∧ D ∈ exCls ∧ isiTab D 440 = false := by
          by_cases q : ∃ c, b = .cst c
          · obtain ⟨c, rfl⟩ := q
            cases hc c rfl
            obtain ⟨l, o⟩ := cst_at W c
            exact ⟨_, l, o, cst_ex c, by cases c <;> decide⟩
          · obtain ⟨D, l, o, hD⟩ := ho fun c e => q ⟨c, e⟩
            exact ⟨D, l, o, by rcases hD with rfl | rfl | rfl <;> decide, by rcases hD with rfl | rfl | rfl <;> decide⟩
        obtain ⟨D, l, o, hD, hi⟩ := hob
        exact not_even (n := 88 + b.dep) W2 (rm.le (by omega)) (Nat.le_add_right ..) (hy.mono le) (hch.mono le) hp (o.mono le) hD hi (hB.mono le) fun s' G' r W' P' hr => hR s' G' r W' P' (.inl hr)
      · rw [if_neg (by omega)] at hR
        have e : par (m + 1) k = !k := by unfold par; rw [if_neg (by omega)]
        rw [e] at hB hR
        by_cases q : ∃ c, b = .cst c
        · obtain ⟨c, rfl⟩ := q
          cases hc c rfl
          refine not_cst W2 (rm.le (by omega)) (hy.mono le) (hch.mono le) hp fun s' W' P' => hR s' G2 _ W' P' (.inl ?_)
          unfold den
          split
          · rename_i e; subst e; show cA _ = cA _; rw [Bool.not_not]
          · rename_i e
            show cA (!c) = cA (!k)
            congr 2
            revert e; cases c <;> cases k <;> simp
        · obtain ⟨D, l, o, hD⟩ := ho fun c e => q ⟨c, e⟩
          exact not_odd (n := 88 + b.dep) W2 (rm.le (by omega)) (Nat.le_add_right ..) (hy.mono le) (hch.mono le) hp (o.mono le) hD (hB.mono le) (fun G s r W h => h.ex W) (fun G G' r le h => h.mono le) fun s' G' r x' W' P' hr hx' => hR s' G' r W' P' (.inr ⟨x', true, _, rfl, hr, hx'⟩)
end
-- part C27
def strFn (D : Addr) : Addr := if D = 344 then 341 else if D = 232 then 215 else if D = 280 then 263 else 369
theorem str_tab {P : Params} {D : Addr} (hD : D ∈ exCls) : (findIn (K0 P) (.ref D) "__str__" == some (some (.ref (strFn D))) && isFn (K0 P) (.ref (strFn D)) && findIn (K0 P) (.ref D) "__format__" == some (some (.builtin "object.__format__")) && (mroIn (K0 P) D (.type "object") == some true)) = true := by
  simp only [exCls, List.mem_cons, List.not_mem_nil, or_false] at hD
  rcases hD with rfl | rfl | rfl | rfl | rfl | rfl <;> kernel_rfl
section
variable {X : List Addr} {w : World} {s₀ s s' : Shared} {G₀ G G' : Km} {L : Addr} {m : List (Str × Value)} {mu : List (Addr × Obj)} {A : Around} {E : Value → Shared → Prop} {R : Result → Shared → Prop}
-- str(x) and {x} in an f-string
def StrP (w : World) (n : Nat) (G : Km) (a : Addr) (x : Str) : Prop := ∃ D l, ObjAt G a D l ∧ D ∈ exCls ∧ ∀ (A : Around) (R : Result → Shared → Prop) (s : Shared) (G' : Km), Wd w G' s → G.le G' → Rm A n →
  (∀ s' t, Wd w G' s' → Ps [] s G' s' G' → R (.ok (.ret (.str x t))) s') → codeAny (MD w) A (.call (.ref (strFn D)) ⟨[.ref a], []⟩) R s
theorem StrP.mono {n : Nat} {a : Addr} {x : Str} (h : G.le G') (y : StrP w n G a x) : StrP w n G' a x := let ⟨D, l, h1, h2, h3⟩ := y; ⟨D, l, h1.mono h, h2, fun A R s G2 W le => h3 A R s G2 W (h.trans le)⟩
theorem StrP.up {n n' : Nat} {a : Addr} {x : Str} (h : n ≤ n') (y : StrP w n G a x) : StrP w n' G a x := let ⟨D, l, h1, h2, h3⟩ := y; ⟨D, l, h1, h2, fun A R s G2 W le rm => h3 A R s G2 W le (rm.le h)⟩
theorem R_str_ {n : Nat} {a : Addr} {x : Str} {Q : Value → Shared → Prop} (C : Cx X w s₀ G₀ G L m mu s) (rm : Rm A (n + 1)) (hp : StrP w n G a x) (h : ∀ t s', Cx X w s₀ G₀ G L m mu s' → Q (.str x t) s') : wpAny (MD w) A (call (.type "str") [.ref a]) Q E s := by
  obtain ⟨D, l, o, hD, hc⟩ := hp
  have t := str_tab (P := w.params) hD
  simp only [Bool.and_eq_true, beq_iff_eq] at t
  obtain ⟨d, es, k, I, _⟩ := (o.here C.wd).inst
  have hu : A.in1.in1.units < cLine := by have := rm.2.2.1; show A.units + 1 + 1 < 9900; omega
  have rm2 : Rm A.in1.in1 n := ⟨rm.1, by have := rm.2.1; show A.depth + _ ≤ _; omega, by have := rm.2.2.1; show A.units + 1 + 1 + _ ≤ _; omega, rm.2.2.2⟩
  exact kso_call hu C.inn I t.1.1.1 t.1.1.2 (wpAny_call (hc _ _ s G C.wd (Km.le.refl G) rm2 fun s' u W' P' => h u s' (C.after W' P')))
theorem R_fmt {n : Nat} {a : Addr} {x : Str} {Q : Value → Shared → Prop} (C : Cx X w s₀ G₀ G L m mu s) (rm : Rm A (n + 1)) (hp : StrP w n G a x) (h : ∀ t s', Cx X w s₀ G₀ G L m mu s' → Q (.str x t) s') : wpAny (MD w) A (formatField (.ref a) Str.empty) Q E s := by
  obtain ⟨D, l, o, hD, hc⟩ := hp
  have t := str_tab (P := w.params) hD
  simp only [Bool.and_eq_true, beq_iff_eq] at t
  obtain ⟨d, es, k, I, _⟩ := (o.here C.wd).inst
  have hu : A.in1.units < cLine := by have := rm.2.2.1; show A.units + 1 < 9900; omega
  have rm2 : Rm A.in1 n := ⟨rm.1, by have := rm.2.1; show A.depth + _ ≤ _; omega, by have := rm.2.2.1; show A.units + 1 + _ ≤ _; omega, rm.2.2.2⟩
  have C1 := C.toks (s.toks + 1)
  exact kfo_fieldS hu C.inn I t.1.2 t.2 t.1.1.1 t.1.1.2 (wpAny_call (hc _ _ _ G C1.wd (Km.le.refl G) rm2 fun s' u W' P' => h u s' (C1.after W' P')))
theorem true_str (W : Wd w G s) (rm : Rm A 1) (hR : ∀ s' t, Wd w G s' → Ps [] s G s' G → R (.ok (.ret (.str (Str.ofString "1") t))) s') : codeAny (MD w) A (.call (.ref 215) ⟨[.ref 284], []⟩) R s := by
  refine R_enter [(Str.ofString "self", .ref 284)] (k := 0) (st := mthAt 8 2) (qual := "_TRUE.__str__") (cl := []) (dV := .none) (pm := .str "boolean.boolean" 194) (cdv := .ref 214) (ct := .none) (by kernel_rfl) (by k_is) W rm (BindsTo.of_eq rfl) (by decide) (by rfl) rfl rfl rfl rfl fun L s1 C rm' => ?_
  repeat walk1
  exact hR _ _ (W.weaken (Cx.wd (by assumption)) (Ps.le (Cx.ps (by assumption)))) (Ps.weaken (Cx.ps (by assumption)))
theorem false_str (W : Wd w G s) (rm : Rm A 1) (hR : ∀ s' t, Wd w G s' → Ps [] s G s' G → R (.ok (.ret (.str (Str.ofString "0") t))) s') : codeAny (MD w) A (.call (.ref 263) ⟨[.ref 288], []⟩) R s := by
  refine R_enter [(Str.ofString "self", .ref 288)] (k := 0) (st := mthAt 9 2) (qual := "_FALSE.__str__") (cl := []) (dV := .none) (pm := .str "boolean.boolean" 194) (cdv := .ref 262) (ct := .none) (by kernel_rfl) (by k_is) W rm (BindsTo.of_eq rfl) (by decide) (by rfl) rfl rfl rfl rfl fun L s1 C rm' => ?_
  repeat walk1
  exact hR _ _ (W.weaken (Cx.wd (by assumption)) (Ps.le (Cx.ps (by assumption)))) (Ps.weaken (Cx.ps (by assumption)))
theorem sym_str {a : Addr} {nm : Str} (W : Wd w G s) (rm : Rm A 1) (ha : SymAt G a nm) (hR : ∀ s' t, Wd w G s' → Ps [] s G s' G → R (.ok (.ret (.str nm t))) s') : codeAny (MD w) A (.call (.ref 341) ⟨[.ref a], []⟩) R s := by
  obtain ⟨tp, t1, t2, o, _⟩ := ha
  refine R_enter [(Str.ofString "self", .ref a)] (k := 0) (st := mthAt 12 5) (qual := "Symbol.__str__") (cl := []) (dV := .none) (pm := .str "boolean.boolean" 194) (cdv := .ref 340) (ct := .none) (by kernel_rfl) (by k_is) W rm (BindsTo.of_eq rfl) (by decide) (by rfl) rfl rfl rfl rfl fun L s1 C rm' => ?_
  repeat walk1
  exact hR _ _ (W.weaken (Cx.wd (by assumption)) (Ps.le (Cx.ps (by assumption)))) (Ps.weaken (Cx.ps (by assumption)))
theorem strP_sym {a : Addr} {nm : Str} (ha : SymAt G a nm) : StrP w 1 G a nm := by
  obtain ⟨tp, t1, t2, o, _⟩ := id ha
  exact ⟨344, _, o, by decide, fun A R s G' W le rm hR => sym_str W rm (ha.mono le) hR⟩
theorem not_str {a x : Addr} {ca : Bool} {nm : Str} (hn : nm ∈ nmL) (W : Wd w G s) (rm : Rm A 3) (ha : NotOf G a x ca) (hx : SymAt G x nm) (hR : ∀ s' t, Wd w G s' → Ps [] s G s' G → R (.ok (.ret (.str (Str.ofString "~" ++ nm) t))) s') : codeAny (MD w) A (.call (.ref 369) ⟨[.ref a], []⟩) R s := by
  obtain ⟨Da, la, tp, u1, x1, x2, oa, ht⟩ := id ha
  obtain ⟨_, _, _, ox, _⟩ := id hx
  cases ObjAt.same x1 ox
  clear x1 ox
  have e0 : isiTab 344 344 = true := by decide
  rw [e0] at oa
  refine R_enter [(Str.ofString "self", .ref a)] (k := 2) (st := mthAt 13 1) (qual := "Function.__str__") (cl := []) (dV := .none) (pm := .str "boolean.boolean" 194) (cdv := .ref 368) (ct := .none) (by kernel_rfl) (by k_is) W rm (BindsTo.of_eq rfl) (by decide) (by rfl) rfl rfl rfl rfl fun L s1 C rm' => ?_
  repeat walk1
  refine R_lenT (by assumption) (by walk_at "m_at") (by simp) fun u2 s2 C2 => ?_
  repeat walk1
  · refine R_fmt (n := 1) (by first | assumption | exact Cx.toks (by assumption) _) (rm'.le (by decide)) (strP_sym hx) fun t3 s3 C3 => ?_
    have hlen : (Str.empty ++ Str.ofString "~" ++ nm).length ≤ sizeLine := by rcases nm_cases hn with rfl | rfl | rfl | rfl <;> decide
    have he : Str.empty ++ Str.ofString "~" ++ nm = Str.ofString "~" ++ nm := by rcases nm_cases hn with rfl | rfl | rfl | rfl <;> decide +kernel
    refine ⟨hlen, joinParts_nilE (joinParts_nil ?_ hlen)⟩
    have C4 := C3.toks (s3.toks + 1)
    rw [he]
    exact hR _ _ (W.weaken C4.wd (Ps.le C4.ps)) (Ps.weaken C4.ps)
  · rename_i q
    exact absurd rfl q
def strL (l : Lit) : Str := if l.2 then Str.ofString "~" ++ l.1 else l.1
theorem strP_lit {a : Addr} {l : Lit} (h : LitAt G a l) (hn : l.1 ∈ nmL) : StrP w 3 G a (strL l) := by
  obtain ⟨nm, b⟩ := l
  cases b with
  | false => exact (strP_sym h).up (by decide)
  | true =>
    obtain ⟨x, ca, h1, h2⟩ := h
    obtain ⟨D, l, tp, t1, _, _, o, _⟩ := id h1
    exact ⟨440, _, o, by decide, fun A R s G' W le rm hR => not_str hn W rm (h1.mono le) (h2.mono le) hR⟩
theorem strP_cst {b : Bool} (W : Wd w G s) : StrP w 1 G (cA b) (Str.ofString (if b then "1" else "0")) := by
  cases b with
  | true => exact ⟨232, _, true_obj W, by decide, fun A R s G' W le rm hR => true_str W rm hR⟩
  | false => exact ⟨280, _, false_obj W, by decide, fun A R s G' W le rm hR => false_str W rm hR⟩
theorem LitAt.isLit {a : Addr} {l : Lit} (h : LitAt G a l) : ∃ D la, ObjAt G a D la ∧ (D = 344 ∨ D = 440) ∧ la.lookup (Str.ofString "isliteral") = some (.bool true) := by
  obtain ⟨nm, b⟩ := l
  cases b with
  | false => exact let ⟨tp, t1, t2, h1, _⟩ := h; ⟨344, _, h1, .inl rfl, by with_unfolding_all rfl⟩
  | true =>
    obtain ⟨x, ca, ⟨Db, lb, tp, t1, x1, _, o, _⟩, tq, t2, t3, h2, _⟩ := h
    cases ObjAt.same x1 h2
    exact ⟨440, _, o, .inr rfl, by with_unfolding_all rfl⟩
theorem R_join {la : Addr} {ys : List Value} {xs : List Str} {x : Str} {u : Tok} {n : Nat} {Q : Value → Shared → Prop} (C : Cx X w s₀ G₀ G L m mu s) (hm : (la, lstObj ys n) ∈ mu) (hi : StrsAre ys xs) (hsep : x.length ≤ 16) (hw : (xs.map (·.length)).sum + xs.length ≤ 1048576)
    (h : ∀ t s', Cx X w s₀ G₀ G L m mu s' → Q (.str (Txt.join x xs) t) s') : wpAny (MD w) A (call (.builtin "str.join") [.str x u, .ref la]) Q E s :=
  join_listW (items := ys.toArray) ⟨_, C.getMu hm, rfl, n, rfl⟩ hi hsep hw fun t' k => h t' _ (C.toks k)
theorem strL_len {l : Lit} (h : l.1 ∈ nmL) : (strL l).length ≤ 8 := by
  obtain ⟨nm, b⟩ := l
  have h : nm ∈ nmL := h
  cases b <;> rcases nm_cases h with rfl | rfl | rfl | rfl <;> decide
theorem strLs_len : ∀ {ls : List Lit}, (∀ l ∈ ls, l.1 ∈ nmL) → ((ls.map strL).map (·.length)).sum ≤ 8 * ls.length
  | [], _ => Nat.le_refl 0
  | l :: ls, h => by
    have h1 := strLs_len fun x hx => h x (.tail _ hx)
    have h2 := strL_len (h l (.head _))
    simp only [List.map_cons, List.sum_cons, List.length_cons]
    omega
theorem strs_snoc {vs : List Value} {xs : List Str} {x : Str} {t : Tok} (h : StrsAre vs xs) : StrsAre (vs ++ [.str x t]) (xs ++ [x]) := by
  have := strsAre_push (its := vs.toArray) (n := x) (t := t) h
  simpa using this
theorem grp_str_and {a t : Addr} {ca : Bool} {t1 t2 : Tok} {vs : List Value} {ls : List Lit} (W : Wd w G s) (rm : Rm A 6) (o : ObjAt G a 563 (grpL true t ca t1 t2)) (ht : TupAt G t vs) (hl : LitsAt G vs ls) (hn : ∀ l ∈ ls, l.1 ∈ nmL) (h2 : 2 ≤ vs.length) (hz : vs.length ≤ 8)
   (hR : ∀ s' G' t, Wd w G' s' → Ps [] s G s' G' → R (.ok (.ret (.str (Txt.join (Str.ofString (if true then "&" else "|")) (ls.map strL)) t))) s') : codeAny (MD w) A (.call (.ref 369) ⟨[.ref a], []⟩) R s := by
  refine R_enter [(Str.ofString "self", .ref a)] (k := 5) (st := mthAt 13 1) (qual := "Function.__str__") (cl := []) (dV := .none) (pm := .str "boolean.boolean" 194) (cdv := .ref 368) (ct := .none) (by kernel_rfl) (by k_is) W rm (BindsTo.of_eq rfl) (by decide) (by rfl) rfl rfl rfl rfl fun L s1 C rm' => ?_
  repeat walk1
  · exfalso
    have := ‹((vs.length : Nat) : Int) = 1›
    omega
  repeat walk1
  refine R_newL (by assumption) (by decide) fun la s9 n9 C9 => ?_
  repeat walk1
  refine wpAny_For ?_
  repeat walk1
  refine R_iterT (by assumption) ht fun I s10 o10 ho10 C10 => ?_
  refine R_forT (t := t) (vs := vs) (fun i G' m' mu' => m'.lookup (Str.ofString "args_str") = some (.ref la) ∧ m'.lookup (Str.ofString "self") = some (.ref a) ∧ ∃ ys n, mu' = [(la, lstObj ys n)] ∧ StrsAre ys ((ls.take i).map strL))
      rm'.1 C10 ho10 ht (by rfl) (by rfl) ⟨by walk_at "m_lk", by walk_at "m_lk", _, _, rfl, .nil⟩ ?_ ?_
  · intro i v G5 m5 mu5 s5 o5 E5 hv le5 ⟨k1, k2, ys, n5, e2, hys⟩ ho5 C5
    subst e2
    replace hl := hl.mono le5
    obtain ⟨b, lb, rfl, hlb, hb⟩ := hl.get hv
    obtain ⟨Db, ob, x1, x2, x3⟩ := hb.isLit
    have hnl := hn lb (List.mem_iff_getElem?.mpr ⟨i, hlb⟩)
    have hyl : ys.length ≤ 8 := by
      have h := hys.length
      have := hl.len
      rw [h, List.length_map, List.length_take]; omega
    have hti : (ls.take (i + 1)).map strL = (ls.take i).map strL ++ [strL lb] := by rw [List.take_add_one, hlb]; simp
    rcases x2 with rfl | rfl
    all_goals
      repeat walk1
      refine R_str_ (n := 3) (by assumption) (rm'.le (by decide)) (strP_lit hb hnl) fun t6 s6 C6 => ?_
      clear x1
      repeat walk1
      refine R_append (pre := [(I, o5)]) (post := []) (by assumption) (by omega) fun s11 n11 C11 => ?_
      have C11 : Cx [] w s G G5 _ _ [(I, o5), (la, lstObj (ys ++ [.str (strL lb) t6]) n11)] s11 := C11
      repeat walk1
      refine ⟨_, _, _, ?_, Km.le.refl _, by assumption⟩
      exact ⟨by walk_at "m_lk", by walk_at "m_lk", _, _, rfl, hti ▸ strs_snoc hys⟩
  · intro G5 m5 mu5 s5 E5 ⟨k1, k2, ys, n5, e2, hys⟩ le5 C5
    subst e2
    have hll : ls.length ≤ 8 := by rw [← hl.len]; exact hz
    have hsum := strLs_len hn
    rw [hl.len, List.take_length] at hys
    clear C C9 C10
    repeat walk1
    refine R_join (by assumption) (.head _) hys (by decide) (by rw [List.length_map]; omega) fun t6 s6 C6 => ?_
    exact hR _ _ _ C6.wd C6.ps
--CUT
theorem grp_str_or {a t : Addr} {ca : Bool} {t1 t2 : Tok} {vs : List Value} {ls : List Lit} (W : Wd w G s) (rm : Rm A 6) (o : ObjAt G a 612 (grpL false t ca t1 t2)) (ht : TupAt G t vs) (hl : LitsAt G vs ls) (hn : ∀ l ∈ ls, l.1 ∈ nmL) (h2 : 2 ≤ vs.length) (hz : vs.length ≤ 8)
   (hR : ∀ s' G' t, Wd w G' s' → Ps [] s G s' G' → R (.ok (.ret (.str (Txt.join (Str.ofString (if false then "&" else "|")) (ls.map strL)) t))) s') : codeAny (MD w) A (.call (.ref 369) ⟨[.ref a], []⟩) R s := by
  refine R_enter [(Str.ofString "self", .ref a)] (k := 5) (st := mthAt 13 1) (qual := "Function.__str__") (cl := []) (dV := .none) (pm := .str "boolean.boolean" 194) (cdv := .ref 368) (ct := .none) (by kernel_rfl) (by k_is) W rm (BindsTo.of_eq rfl) (by decide) (by rfl) rfl rfl rfl rfl fun L s1 C rm' => ?_
  repeat walk1
  · exfalso
    have := ‹((vs.length : Nat) : Int) = 1›
    omega
  repeat walk1
  refine R_newL (by assumption) (by decide) fun la s9 n9 C9 => ?_
  repeat walk1
  refine wpAny_For ?_
  repeat walk1
  refine R_iterT (by assumption) ht fun I s10 o10 ho10 C10 => ?_
  refine R_forT (t := t) (vs := vs) (fun i G' m' mu' => m'.lookup (Str.ofString "args_str") = some (.ref la) ∧ m'.lookup (Str.ofString "self") = some (.ref a) ∧ ∃ ys n, mu' = [(la, lstObj ys n)] ∧ StrsAre ys ((ls.take i).map strL))
      rm'.1 C10 ho10 ht (by rfl) (by rfl) ⟨by walk_at "m_lk", by walk_at "m_lk", _, _, rfl, .nil⟩ ?_ ?_
  · intro i v G5 m5 mu5 s5 o5 E5 hv le5 ⟨k1, k2, ys, n5, e2, hys⟩ ho5 C5
    subst e2
    replace hl := hl.mono le5
    obtain ⟨b, lb, rfl, hlb, hb⟩ := hl.get hv
    obtain ⟨Db, ob, x1, x2, x3⟩ := hb.isLit
    have hnl := hn lb (List.mem_iff_getElem?.mpr ⟨i, hlb⟩)
    have hyl : ys.length ≤ 8 := by
      have h := hys.length
      have := hl.len
      rw [h, List.length_map, List.length_take]; omega
    have hti : (ls.take (i + 1)).map strL = (ls.take i).map strL ++ [strL lb] := by rw [List.take_add_one, hlb]; simp
    rcases x2 with rfl | rfl
    all_goals
      repeat walk1
      refine R_str_ (n := 3) (by assumption) (rm'.le (by decide)) (strP_lit hb hnl) fun t6 s6 C6 => ?_
      clear x1
      repeat walk1
      refine R_append (pre := [(I, o5)]) (post := []) (by assumption) (by omega) fun s11 n11 C11 => ?_
      have C11 : Cx [] w s G G5 _ _ [(I, o5), (la, lstObj (ys ++ [.str (strL lb) t6]) n11)] s11 := C11
      repeat walk1
      refine ⟨_, _, _, ?_, Km.le.refl _, by assumption⟩
      exact ⟨by walk_at "m_lk", by walk_at "m_lk", _, _, rfl, hti ▸ strs_snoc hys⟩
  · intro G5 m5 mu5 s5 E5 ⟨k1, k2, ys, n5, e2, hys⟩ le5 C5
    subst e2
    have hll : ls.length ≤ 8 := by rw [← hl.len]; exact hz
    have hsum := strLs_len hn
    rw [hl.len, List.take_length] at hys
    clear C C9 C10
    repeat walk1
    refine R_join (by assumption) (.head _) hys (by decide) (by rw [List.length_map]; omega) fun t6 s6 C6 => ?_
    exact hR _ _ _ C6.wd C6.ps
--CUT
def strC (b : Bool) : Str := Str.ofString (if b then "1" else "0")
def opS (k : Bool) : Str := Str.ofString (if k then "&" else "|")
def strD (k : Bool) : Den → Str
  | none => strC (!k)
  | some [] => strC k
  | some ls => Txt.join (opS k) (ls.map strL)
theorem strP_B {a : Addr} {k : Bool} {D : Den} (W : Wd w G s) (h : IsB G a k D) (hg : DGood D) : StrP w 6 G a (strD k D) := by
  match D, h, hg with
  | none, h, _ => exact h ▸ (strP_cst (b := !k) W).up (by decide)
  | some [], h, _ => exact h ▸ (strP_cst (b := k) W).up (by decide)
  | some [l], h, hg => exact (strP_lit h ((hg _ rfl).1 l (.head _))).up (by decide)
  | some (l₁ :: l₂ :: ls), ⟨vs, ca, ⟨tp, t1, t2, o, ht⟩, hl⟩, hg =>
    obtain ⟨g1, g2⟩ := hg _ rfl
    have hlen := hl.len
    refine ⟨grpOf k, _, o, grp_ex k, fun A R s' G' W' le rm hR => ?_⟩
    have e : strFn (grpOf k) = 369 := by cases k <;> rfl
    rw [e]
    cases k with
    | true => exact grp_str_and W' rm (o.mono le) (ht.mono le) (hl.mono le) g1 (by rw [hlen]; simp) (by rw [hlen]; exact g2) fun s2 G2 t W2 P2 => hR s2 t (W'.weaken W2 P2.le) P2.weaken
    | false => exact grp_str_or W' rm (o.mono le) (ht.mono le) (hl.mono le) g1 (by rw [hlen]; simp) (by rw [hlen]; exact g2) fun s2 G2 t W2 P2 => hR s2 t (W'.weaken W2 P2.le) P2.weaken
end
-- part C28
section
variable {X : List Addr} {w : World} {s₀ s s' : Shared} {G₀ G G' : Km} {L : Addr} {m : List (Str × Value)} {mu : List (Addr × Obj)} {A : Around} {E : Value → Shared → Prop} {R : Result → Shared → Prop}
theorem R_lenS {t : Addr} {vs : List Value} {Q : Value → Shared → Prop} (C : Cx X w s₀ G₀ G L m mu s) (ht : SeqAt G t vs) (hz : vs.length ≤ 2000) (h : ∀ u s', Cx X w s₀ G₀ G L m mu s' → Q (.int (vs.length : Nat) u) s') : wpAny (MD w) A (call (.builtin "len") [.ref t]) Q E s := by
  obtain ⟨T, n, hT, hg⟩ := ht
  rcases hT with rfl | rfl
  · exact call_len_list (items := vs.toArray) ⟨_, C.get hg, rfl, n, rfl⟩ (by rw [List.size_toArray]; omega) (by rw [List.size_toArray]; exact h _ _ (C.toks _))
  · exact PyProof.Rows.len_tuple (items := vs.toArray) ⟨_, C.get hg, rfl, n, rfl⟩ (by rw [List.size_toArray]; omega) (by rw [List.size_toArray]; exact h _ _ (C.toks _))
theorem built_and {la : Addr} {b c : Value} {vs : List Value} {tk : Tok} (W : Wd w G s) (rm : Rm A 14) (ht : SeqAt G la (b :: c :: vs)) (hv : ∀ v ∈ b :: c :: vs, IsEx G v) (hz : vs.length ≤ 900)
    (hR : ∀ s' G' x d tp t1 t2, NewObj w s G s' G' x d 563 (grpL true tp false t1 t2) → TupAt G' tp (b :: c :: vs) → R (.ok (.ret (.ref x))) s') :
    codeAny (MD w) A (.call (.ref 28) ⟨[.int (if true then 1 else 2) tk, .ref la], []⟩) R s := by
  refine R_enter [(Str.ofString "args", .ref la), (Str.ofString "operation", .int (if true then 1 else 2) tk)] (k := 13) (st := stAt 5) (qual := "built") (cl := []) (dV := .none) (pm := .str "boolean.boolean" 194) (cdv := .ref 27) (ct := .none) (by kernel_rfl) (by k_is) W rm (BindsTo.of_eq rfl) (by decide) (by rfl) rfl rfl rfl rfl fun L s1 C rm' => ?_
  have hz' : (b :: c :: vs).length ≤ 2000 := by simp only [List.length_cons]; omega
  simp only [if_true, if_false, Bool.false_eq_true] at C
  repeat walk1
  refine R_lenS (by first | assumption | exact Cx.toks (by assumption) _) (ht.mono (Cx.ps (by assumption)).le) hz' fun u2 s2 C2 => ?_
  repeat walk1
  · refine wpAny_call (mk_grp (k := true) (Cx.wd (by assumption)) (rm'.le (by decide)) hv hz fun s' G' x d tp t1 t2 N h => ?_)
    exact hR s' G' x d tp t1 t2 (N.of (Cx.ps (by assumption))) h
  · exfalso
    have := ‹¬ (1 : Int) < (((b :: c :: vs).length : Nat) : Int)›
    simp only [List.length_cons] at this
    omega
theorem built_or {la : Addr} {b c : Value} {vs : List Value} {tk : Tok} (W : Wd w G s) (rm : Rm A 14) (ht : SeqAt G la (b :: c :: vs)) (hv : ∀ v ∈ b :: c :: vs, IsEx G v) (hz : vs.length ≤ 900)
    (hR : ∀ s' G' x d tp t1 t2, NewObj w s G s' G' x d 612 (grpL false tp false t1 t2) → TupAt G' tp (b :: c :: vs) → R (.ok (.ret (.ref x))) s') :
    codeAny (MD w) A (.call (.ref 28) ⟨[.int (if false then 1 else 2) tk, .ref la], []⟩) R s := by
  refine R_enter [(Str.ofString "args", .ref la), (Str.ofString "operation", .int (if false then 1 else 2) tk)] (k := 13) (st := stAt 5) (qual := "built") (cl := []) (dV := .none) (pm := .str "boolean.boolean" 194) (cdv := .ref 27) (ct := .none) (by kernel_rfl) (by k_is) W rm (BindsTo.of_eq rfl) (by decide) (by rfl) rfl rfl rfl rfl fun L s1 C rm' => ?_
  have hz' : (b :: c :: vs).length ≤ 2000 := by simp only [List.length_cons]; omega
  simp only [if_true, if_false, Bool.false_eq_true] at C
  repeat walk1
  refine R_lenS (by first | assumption | exact Cx.toks (by assumption) _) (ht.mono (Cx.ps (by assumption)).le) hz' fun u2 s2 C2 => ?_
  repeat walk1
  · refine wpAny_call (mk_grp (k := false) (Cx.wd (by assumption)) (rm'.le (by decide)) hv hz fun s' G' x d tp t1 t2 N h => ?_)
    exact hR s' G' x d tp t1 t2 (N.of (Cx.ps (by assumption))) h
  · exfalso
    have := ‹¬ (1 : Int) < (((b :: c :: vs).length : Nat) : Int)›
    simp only [List.length_cons] at this
    omega
theorem built_k {k : Bool} {la : Addr} {b c : Value} {vs : List Value} {tk : Tok} (W : Wd w G s) (rm : Rm A 14) (ht : SeqAt G la (b :: c :: vs)) (hv : ∀ v ∈ b :: c :: vs, IsEx G v) (hz : vs.length ≤ 900)
    (hR : ∀ s' G' x d tp t1 t2, NewObj w s G s' G' x d (grpOf k) (grpL k tp false t1 t2) → TupAt G' tp (b :: c :: vs) → R (.ok (.ret (.ref x))) s') :
    codeAny (MD w) A (.call (.ref 28) ⟨[.int (if k then 1 else 2) tk, .ref la], []⟩) R s := by
  cases k with
  | true => exact built_and W rm ht hv hz hR
  | false => exact built_or W rm ht hv hz hR
end
-- part C29
-- a tree as the law writes it: tuples
mutual
def PyT (G : Km) : Tr → Value → Prop
  | .sym n, v => ∃ p t1 t2, v = .ref p ∧ TupAt G p [.int 0 t1, .str n t2]
  | .cst b, v => ∃ p t1 q, v = .ref p ∧ TupAt G p [.int (if b then 5 else 4) t1, .ref q]
  | .not t, v => ∃ p t1 q u, v = .ref p ∧ TupAt G p [.int 1 t1, .ref q] ∧ TupAt G q [u] ∧ PyT G t u
  | .grp ts, v => ∃ p t1 q us, v = .ref p ∧ TupAt G p [.int 2 t1, .ref q] ∧ TupAt G q us ∧ PyTs G ts us
def PyTs (G : Km) : List Tr → List Value → Prop
  | [], us => us = []
  | t :: ts, us => ∃ v vs, us = v :: vs ∧ PyT G t v ∧ PyTs G ts vs
end
section
variable {X : List Addr} {w : World} {s₀ s s' : Shared} {G₀ G G' : Km} {L : Addr} {m : List (Str × Value)} {mu : List (Addr × Obj)} {A : Around} {E : Value → Shared → Prop} {R : Result → Shared → Prop}
mutual
theorem PyT.mono (h : G.le G') : ∀ {t : Tr} {v : Value}, PyT G t v → PyT G' t v
  | .sym n, v, x => by unfold PyT at x ⊢; obtain ⟨p, t1, t2, e, a⟩ := x; exact ⟨p, t1, t2, e, a.mono h⟩
  | .cst b, v, x => by unfold PyT at x ⊢; obtain ⟨p, t1, q, e, a⟩ := x; exact ⟨p, t1, q, e, a.mono h⟩
  | .not t, v, x => by
    unfold PyT at x ⊢
    obtain ⟨p, t1, q, u, e, a, b, c⟩ := x
    exact ⟨p, t1, q, u, e, a.mono h, b.mono h, PyT.mono h c⟩
  | .grp ts, v, x => by
    unfold PyT at x ⊢
    obtain ⟨p, t1, q, us, e, a, b, c⟩ := x
    exact ⟨p, t1, q, us, e, a.mono h, b.mono h, PyTs.mono h c⟩
theorem PyTs.mono (h : G.le G') : ∀ {ts : List Tr} {us : List Value}, PyTs G ts us → PyTs G' ts us
  | [], us, x => by unfold PyTs at x ⊢; exact x
  | t :: ts, us, x => by
    unfold PyTs at x ⊢
    obtain ⟨v, vs, e, a, b⟩ := x
    exact ⟨v, vs, e, PyT.mono h a, PyTs.mono h b⟩
end
theorem PyTs.len : ∀ {ts : List Tr} {vs : List Value}, PyTs G ts vs → vs.length = ts.length
  | [], vs, x => by unfold PyTs at x; rw [x]; rfl
  | t :: ts, vs, x => by
    unfold PyTs at x
    obtain ⟨a, us, e, h1, h2⟩ := x
    rw [e, List.length_cons, List.length_cons, h2.len]
theorem PyTs.get : ∀ {ts : List Tr} {vs : List Value}, PyTs G ts vs → ∀ {i : Nat} {v : Value}, vs[i]? = some v → ∃ t, ts[i]? = some t ∧ PyT G t v
  | [], vs, x, i, v, h => by unfold PyTs at x; rw [x] at h; simp at h
  | t :: ts, vs, x, i, v, h => by
    unfold PyTs at x
    obtain ⟨u, us, e, h1, h2⟩ := x
    subst e
    cases i with
    | zero => cases h; exact ⟨t, rfl, h1⟩
    | succ i => exact h2.get h
def kdI (k : Bool) : Int := if k then 2 else 3
theorem made_enter {v kv : Value} {k : Nat} (W : Wd w G s) (rm : Rm A (k + 1))
    (h : ∀ L s' G' c1, Cx [] w s G G' L [(Str.ofString "tree", v)] [] s' → (cellsFrom (L + 1) (fnScope (stAt 20)).names []).lookup (Str.ofString "kind") = some c1 → CellAt G' c1 kv →
      Rm (A.deeper (envX "_law_made" (fnScope (stAt 20)) L 620 (.ref 619) (cellsFrom (L + 1) (fnScope (stAt 20)).names []))) k →
      wpAny (MD w) (A.deeper (envX "_law_made" (fnScope (stAt 20)) L 620 (.ref 619) (cellsFrom (L + 1) (fnScope (stAt 20)).names []))) (execs (fnBody (stAt 20)) (envX "_law_made" (fnScope (stAt 20)) L 620 (.ref 619) (cellsFrom (L + 1) (fnScope (stAt 20)).names [])))
        (fun fl s'' => R (.ok (.ret (match fl with | .ret v => v | _ => .none))) s'') (fun _ _ => False) s') : codeAny (MD w) A (.call (.ref 620) ⟨[v, kv], []⟩) R s := by
  refine R_enterC (st := stAt 20) (qual := "_law_made") (dV := .none) (pm := .str "law_bp5003_02" 963) (cdv := .ref 619) (ct := .none) (binds := [(Str.ofString "tree", v), (Str.ofString "kind", kv)]) (by kernel_rfl) (by k_is) W rm rfl (fun L x hx => ?_) [(Str.ofString "tree", v)] [(Str.ofString "kind", kv)] (fun L p hp => ?_) (fun L p hp => ?_) rfl rfl rfl fun L s' G' C hc rm' => ?_
  · simp only [List.mem_cons, List.not_mem_nil, or_false] at hx
    rcases hx with rfl | rfl
    · exact .inl rfl
    · exact .inr ⟨rfl, rfl⟩
  · rw [List.mem_singleton.mp hp]; rfl
  · rw [List.mem_singleton.mp hp]; exact ⟨rfl, rfl⟩
  · obtain ⟨c1, h1, h2⟩ := hc (Str.ofString "kind", kv) (by simp)
    exact h L s' G' c1 C h1 h2 rm'
theorem made_sym {v : Value} {n : Str} {k : Bool} {tk : Tok} (W : Wd w G s) (rm : Rm A 12) (hv : PyT G (.sym n) v)
   (hR : ∀ s' G' a, Wd w G' s' → Ps [] s G s' G' → TrAt G' k (.sym n) a → R (.ok (.ret (.ref a))) s') : codeAny (MD w) A (.call (.ref 620) ⟨[v, .int (kdI k) tk], []⟩) R s := by
  unfold PyT at hv
  obtain ⟨p, t1, t2, rfl, hp⟩ := hv
  refine made_enter (k := 11) W rm fun L s1 G1 c1 C h1 h2 rm' => ?_
  replace hp := hp.mono C.ps.le
  repeat walk1
  refine wpAny_call (mk_sym (Cx.wd (by assumption)) (rm'.le (by decide)) fun s' G' x d tp u1 N h => ?_)
  obtain ⟨G5, W5, P5, O5, le5⟩ := (N.of (Cx.ps (by assumption))).freeze
  exact hR _ _ _ W5 P5 (by unfold TrAt; exact ⟨tp, u1, t2, O5, h.mono le5⟩)
theorem made_cst {v : Value} {b k : Bool} {tk : Tok} (W : Wd w G s) (rm : Rm A 12) (hv : PyT G (.cst b) v)
   (hR : ∀ s' G' a, Wd w G' s' → Ps [] s G s' G' → TrAt G' k (.cst b) a → R (.ok (.ret (.ref a))) s') : codeAny (MD w) A (.call (.ref 620) ⟨[v, .int (kdI k) tk], []⟩) R s := by
  unfold PyT at hv
  obtain ⟨p, t1, q, rfl, hp⟩ := hv
  refine made_enter (k := 11) W rm fun L s1 G1 c1 C h1 h2 rm' => ?_
  replace hp := hp.mono C.ps.le
  cases b with
  | true =>
    have hp : TupAt G1 p [.int 5 t1, .ref q] := hp
    repeat walk1
    exact hR _ _ _ (Cx.wd (by assumption)) (Cx.ps (by assumption)) (by unfold TrAt; rfl)
  | false =>
    have hp : TupAt G1 p [.int 4 t1, .ref q] := hp
    repeat walk1
    exact hR _ _ _ (Cx.wd (by assumption)) (Cx.ps (by assumption)) (by unfold TrAt; rfl)
-- the contract of _law_made
def MadeP (w : World) (n : Nat) (G : Km) (t : Tr) (v : Value) : Prop := ∀ (k : Bool) (tk : Tok) (A : Around) (R : Result → Shared → Prop) (s : Shared) (G' : Km), Wd w G' s → G.le G' → Rm A n →
  (∀ s' G'' a, Wd w G'' s' → Ps [] s G' s' G'' → TrAt G'' k t a → R (.ok (.ret (.ref a))) s') → codeAny (MD w) A (.call (.ref 620) ⟨[v, .int (kdI k) tk], []⟩) R s
theorem TrAt.ex {k : Bool} {t : Tr} {a : Addr} (W : Wd w G s) (h : TrAt G k t a) : IsEx G (.ref a) := by
  cases t with
  | sym n => unfold TrAt at h; exact h.ex
  | cst b => unfold TrAt at h; subst h; obtain ⟨l, o⟩ := cst_at W b; exact ⟨_, _, l, rfl, o, cst_ex b⟩
  | not t => unfold TrAt at h; obtain ⟨x, h, _⟩ := h; exact h.ex
  | grp ts => unfold TrAt at h; obtain ⟨vs, h, _⟩ := h; exact h.ex
theorem made_not {v : Value} {t : Tr} {k : Bool} {tk : Tok} {n : Nat} (W : Wd w G s) (rm : Rm A (n + 1)) (hn : 20 ≤ n) (hv : PyT G (.not t) v) (ih : ∀ u, PyT G t u → MadeP w n G t u)
   (hR : ∀ s' G' a, Wd w G' s' → Ps [] s G s' G' → TrAt G' k (.not t) a → R (.ok (.ret (.ref a))) s') : codeAny (MD w) A (.call (.ref 620) ⟨[v, .int (kdI k) tk], []⟩) R s := by
  unfold PyT at hv
  obtain ⟨p, t1, q, u, rfl, hp, hq, hu⟩ := hv
  replace ih := ih u hu
  refine made_enter (k := n) W rm fun L s1 G1 c1 C h1 h2 rm' => ?_
  replace hp := hp.mono C.ps.le
  replace hq := hq.mono C.ps.le
  have le1 := C.ps.le
  clear hu
  have fin : ∀ {kk : Bool} {tk : Tok} {m : List (Str × Value)} {s2 : Shared} {L2 : Addr} {B : Around}, kk = !k → Rm B n → Cx [] w s G G1 L2 m [] s2 → wpAny (MD w) B (call (.ref 620) [u, .int (kdI kk) tk]) (fun y s3 => ∃ G3 a, y = .ref a ∧ G1.le G3 ∧ TrAt G3 (!k) t a ∧ Cx [] w s G G3 L2 m [] s3) (fun _ _ => False) s2 := fun {kk tk m s2 L2 B} e rmB C2 => by
    subst e
    exact wpAny_call (ih _ _ _ _ _ _ C2.wd le1 rmB fun s3 G3 a W3 P3 h3 => ⟨G3, a, rfl, P3.le, h3, C2.after W3 P3⟩)
  cases k with
  | true =>
    have h2 : CellAt G1 c1 (.int 2 tk) := h2
    repeat walk1
    refine wpAny_mono (fin (kk := false) rfl rm' (Cx.toks (by assumption) _)) (fun y s3 h => ?_) fun _ _ e => e.elim
    obtain ⟨G3, a, rfl, le3, ha, C3⟩ := h
    obtain ⟨a', Da, la, e, oa, hDa⟩ := ha.ex C3.wd
    cases e
    repeat walk1
    refine R_mkNot (by assumption) (rm'.le (by omega)) oa hDa fun s4 G4 x le4 hx C4 => ?_
    exact hR _ _ _ C4.wd C4.ps (by unfold TrAt; exact ⟨a, hx, ha.mono le4⟩)
  | false =>
    have h2 : CellAt G1 c1 (.int 3 tk) := h2
    repeat walk1
    refine wpAny_mono (fin (kk := true) rfl rm' (Cx.toks (by assumption) _)) (fun y s3 h => ?_) fun _ _ e => e.elim
    obtain ⟨G3, a, rfl, le3, ha, C3⟩ := h
    obtain ⟨a', Da, la, e, oa, hDa⟩ := ha.ex C3.wd
    cases e
    repeat walk1
    refine R_mkNot (by assumption) (rm'.le (by omega)) oa hDa fun s4 G4 x le4 hx C4 => ?_
    exact hR _ _ _ C4.wd C4.ps (by unfold TrAt; exact ⟨a, hx, ha.mono le4⟩)
theorem TrsAt_of {k : Bool} : ∀ {ts : List Tr} {ys : List Value}, ys.length = ts.length → (∀ (i : Nat) y, ys[i]? = some y → ∃ a t, y = Value.ref a ∧ ts[i]? = some t ∧ TrAt G k t a) → TrsAt G k ts ys
  | [], [], _, _ => by unfold TrsAt; rfl
  | t :: ts, y :: ys, e, h => by
    obtain ⟨a, t', e1, e2, h1⟩ := h 0 y rfl
    cases e2
    unfold TrsAt
    exact ⟨a, ys, by rw [e1], h1, TrsAt_of (Nat.succ.inj e) fun i z hz => h (i + 1) z hz⟩
theorem made_grp_and {v : Value} {ts : List Tr} {tk : Tok} {n : Nat} (W : Wd w G s) (rm : Rm A (n + 1)) (hn : 20 ≤ n) (h2 : 2 ≤ ts.length) (hz : ts.length ≤ 40) (hv : PyT G (.grp ts) v) (ih : ∀ t ∈ ts, ∀ u, PyT G t u → MadeP w n G t u)
   (hR : ∀ s' G' a, Wd w G' s' → Ps [] s G s' G' → TrAt G' true (.grp ts) a → R (.ok (.ret (.ref a))) s') : codeAny (MD w) A (.call (.ref 620) ⟨[v, .int (kdI true) tk], []⟩) R s := by
  unfold PyT at hv
  obtain ⟨p, t1, q, us, rfl, hp, hq, hu⟩ := hv
  have hul := hu.len
  refine made_enter (k := n) W rm fun L s1 G1 c1 C h1 hc rm' => ?_
  replace hp := hp.mono C.ps.le
  replace hq := hq.mono C.ps.le
  have le1 := C.ps.le
  have hc : CellAt G1 c1 (.int (if true then 2 else 3) tk) := hc
  simp only [if_true, if_false, Bool.false_eq_true] at hc
  repeat walk1
  show wpAny _ _ _ _ _ _
  refine R_comp (t := q) (vs := us) (fun G i y => (∃ a t, y = .ref a ∧ ts[i]? = some t ∧ TrAt G true t a) ∧ IsEx G y) (fun G G' i y le ⟨⟨a, t, e1, e2, e3⟩, e4⟩ => ⟨⟨a, t, e1, e2, e3.mono le⟩, e4.mono le⟩) rm'.1 (by assumption) hq (by omega) (by rfl) (by decide) (by rfl) (by decide) (by rfl) ?_ (fun sb i v G3 L' s3 mu' E' hv le3 C3 => ?_) (fun _ => rfl) ?_
  · intro Q' hQ'
    repeat walk1
    exact hQ' _ (by assumption)
  · obtain ⟨t, hi, hu⟩ := hu.get hv
    repeat walk1
    refine wpAny_call (ih t (List.mem_iff_getElem?.mpr ⟨i, hi⟩) v hu true _ _ _ _ G3 (Cx.wd (by assumption)) (le1.trans le3) rm' fun s4 G4 a W4 P4 h4 => ?_)
    exact ⟨G4, P4.le, ⟨⟨a, t, rfl, hi, h4⟩, h4.ex W4⟩, (Cx.after (by assumption) W4 P4).sub fun _ _ h => (nomatch h)⟩
  · intro s3 G3 ys n3 la hl hpr le3 C3
    have hy2 : 2 ≤ ys.length := by omega
    have hyz : ys.length ≤ 40 := by omega
    have hts := TrsAt_of (G := G3) (k := true) (ys := ys) (ts := ts) (by omega) fun i y h => (hpr i y h).1
    have hexs : ∀ v ∈ ys, IsEx G3 v := fun v hv => let ⟨i, hi⟩ := List.mem_iff_getElem?.mp hv; (hpr i v hi).2
    clear hpr hl
    obtain ⟨y1, y2, yt, rfl⟩ := two_of hy2
    have hput : G3.le (G3.put la (lstObj (y1 :: y2 :: yt) n3)) := Km.put_le (C3.new la (by simp)).2.1
    replace C3 := C3.freeze (fun h => nomatch h)
    replace hts := hts.mono hput
    repeat walk1
    refine wpAny_call (built_and (Cx.wd (by assumption)) (rm'.le (by omega)) ⟨"list", n3, .inl rfl, Km.put_self⟩ (fun v hv => (hexs v hv).mono hput) (by simp only [List.length_cons] at hyz; omega) fun s4 G4 r4 d4 tp4 u1 u2 N4 h4 => ?_)
    obtain ⟨G5, W5, P5, O5, le5⟩ := N4.freeze
    have C5 := Cx.after (by assumption) W5 P5
    exact hR _ _ _ C5.wd C5.ps (by unfold TrAt; exact ⟨_, ⟨tp4, u1, u2, O5, h4.mono le5⟩, hts.mono P5.le⟩)
--CUT
theorem made_grp_or {v : Value} {ts : List Tr} {tk : Tok} {n : Nat} (W : Wd w G s) (rm : Rm A (n + 1)) (hn : 20 ≤ n) (h2 : 2 ≤ ts.length) (hz : ts.length ≤ 40) (hv : PyT G (.grp ts) v) (ih : ∀ t ∈ ts, ∀ u, PyT G t u → MadeP w n G t u)
   (hR : ∀ s' G' a, Wd w G' s' → Ps [] s G s' G' → TrAt G' false (.grp ts) a → R (.ok (.ret (.ref a))) s') : codeAny (MD w) A (.call (.ref 620) ⟨[v, .int (kdI false) tk], []⟩) R s := by
  unfold PyT at hv
  obtain ⟨p, t1, q, us, rfl, hp, hq, hu⟩ := hv
  have hul := hu.len
  refine made_enter (k := n) W rm fun L s1 G1 c1 C h1 hc rm' => ?_
  replace hp := hp.mono C.ps.le
  replace hq := hq.mono C.ps.le
  have le1 := C.ps.le
  have hc : CellAt G1 c1 (.int (if false then 2 else 3) tk) := hc
  simp only [if_true, if_false, Bool.false_eq_true] at hc
  repeat walk1
  show wpAny _ _ _ _ _ _
  refine R_comp (t := q) (vs := us) (fun G i y => (∃ a t, y = .ref a ∧ ts[i]? = some t ∧ TrAt G false t a) ∧ IsEx G y) (fun G G' i y le ⟨⟨a, t, e1, e2, e3⟩, e4⟩ => ⟨⟨a, t, e1, e2, e3.mono le⟩, e4.mono le⟩) rm'.1 (by assumption) hq (by omega) (by rfl) (by decide) (by rfl) (by decide) (by rfl) ?_ (fun sb i v G3 L' s3 mu' E' hv le3 C3 => ?_) (fun _ => rfl) ?_
  · intro Q' hQ'
    repeat walk1
    exact hQ' _ (by assumption)
  · obtain ⟨t, hi, hu⟩ := hu.get hv
    repeat walk1
    refine wpAny_call (ih t (List.mem_iff_getElem?.mpr ⟨i, hi⟩) v hu false _ _ _ _ G3 (Cx.wd (by assumption)) (le1.trans le3) rm' fun s4 G4 a W4 P4 h4 => ?_)
    exact ⟨G4, P4.le, ⟨⟨a, t, rfl, hi, h4⟩, h4.ex W4⟩, (Cx.after (by assumption) W4 P4).sub fun _ _ h => (nomatch h)⟩
  · intro s3 G3 ys n3 la hl hpr le3 C3
    have hy2 : 2 ≤ ys.length := by omega
    have hyz : ys.length ≤ 40 := by omega
    have hts := TrsAt_of (G := G3) (k := false) (ys := ys) (ts := ts) (by omega) fun i y h => (hpr i y h).1
    have hexs : ∀ v ∈ ys, IsEx G3 v := fun v hv => let ⟨i, hi⟩ := List.mem_iff_getElem?.mp hv; (hpr i v hi).2
    clear hpr hl
    obtain ⟨y1, y2, yt, rfl⟩ := two_of hy2
    have hput : G3.le (G3.put la (lstObj (y1 :: y2 :: yt) n3)) := Km.put_le (C3.new la (by simp)).2.1
    replace C3 := C3.freeze (fun h => nomatch h)
    replace hts := hts.mono hput
    repeat walk1
    refine wpAny_call (built_or (Cx.wd (by assumption)) (rm'.le (by omega)) ⟨"list", n3, .inl rfl, Km.put_self⟩ (fun v hv => (hexs v hv).mono hput) (by simp only [List.length_cons] at hyz; omega) fun s4 G4 r4 d4 tp4 u1 u2 N4 h4 => ?_)
    obtain ⟨G5, W5, P5, O5, le5⟩ := N4.freeze
    have C5 := Cx.after (by assumption) W5 P5
    exact hR _ _ _ C5.wd C5.ps (by unfold TrAt; exact ⟨_, ⟨tp4, u1, u2, O5, h4.mono le5⟩, hts.mono P5.le⟩)
--CUT
theorem made_all : ∀ (z : Nat) (t : Tr) (v : Value) (G : Km), sizeOf t < z → t.ok → PyT G t v → MadeP w (20 + t.dep) G t v := by
  intro z
  induction z with
  | zero => intro t v G h; exact absurd h (Nat.not_lt_zero _)
  | succ z ih =>
    intro t v G hz hok hv k tk A R s G2 W le rm hR
    replace hv := hv.mono le
    cases t with
    | sym n => exact made_sym W (rm.le (by omega)) hv hR
    | cst b => exact made_cst W (rm.le (by omega)) hv hR
    | not t =>
      have hd : (Tr.not t).dep = t.dep + 1 := by rw [Tr.dep]
      rw [hd] at rm
      unfold Tr.ok at hok
      simp only [Tr.not.sizeOf_spec] at hz
      exact made_not (n := 20 + t.dep) W rm (Nat.le_add_right ..) hv (fun u hu => ih t u G2 (by omega) hok hu) hR
    | grp ts =>
      have hd : (Tr.grp ts).dep = deps ts + 1 := by rw [Tr.dep]
      rw [hd] at rm
      unfold Tr.ok at hok
      simp only [Tr.grp.sizeOf_spec] at hz
      have ih2 : ∀ t ∈ ts, ∀ u, PyT G2 t u → MadeP w (20 + deps ts) G2 t u := fun t ht u hu k tk A R s G3 W le rm hR =>
        ih t u G2 (by have := List.sizeOf_lt_of_mem ht; omega) (oks_mem hok.2.2 t ht) hu k tk A R s G3 W le (rm.le (by have := deps_mem ht; omega)) hR
      cases k with
      | true => exact made_grp_and (n := 20 + deps ts) W rm (Nat.le_add_right ..) hok.1 hok.2.1 hv ih2 hR
      | false => exact made_grp_or (n := 20 + deps ts) W rm (Nat.le_add_right ..) hok.1 hok.2.1 hv ih2 hR
end
-- part C30
abbrev Leaf := Str × Bool
mutual
def lv (odd : Bool) : Tr → List Leaf
  | .sym n => [(n, odd)]
  | .cst b => [(Str.ofString "", b != odd)]
  | .not t => lv (!odd) t
  | .grp ts => lvs odd ts
def lvs (odd : Bool) : List Tr → List Leaf
  | [] => []
  | t :: ts => lv odd t ++ lvs odd ts
end
theorem lvs_append (odd : Bool) : ∀ (ts us : List Tr), lvs odd (ts ++ us) = lvs odd ts ++ lvs odd us
  | [], us => by rw [List.nil_append]; conv => rhs; rw [lvs]
                 rfl
  | t :: ts, us => by rw [List.cons_append, lvs, lvs, lvs_append odd ts us, List.append_assoc]
def oI (b : Bool) : Int := if b then 1 else 0
def LvAt (G : Km) (v : Value) (l : Leaf) : Prop := ∃ p t1 t2, v = .ref p ∧ TupAt G p [.str l.1 t1, .int (oI l.2) t2]
def LvsAt (G : Km) : List Value → List Leaf → Prop
  | [], [] => True
  | v :: vs, l :: ls => LvAt G v l ∧ LvsAt G vs ls
  | _, _ => False
section
variable {X : List Addr} {w : World} {s₀ s s' : Shared} {G₀ G G' : Km} {L : Addr} {m : List (Str × Value)} {mu : List (Addr × Obj)} {A : Around} {E : Value → Shared → Prop} {R : Result → Shared → Prop}
theorem LvAt.mono {v : Value} {l : Leaf} (h : G.le G') (x : LvAt G v l) : LvAt G' v l := let ⟨p, t1, t2, e, a⟩ := x; ⟨p, t1, t2, e, a.mono h⟩
theorem LvsAt.mono (h : G.le G') : ∀ {vs : List Value} {ls : List Leaf}, LvsAt G vs ls → LvsAt G' vs ls
  | [], [], _ => trivial
  | _ :: _, _ :: _, ⟨a, b⟩ => ⟨a.mono h, b.mono h⟩
theorem LvsAt.append : ∀ {vs us : List Value} {ls ks : List Leaf}, LvsAt G vs ls → LvsAt G us ks → LvsAt G (vs ++ us) (ls ++ ks)
  | [], _, [], _, _, h => h
  | _ :: _, _, _ :: _, _, ⟨a, b⟩, h => ⟨a, b.append h⟩
theorem LvsAt.len : ∀ {vs : List Value} {ls : List Leaf}, LvsAt G vs ls → vs.length = ls.length
  | [], [], _ => rfl
  | _ :: _, _ :: _, ⟨_, b⟩ => congrArg (· + 1) b.len
theorem R_addL {a b : Addr} {xs ys : List Value} {n k : Nat} {Q : Value → Shared → Prop} (C : Cx X w s₀ G₀ G L m mu s) (ha : s.heap.get? a = some (lstObj xs n)) (hb : s.heap.get? b = some (lstObj ys k)) (hz : xs.length + ys.length ≤ 2000)
    (h : ∀ l s' n, Cx X w s₀ G₀ G L m ((l, lstObj (xs ++ ys) n) :: mu) s' → Q (.ref l) s') : wpAny (MD w) A (binaryOp .Add (.ref a) (.ref b)) Q E s := by
  refine PySem.P.add_list (items := xs.toArray) (items2 := ys.toArray) (n := n) (n2 := k) ha hb ?_ (by simp only [List.size_toArray]; exact Nat.le_trans hz (by decide))
  rw [show xs.toArray ++ ys.toArray = (xs ++ ys).toArray by simp]
  exact h _ _ 0 C.push
theorem R_newT {vs : List Value} {Q : Value → Shared → Prop} (C : Cx [] w s₀ G₀ G L m mu s) (hz : vs.length ≤ 2000) (h : ∀ t s' G', G.le G' → TupAt G' t vs → Cx [] w s₀ G₀ G' L m mu s' → Q (.ref t) s') : wpAny (MD w) A (newTuple vs) Q E s :=
  wpAny_newTuple (h _ _ _ (Km.put_le (C.wd.newAt (Nat.le_refl _)).1) Km.put_self (C.keepNew (t := s.toks) (o := tupObj vs) (fun b o e => Heap.get?_push_of_some _ e) (Nat.le_refl _) (Heap.get?_push_size _ rfl) fun x hx => nomatch hx)) (Nat.le_trans hz (by decide))
def ListIn (G : Km) (l : Addr) (vs : List Value) : Prop := ∃ n, G l = some (lstObj vs n)
theorem leaves_sym {v : Value} {n : Str} {odd : Bool} {tk : Tok} (W : Wd w G s) (rm : Rm A 12) (hv : PyT G (.sym n) v)
   (hR : ∀ s' G' l vs, Wd w G' s' → Ps [] s G s' G' → ListIn G' l vs → LvsAt G' vs (lv odd (.sym n)) → R (.ok (.ret (.ref l))) s') : codeAny (MD w) A (.call (.ref 627) ⟨[v, .int (oI odd) tk], []⟩) R s := by
  unfold PyT at hv
  obtain ⟨p, t1, t2, rfl, hp⟩ := hv
  refine R_enter [(Str.ofString "odd", .int (oI odd) tk), (Str.ofString "tree", .ref p)] (k := 11) (st := stAt 21) (qual := "_law_leaves") (cl := []) (dV := .none) (pm := .str "law_bp5003_02" 963) (cdv := .ref 626) (ct := .none) (by kernel_rfl) (by k_is) W rm (BindsTo.of_eq rfl) (by decide) (by rfl) rfl rfl rfl rfl fun L s1 C rm' => ?_
  repeat walk1
  refine R_newT (by assumption) (by simp) fun tp s2 G2 le2 ht2 C2 => ?_
  repeat walk1
  refine R_newL (by assumption) (by simp) fun la s3 n3 C3 => ?_
  have hput := Km.put_le (o := lstObj [.ref tp] n3) (C3.new la (by simp)).2.1
  have C4 := C3.freeze (by simp)
  exact hR _ _ _ _ C4.wd C4.ps ⟨n3, Km.put_self⟩ ⟨⟨tp, _, _, rfl, ht2.mono hput⟩, trivial⟩
theorem leaves_cst {v : Value} {b odd : Bool} {tk : Tok} (W : Wd w G s) (rm : Rm A 12) (hv : PyT G (.cst b) v)
   (hR : ∀ s' G' l vs, Wd w G' s' → Ps [] s G s' G' → ListIn G' l vs → LvsAt G' vs (lv odd (.cst b)) → R (.ok (.ret (.ref l))) s') : codeAny (MD w) A (.call (.ref 627) ⟨[v, .int (oI odd) tk], []⟩) R s := by
  unfold PyT at hv
  obtain ⟨p, t1, q, rfl, hp⟩ := hv
  refine R_enter [(Str.ofString "odd", .int (oI odd) tk), (Str.ofString "tree", .ref p)] (k := 11) (st := stAt 21) (qual := "_law_leaves") (cl := []) (dV := .none) (pm := .str "law_bp5003_02" 963) (cdv := .ref 626) (ct := .none) (by kernel_rfl) (by k_is) W rm (BindsTo.of_eq rfl) (by decide) (by rfl) rfl rfl rfl rfl fun L s1 C rm' => ?_
  have fin : ∀ {i : Int} {t1 t2 : Tok} {m : List (Str × Value)} {s2 : Shared}, i = oI (b != odd) → Cx [] w s G G L m [] s2 → wpAny (MD w) (A.deeper (envX "_law_leaves" (fnScope (stAt 21)) L 627 (.ref 626) [])) (newTuple [.str (Str.ofString "") t1, .int i t2]) (fun v s3 => ∃ G3 tp t1 t2, v = .ref tp ∧ G.le G3 ∧ TupAt G3 tp [.str (Str.ofString "") t1, .int (oI (b != odd)) t2] ∧ Cx [] w s G G3 L m [] s3) (fun _ _ => False) s2 := fun {i t1 t2 m s2} e C2 => by
    subst e
    exact R_newT C2 (by simp) fun tp s3 G3 le3 ht3 C3 => ⟨G3, tp, _, _, rfl, le3, ht3, C3⟩
  cases b <;> cases odd
  all_goals
    simp only [if_true, if_false, Bool.false_eq_true] at hp
    repeat walk1
    refine wpAny_mono (fin (by decide) (Cx.toks (by assumption) _)) (fun y s3 h => ?_) fun _ _ e => e.elim
    obtain ⟨G2, tp, u1, u2, rfl, le2, ht2, C2⟩ := h
    repeat walk1
    refine R_newL (by assumption) (by simp) fun la s3 n3 C3 => ?_
    have hput := Km.put_le (o := lstObj [.ref tp] n3) (C3.new la (by simp)).2.1
    have C4 := C3.freeze (by simp)
    exact hR _ _ _ _ C4.wd C4.ps ⟨n3, Km.put_self⟩ ⟨⟨tp, _, _, rfl, ht2.mono hput⟩, trivial⟩
-- the contract of _law_leaves
def LeafP (w : World) (n : Nat) (G : Km) (t : Tr) (v : Value) : Prop := ∀ (odd : Bool) (i : Int) (tk : Tok) (A : Around) (R : Result → Shared → Prop) (s : Shared) (G' : Km), i = oI odd → Wd w G' s → G.le G' → Rm A n →
  (∀ s' G'' l vs, Wd w G'' s' → Ps [] s G' s' G'' → ListIn G'' l vs → LvsAt G'' vs (lv odd t) → R (.ok (.ret (.ref l))) s') → codeAny (MD w) A (.call (.ref 627) ⟨[v, .int i tk], []⟩) R s
def LvJ (odd : Bool) (ts : List Tr) (ov tv : Value) (i : Nat) (G : Km) (m : List (Str × Value)) (mu : List (Addr × Obj)) : Prop :=
  m.lookup (Str.ofString "odd") = some ov ∧ m.lookup (Str.ofString "tree") = some tv ∧ mu = [] ∧ ∃ fl vs, m.lookup (Str.ofString "found") = some (.ref fl) ∧ ListIn G fl vs ∧ LvsAt G vs (lvs odd (ts.take i))
theorem lvs_snoc {odd : Bool} {ts : List Tr} {i : Nat} {t : Tr} (h : ts[i]? = some t) : lvs odd (ts.take (i + 1)) = lvs odd (ts.take i) ++ lv odd t := by
  rw [List.take_add_one, h, lvs_append]
  congr 1
  show lvs odd [t] = _
  rw [lvs, lvs, List.append_nil]
theorem lvs_len (odd : Bool) (ts : List Tr) (i : Nat) : (lvs odd (ts.take i)).length ≤ (lvs odd ts).length := by
  have h := congrArg List.length (lvs_append odd (ts.take i) (ts.drop i))
  rw [List.take_append_drop, List.length_append] at h
  omega
theorem leaves_grp {v : Value} {ts : List Tr} {odd : Bool} {tk : Tok} {n : Nat} (W : Wd w G s) (rm : Rm A (n + 1)) (hv : PyT G (.grp ts) v) (hz : (lvs odd ts).length ≤ 1000) (ih : ∀ t ∈ ts, ∀ u, PyT G t u → LeafP w n G t u)
   (hR : ∀ s' G' l vs, Wd w G' s' → Ps [] s G s' G' → ListIn G' l vs → LvsAt G' vs (lv odd (.grp ts)) → R (.ok (.ret (.ref l))) s') : codeAny (MD w) A (.call (.ref 627) ⟨[v, .int (oI odd) tk], []⟩) R s := by
  have hlv : lv odd (.grp ts) = lvs odd ts := by rw [lv]
  rw [hlv] at hR
  unfold PyT at hv
  obtain ⟨p, t1, q, us, rfl, hp, hq, hu⟩ := hv
  refine R_enter [(Str.ofString "odd", .int (oI odd) tk), (Str.ofString "tree", .ref p)] (k := n) (st := stAt 21) (qual := "_law_leaves") (cl := []) (dV := .none) (pm := .str "law_bp5003_02" 963) (cdv := .ref 626) (ct := .none) (by kernel_rfl) (by k_is) W rm (BindsTo.of_eq rfl) (by decide) (by rfl) rfl rfl rfl rfl fun L s1 C rm' => ?_
  repeat walk1
  refine R_newL (by assumption) (by simp) fun la s3 n3 C3 => ?_
  have hput := Km.put_le (o := lstObj [] n3) (C3.new la (by simp)).2.1
  have hla : ListIn (G.put la (lstObj [] n3)) la [] := ⟨n3, Km.put_self⟩
  have C4 := C3.freeze (by simp)
  clear C3
  generalize G.put la (lstObj [] n3) = G4 at *
  replace hp := hp.mono hput
  replace hq := hq.mono hput
  repeat walk1
  refine wpAny_For ?_
  repeat walk1
  refine R_iterT (by assumption) hq fun I s10 o10 ho10 C10 => ?_
  refine R_forT (t := q) (vs := us) (LvJ odd ts (.int (oI odd) tk) (.ref p))
      rm'.1 C10 ho10 hq (by rfl) (by rfl) ⟨by walk_at "m_lk", by walk_at "m_lk", rfl, la, [], by walk_at "m_lk", hla, by rw [List.take_zero, lvs]; trivial⟩ ?_ ?_
  · intro i v G5 m5 mu5 s5 o5 E5 hv le5 ⟨ko, kt, e2, fl, vs, k2, hfl, hvs⟩ ho5 C5
    subst e2
    obtain ⟨t, hi, hut⟩ := hu.get hv
    replace hp := hp.mono le5
    have hle : G.le G5 := C5.ps.le
    have hsn := lvs_snoc (odd := odd) hi
    have hln := lvs_len odd ts (i + 1)
    rw [hsn, List.length_append] at hln
    repeat walk1
    refine wpAny_call (ih t (List.mem_iff_getElem?.mpr ⟨i, hi⟩) v hut odd (oI odd) _ _ _ _ G5 rfl (Cx.wd (by assumption)) hle rm' fun s6 G6 l6 ws W6 P6 hl6 hw6 => ?_)
    have C6 := Cx.after (by assumption) W6 P6
    replace hfl : ListIn G6 fl vs := let ⟨n, h⟩ := hfl; ⟨n, P6.le _ _ h⟩
    replace hvs := hvs.mono P6.le
    obtain ⟨na, hna⟩ := id hfl
    obtain ⟨nb, hnb⟩ := id hl6
    repeat walk1
    refine R_addL C6 (C6.get hna) (C6.get hnb) (by rw [hvs.len, hw6.len]; omega) fun l7 s7 n7 C7 => ?_
    have hput := Km.put_le (o := lstObj (vs ++ ws) n7) (C7.new l7 (by simp)).2.1
    have hl7 : ListIn (G6.put l7 (lstObj (vs ++ ws) n7)) l7 (vs ++ ws) := ⟨n7, Km.put_self⟩
    have hw7 : LvsAt (G6.put l7 (lstObj (vs ++ ws) n7)) (vs ++ ws) (lvs odd (ts.take (i + 1))) := hsn ▸ (hvs.append hw6).mono hput
    have C8 := C7.freeze (by simp)
    have le8 : G5.le (G6.put l7 (lstObj (vs ++ ws) n7)) := P6.le.trans hput
    clear C7 C6
    repeat walk1
    refine ⟨_, _, _, ?_, le8, by assumption⟩
    exact ⟨by walk_at "m_lk", by walk_at "m_lk", rfl, l7, _, by walk_at "m_lk", hl7, hw7⟩
  · intro G5 m5 mu5 s5 E5 ⟨ko, kt, e2, fl, vs, k2, hfl, hvs⟩ le5 C5
    subst e2
    rw [hu.len, List.take_length] at hvs
    repeat walk1
    exact hR _ _ _ _ (Cx.wd (by assumption)) (Cx.ps (by assumption)) hfl hvs
theorem leaves_not {v : Value} {t0 : Tr} {odd : Bool} {tk : Tok} {n : Nat} (W : Wd w G s) (rm : Rm A (n + 1)) (hv : PyT G (.not t0) v) (hz : (lvs (!odd) [t0]).length ≤ 1000) (ih : ∀ u, PyT G t0 u → LeafP w n G t0 u)
   (hR : ∀ s' G' l vs, Wd w G' s' → Ps [] s G s' G' → ListIn G' l vs → LvsAt G' vs (lv odd (.not t0)) → R (.ok (.ret (.ref l))) s') : codeAny (MD w) A (.call (.ref 627) ⟨[v, .int (oI odd) tk], []⟩) R s := by
  have hlv : lv odd (.not t0) = lvs (!odd) [t0] := by rw [lv, lvs, lvs, List.append_nil]
  rw [hlv] at hR
  unfold PyT at hv
  obtain ⟨p, t1, q, u0, rfl, hp, hq, hu0⟩ := hv
  have hu : PyTs G [t0] [u0] := by unfold PyTs; exact ⟨u0, [], rfl, hu0, by unfold PyTs; rfl⟩
  refine R_enter [(Str.ofString "odd", .int (oI odd) tk), (Str.ofString "tree", .ref p)] (k := n) (st := stAt 21) (qual := "_law_leaves") (cl := []) (dV := .none) (pm := .str "law_bp5003_02" 963) (cdv := .ref 626) (ct := .none) (by kernel_rfl) (by k_is) W rm (BindsTo.of_eq rfl) (by decide) (by rfl) rfl rfl rfl rfl fun L s1 C rm' => ?_
  repeat walk1
  refine R_newL (by assumption) (by simp) fun la s3 n3 C3 => ?_
  have hput := Km.put_le (o := lstObj [] n3) (C3.new la (by simp)).2.1
  have hla : ListIn (G.put la (lstObj [] n3)) la [] := ⟨n3, Km.put_self⟩
  have C4 := C3.freeze (by simp)
  clear C3
  generalize G.put la (lstObj [] n3) = G4 at *
  replace hp := hp.mono hput
  replace hq := hq.mono hput
  repeat walk1
  refine wpAny_For ?_
  repeat walk1
  refine R_iterT (by assumption) hq fun I s10 o10 ho10 C10 => ?_
  refine R_forT (t := q) (vs := [u0]) (LvJ (!odd) [t0] (.int (oI odd) tk) (.ref p))
      rm'.1 C10 ho10 hq (by rfl) (by rfl) ⟨by walk_at "m_lk", by walk_at "m_lk", rfl, la, [], by walk_at "m_lk", hla, by rw [List.take_zero, lvs]; trivial⟩ ?_ ?_
  · intro i v G5 m5 mu5 s5 o5 E5 hv le5 ⟨ko, kt, e2, fl, vs, k2, hfl, hvs⟩ ho5 C5
    subst e2
    obtain ⟨t, hi, hut⟩ := hu.get hv
    replace hp := hp.mono le5
    have hle : G.le G5 := C5.ps.le
    have ht0 : t = t0 := by
      cases i with
      | zero => cases hi; rfl
      | succ i => simp at hi
    subst ht0
    have hodd : (1 : Int) - oI odd = oI (!odd) := by cases odd <;> rfl
    have hsn := lvs_snoc (odd := !odd) hi
    have hln := lvs_len (!odd) [t] (i + 1)
    rw [hsn, List.length_append] at hln
    repeat walk1
    refine wpAny_call (ih v hut (!odd) (1 - oI odd) _ _ _ _ G5 hodd (Cx.wd (Cx.toks (by assumption) _)) hle rm' fun s6 G6 l6 ws W6 P6 hl6 hw6 => ?_)
    have C6 := Cx.after (Cx.toks (by assumption) _) W6 P6
    replace hfl : ListIn G6 fl vs := let ⟨n, h⟩ := hfl; ⟨n, P6.le _ _ h⟩
    replace hvs := hvs.mono P6.le
    obtain ⟨na, hna⟩ := id hfl
    obtain ⟨nb, hnb⟩ := id hl6
    repeat walk1
    refine R_addL C6 (C6.get hna) (C6.get hnb) (by rw [hvs.len, hw6.len]; omega) fun l7 s7 n7 C7 => ?_
    have hput := Km.put_le (o := lstObj (vs ++ ws) n7) (C7.new l7 (by simp)).2.1
    have hl7 : ListIn (G6.put l7 (lstObj (vs ++ ws) n7)) l7 (vs ++ ws) := ⟨n7, Km.put_self⟩
    have hw7 : LvsAt (G6.put l7 (lstObj (vs ++ ws) n7)) (vs ++ ws) (lvs (!odd) ([t].take (i + 1))) := hsn ▸ (hvs.append hw6).mono hput
    have C8 := C7.freeze (by simp)
    have le8 : G5.le (G6.put l7 (lstObj (vs ++ ws) n7)) := P6.le.trans hput
    clear C7 C6
    repeat walk1
    refine ⟨_, _, _, ?_, le8, by assumption⟩
    exact ⟨by walk_at "m_lk", by walk_at "m_lk", rfl, l7, _, by walk_at "m_lk", hl7, hw7⟩
  · intro G5 m5 mu5 s5 E5 ⟨ko, kt, e2, fl, vs, k2, hfl, hvs⟩ le5 C5
    subst e2
    have hvs : LvsAt G5 vs (lvs (!odd) [t0]) := hvs
    repeat walk1
    exact hR _ _ _ _ (Cx.wd (by assumption)) (Cx.ps (by assumption)) hfl hvs
mutual
def Tr.wt : Tr → Nat
  | .sym _ => 1
  | .cst _ => 1
  | .not t => t.wt
  | .grp ts => wts ts
def wts : List Tr → Nat
  | [] => 0
  | t :: ts => t.wt + wts ts
end
mutual
theorem lv_len : ∀ (odd : Bool) (t : Tr), (lv odd t).length = t.wt
  | odd, .sym n => by rw [lv, Tr.wt]; rfl
  | odd, .cst b => by rw [lv, Tr.wt]; rfl
  | odd, .not t => by rw [lv, Tr.wt, lv_len]
  | odd, .grp ts => by rw [lv, Tr.wt, lvs_wt]
theorem lvs_wt : ∀ (odd : Bool) (ts : List Tr), (lvs odd ts).length = wts ts
  | odd, [] => by rw [lvs, wts]; rfl
  | odd, t :: ts => by rw [lvs, wts, List.length_append, lv_len, lvs_wt]
end
theorem wts_mem : ∀ {ts : List Tr} {t : Tr}, t ∈ ts → t.wt ≤ wts ts
  | t :: ts, u, hu => by
    rw [wts]
    rcases List.mem_cons.mp hu with rfl | hu
    · exact Nat.le_add_right ..
    · exact Nat.le_trans (wts_mem hu) (Nat.le_add_left ..)
theorem leaves_all : ∀ (z : Nat) (t : Tr) (v : Value) (G : Km), sizeOf t < z → t.wt ≤ 1000 → PyT G t v → LeafP w (20 + t.dep) G t v := by
  intro z
  induction z with
  | zero => intro t v G h; exact absurd h (Nat.not_lt_zero _)
  | succ z ih =>
    intro t v G hz hw hv odd i tk A R s G2 hi W le rm hR
    subst hi
    replace hv := hv.mono le
    cases t with
    | sym n => exact leaves_sym W (rm.le (by omega)) hv hR
    | cst b => exact leaves_cst W (rm.le (by omega)) hv hR
    | not t =>
      have hd : (Tr.not t).dep = t.dep + 1 := by rw [Tr.dep]
      rw [hd] at rm
      rw [Tr.wt] at hw
      simp only [Tr.not.sizeOf_spec] at hz
      exact leaves_not (n := 20 + t.dep) W rm hv (by rw [lvs_wt, wts, wts]; omega) (fun u hu => ih t u G2 (by omega) hw hu) hR
    | grp ts =>
      have hd : (Tr.grp ts).dep = deps ts + 1 := by rw [Tr.dep]
      rw [hd] at rm
      rw [Tr.wt] at hw
      simp only [Tr.grp.sizeOf_spec] at hz
      have ih2 : ∀ t ∈ ts, ∀ u, PyT G2 t u → LeafP w (20 + deps ts) G2 t u := fun t ht u hu odd i tk A R s G3 hi W le rm hR =>
        ih t u G2 (by have := List.sizeOf_lt_of_mem ht; omega) (Nat.le_trans (wts_mem ht) hw) hu odd i tk A R s G3 hi W le (rm.le (by have := deps_mem ht; omega)) hR
      exact leaves_grp (n := 20 + deps ts) W rm hv (by rw [lvs_wt]; exact hw) ih2 hR
end
-- part C31
section
variable {X : List Addr} {w : World} {s₀ s s' : Shared} {G₀ G G' : Km} {L : Addr} {m m' : List (Str × Value)} {mu : List (Addr × Obj)} {A : Around} {E : Value → Shared → Prop} {R : Result → Shared → Prop}
abbrev lawEnv (L : Addr) : Env := envX "law" (fnScope (stAt 22)) L 632 (.ref 631) (cellsFrom (L + 1) (fnScope (stAt 22)).names [])
theorem law_enter {v : Value} {k : Nat} (W : Wd w G s) (rm : Rm A (k + 1))
    (h : ∀ L s' c oc, Cx [] w s G G L [(Str.ofString "script", v)] [(c, oc)] s' → oc.data = .cell none → (cellsFrom (L + 1) (fnScope (stAt 22)).names []).lookup (Str.ofString "kept") = some c → Rm (A.deeper (lawEnv L)) k →
      wpAny (MD w) (A.deeper (lawEnv L)) (execs (fnBody (stAt 22)) (lawEnv L)) (fun fl s'' => R (.ok (.ret (match fl with | .ret v => v | _ => .none))) s'') (fun _ _ => False) s') : codeAny (MD w) A (.call (.ref 632) ⟨[v], []⟩) R s := by
  refine codeAny_call_cells (fd := fnAt (stAt 22) "law" [] .none (.str "law_bp5003_02" 963) (.ref 631) .none) (body := fnBody (stAt 22)) rm.depth (W.inn 632 (fnObj (stAt 22) "law" [] .none (.str "law_bp5003_02" 963) (.ref 631) .none) (by kernel_rfl)) rfl W.nolimit (codeRec_of W.inn (by k_is)) rfl (binds := [(Str.ofString "script", v)]) rfl rfl (fun x hx => by rw [List.mem_singleton.mp hx]; exact .inl rfl) (fun s₁ I => ?_) rfl rfl rfl
  obtain ⟨⟨⟨h₁, t₁, rfl⟩, hns, hkeep, hfr⟩, hcell, hap, hab⟩ := I
  have hL : (callEnvC (fnAt (stAt 22) "law" [] .none (.str "law_bp5003_02" 963) (.ref 631) .none) s.heap.objs.size 632).locals = s.heap.objs.size := rfl
  have hcs : (callEnvC (fnAt (stAt 22) "law" [] .none (.str "law_bp5003_02" 963) (.ref 631) .none) s.heap.objs.size 632).cells = cellsFrom (s.heap.objs.size + 1) (fnScope (stAt 22)).names [] := rfl
  rw [hcs] at hcell hap hab
  rw [hL] at hns hab
  generalize hLL : s.heap.objs.size = L at *
  have hlk : (cellsFrom (L + 1) (fnScope (stAt 22)).names []).lookup (Str.ofString "kept") = some (L + 1) := by rfl
  obtain ⟨oc, hoc, hdc⟩ := hcell (Str.ofString "kept") (L + 1) hlk
  have Llt : L < h₁.objs.size := let ⟨_, _, _, h, _⟩ := hns; Heap.lt_size h
  have nL := W.newAt (a := L) (by rw [hLL]; exact Nat.le_refl _)
  have nC := W.newAt (a := L + 1) (by rw [hLL]; exact Nat.le_succ _)
  have C : Cx [] w s G G L [(Str.ofString "script", v)] [(L + 1, oc)] { s with heap := h₁, toks := t₁ } := by
    refine ⟨⟨fun b o e => hkeep _ _ (W.keep b o e), W.kin, fun P hP => let ⟨ps, e, r⟩ := W.tabs P hP; ⟨ps, hkeep _ _ e, r⟩, W.off, W.bare⟩,
      ⟨⟨fun b o e _ _ => hkeep b o e, fun P hP ps e => ⟨#[], by rw [Array.append_empty]; exact hkeep _ _ e⟩, by rw [hLL]; exact Nat.le_of_lt Llt, rfl, rfl, Nat.le_refl _⟩, Km.le.refl G, fun b e n => absurd e n⟩,
      ⟨_, hns, fun x u e => ?_⟩, fun p hp => ?_, ?_, fun a ha => ?_, by rw [hLL]; exact Nat.le_refl _⟩
    · have := mem_of_lookup e
      rw [List.mem_singleton] at this
      cases this
      rfl
    · rw [List.mem_singleton.mp hp]; exact hoc
    · simp
    · simp only [List.map_cons, List.map_nil, List.mem_cons, List.not_mem_nil, or_false] at ha
      rcases ha with rfl | rfl
      · exact ⟨.inl (by rw [hLL]; exact Nat.le_refl _), nL⟩
      · exact ⟨.inl (by rw [hLL]; exact Nat.le_succ _), nC⟩
  refine wpAny_mono (h L _ (L + 1) oc C ?_ hlk rm.deeper) (fun _ _ z => z) fun _ _ z => z.elim
  rw [hdc]; rfl
-- the cell's one store
theorem R_storeCell {x : Str} {v : Value} {c : Addr} {oc : Obj} {env : Env} {Q : Unit → Shared → Prop} (C : Cx X w s₀ G₀ G L m ((c, oc) :: mu) s) (hX : c ∉ X) (hc : env.cells.lookup x = some c) (hd : oc.data = .cell none)
    (h : ∀ s' G', G.le G' → CellAt G' c v → Cx X w s₀ G₀ G' L m mu s' → Q () s') (hk : env.scope.kind = .function) (hl : env.kindOf x = some .cell) : wpAny (MD w) A (storeName env x v) Q E s := by
  refine wpAny_storeName_cell (v₀ := none) hk hl hc ⟨oc, C.st _ (.head _), hd⟩ fun h' ⟨o', ho', hd'⟩ hs => ?_
  have C1 := C.upd0 (t := s.toks) hs ho'
  have hput := Km.put_le (o := o') (C1.new c (by simp)).2.1
  exact h _ _ hput ⟨o', Km.put_self, hd'⟩ (C1.freeze hX)
-- slices of lists
def pickL (xs : List Value) (lo hi : Option Int) : List Value := (slicePick xs.toArray lo hi none).toList
theorem R_sliceN {x : Str} {xp p pos : Pos} {env : Env} {lower upper : Option Expr} {l : Addr} {xs : List Value} {n : Nat} {lo hi : Option Int} {Q : Value → Shared → Prop} (C : Cx X w s₀ G₀ G env.locals m mu s) (hx : m.lookup x = some (.ref l)) (hl : ∀ s', Cx X w s₀ G₀ G env.locals m mu s' → s'.heap.get? l = some (lstObj xs n)) (hz : xs.length ≤ 2000)
    (hlo : ∀ s1 (Q' : Value → Shared → Prop), Cx X w s₀ G₀ G env.locals m mu s1 → (∀ v s2, IsPart v lo → Cx X w s₀ G₀ G env.locals m mu s2 → Q' v s2) → wpAny (MD w) A (evalPart lower env) Q' E s1)
    (hhi : ∀ s1 (Q' : Value → Shared → Prop), Cx X w s₀ G₀ G env.locals m mu s1 → (∀ v s2, IsPart v hi → Cx X w s₀ G₀ G env.locals m mu s2 → Q' v s2) → wpAny (MD w) A (evalPart upper env) Q' E s1)
    (h : ∀ l' s' n', Cx X w s₀ G₀ G env.locals m ((l', lstObj (pickL xs lo hi) n') :: mu) s' → Q (.ref l') s')
    (hk : env.scope.kind = .function) (hkl : env.kindOf x = some .local) (hd : (x == ("__debug__" : Str)) = false) (ht : ∀ o r, letTemporaryGo (.Name x xp) o r = pure () := by intro _ _; rfl) :
    wpAny (MD w) A (eval (.Subscript (.Name x xp) (.Slice lower upper none p) pos) env) Q E s := by
  refine wpAny_Subscript_list_slice (R_local C hx ?_ hk hkl hd) ht
  refine hlo _ _ C fun vl s2 pl C2 => hhi _ _ C2 fun vu s3 pu C3 => ?_
  refine ⟨l, xs.toArray, lo, hi, rfl, ⟨_, hl s3 C3, rfl, n, rfl⟩, by rw [List.size_toArray]; exact Nat.le_trans hz (by decide), pl, pu, ?_⟩
  have C4 := C3.push (o := { cls := .type "slice", data := .fields #[vl, vu, .none] })
  have C5 := C4.push (o := { cls := .type "list", data := .seq (slicePick xs.toArray lo hi none) })
  have e : (s3.heap.push { cls := .type "slice", data := .fields #[vl, vu, .none] }).objs.size = s3.heap.objs.size + 1 := Heap.size_push ..
  simp only [e] at C5
  refine h _ _ 0 (Cx.subMu C5 (fun p hp => ?_) ?_)
  · rcases List.mem_cons.mp hp with rfl | hp
    · show (_, (⟨.type "list", none, .seq (slicePick xs.toArray lo hi none).toList.toArray 0, #[]⟩ : Obj)) ∈ _
      rw [Array.toArray_toList]
      exact .head _
    · exact .tail _ (.tail _ hp)
  · have nd := (List.nodup_cons.mp C5.nd).2
    simp only [List.map_cons, List.nodup_cons, List.mem_cons, not_or] at nd ⊢
    exact ⟨nd.1.2, nd.2.2⟩
theorem R_sliceT {value slice : Expr} {l : Addr} {xs : List Value} {n : Nat} {vl vu : Value} {lo hi : Option Int} {Q : Value → Shared → Prop} (C : Cx X w s₀ G₀ G L m mu s) (hl : s.heap.get? l = some (lstObj xs n)) (hz : xs.length ≤ 2000) (pl : IsPart vl lo) (pu : IsPart vu hi)
    (h : ∀ l' s' n', Cx X w s₀ G₀ G L m ((l', lstObj (pickL xs lo hi) n') :: mu) s' → Q (.ref l') s')
    (hs : subscripted slice false (.ref l) (.ref s.heap.objs.size) = operate [.ref s.heap.objs.size, .ref l] (getItem (.ref l) (.ref s.heap.objs.size)) := by with_unfolding_all rfl)
    (ht : ∀ r, letTemporaryGo value (.ref l) r = pure () := by intro _; with_unfolding_all rfl) :
    wpAny (MD w) A (subscriptTail value slice (.ref l) (.ref s.heap.objs.size)) Q E { s with heap := s.heap.push { cls := .type "slice", data := .fields #[vl, vu, .none] } } := by
  have hl' : s.heap.IsList l xs.toArray := ⟨_, hl, rfl, n, rfl⟩
  refine subscriptTail_ops (Heap.IsList.typeIs (s := { s with heap := s.heap.push { cls := .type "slice", data := .fields #[vl, vu, .none] } }) (hl'.push _)) list_getitem_lookup
    (wpAny_getItem_list_slice (hl'.push _) (Heap.IsSliceOf.new ..) pl pu .none (by simp) ?_ (by rw [List.size_toArray]; exact Nat.le_trans hz (by decide))) hs ht
  have C4 := C.push (o := { cls := .type "slice", data := .fields #[vl, vu, .none] })
  have C5 := C4.push (o := { cls := .type "list", data := .seq (slicePick xs.toArray lo hi none) })
  have e : (s.heap.push { cls := .type "slice", data := .fields #[vl, vu, .none] }).objs.size = s.heap.objs.size + 1 := Heap.size_push ..
  simp only [e] at C5
  show Q (.ref (s.heap.push _).objs.size) _
  rw [e]
  refine h _ _ 0 (Cx.subMu C5 (fun p hp => ?_) ?_)
  · rcases List.mem_cons.mp hp with rfl | hp
    · show (_, (⟨.type "list", none, .seq (slicePick xs.toArray lo hi none).toList.toArray 0, #[]⟩ : Obj)) ∈ _
      rw [Array.toArray_toList]
      exact .head _
    · exact .tail _ (.tail _ hp)
  · have nd := (List.nodup_cons.mp C5.nd).2
    simp only [List.map_cons, List.nodup_cons, List.mem_cons, not_or] at nd ⊢
    exact ⟨nd.1.2, nd.2.2⟩
theorem Cx.keep2 {a b c d e f : Addr × Obj} (C : Cx X w s₀ G₀ G L m (a :: b :: c :: d :: e :: f :: mu) s) : Cx X w s₀ G₀ G L m (e :: a :: mu) s := by
  refine C.subMu (fun p hp => ?_) ?_
  · rcases List.mem_cons.mp hp with rfl | hp
    · simp
    · rcases List.mem_cons.mp hp with rfl | hp
      · simp
      · simp [hp]
  · have nd := (List.nodup_cons.mp C.nd).2
    simp only [List.map_cons, List.nodup_cons, List.mem_cons, not_or] at nd ⊢
    exact ⟨⟨fun h => nd.1.2.2.2.1 h.symm, nd.2.2.2.2.1.2⟩, nd.1.2.2.2.2.2, nd.2.2.2.2.2.2⟩
theorem Cx.swap3 {a b c : Addr × Obj} (C : Cx X w s₀ G₀ G L m (a :: b :: c :: mu) s) : Cx X w s₀ G₀ G L m (a :: c :: b :: mu) s := by
  refine C.subMu (fun p hp => by simp only [List.mem_cons] at hp ⊢; rcases hp with h | h | h | h <;> simp [h]) ?_
  have nd := (List.nodup_cons.mp C.nd).2
  simp only [List.map_cons, List.nodup_cons, List.mem_cons, not_or] at nd ⊢
  exact ⟨⟨nd.1.2.1, nd.1.1, nd.1.2.2⟩, ⟨fun h => nd.2.1.1 h.symm, nd.2.2.1⟩, nd.2.1.2, nd.2.2.2⟩
theorem pick_up {xs : List Value} {k : Nat} : pickL xs none (some (k : Int)) = xs.take k := by
  unfold pickL
  have e : sliceBounds none (some (k : Int)) none xs.toArray.size = (((0 : Nat) : Int), ((min k xs.toArray.size : Nat) : Int), 1) := by
    simp only [sliceBounds, Option.getD_none, show (1 : Int) > 0 by decide, if_true, if_neg (show ¬ ((k : Int) < 0) by omega)]
    congr 1
    congr 1
    omega
  rw [kmk_pick_nat _ e]
  show (xs.drop 0).take (min k xs.toArray.size - 0) = _
  rw [List.drop_zero, Nat.sub_zero, List.size_toArray, kmk_take_min]
theorem pick_head {xs : List Value} {k : Nat} (hk : 0 < k) : pickL xs none (some (-(k : Int))) = xs.take (xs.length - k) := by
  unfold pickL
  have e : sliceBounds none (some (-(k : Int))) none xs.toArray.size = (((0 : Nat) : Int), ((xs.length - k : Nat) : Int), 1) := by
    simp only [sliceBounds, Option.getD_none, show (1 : Int) > 0 by decide, if_true, if_pos (show (-(k : Int) < 0) by omega), List.size_toArray]
    congr 1
    congr 1
    omega
  rw [kmk_pick_nat _ e]
  show (xs.drop 0).take (xs.length - k - 0) = _
  rw [List.drop_zero, Nat.sub_zero]
theorem pick_tail {xs : List Value} {k : Nat} (hk : 0 < k) : pickL xs (some (-(k : Int))) none = xs.drop (xs.length - k) := by
  unfold pickL
  have e : sliceBounds (some (-(k : Int))) none none xs.toArray.size = (((xs.length - k : Nat) : Int), ((xs.length : Nat) : Int), 1) := by
    simp only [sliceBounds, Option.getD_none, show (1 : Int) > 0 by decide, if_true, if_pos (show (-(k : Int) < 0) by omega), List.size_toArray]
    congr 1
    omega
  rw [kmk_pick_nat _ e]
  show (xs.drop (xs.length - k)).take (xs.length - (xs.length - k)) = _
  rw [List.take_of_length_le (by rw [List.length_drop]; omega)]
def forBody : Stmt → List Stmt
  | .For _ _ b _ _ => b
  | _ => []
def turnBody : List Stmt := forBody ((fnBody (stAt 22)).getD 1 (.Pass ⟨0, 0, 0, 0⟩))
-- list.pop()
theorem R_popL {pre post : List (Addr × Obj)} {l : Addr} {ys : List Value} {v : Value} {n : Nat} {Q : Value → Shared → Prop} (C : Cx X w s₀ G₀ G L m (pre ++ (l, lstObj (ys ++ [v]) n) :: post) s) (hz : ys.length ≤ 1000)
    (h : ∀ s' n', Cx X w s₀ G₀ G L m (pre ++ (l, lstObj ys n') :: post) s' → Q v s') : wpAny (MD w) A (call (.builtin "list.pop") [.ref l]) Q E s := by
  have ho := C.getMu (a := l) (o := lstObj (ys ++ [v]) n) (by simp)
  refine Copied.pop_at (its := (ys ++ [v]).toArray) (n := n) (y := v) ho (by simp) (fun h' hs hg => ?_) (by simp only [List.size_toArray, List.length_append, List.length_cons, List.length_nil]; exact Nat.le_trans (Nat.succ_le_succ hz) (by decide))
  have e : (ys ++ [v]).toArray.pop = ys.toArray := by simp
  rw [e] at hg
  exact h _ (n + 1) (C.updMu (t := s.toks) hs hg)
theorem law_names (W : Wd w G s) : ∃ t1 t2 t3 t4, TupAt G 615 [.str (Str.ofString "not_b") t1, .str (Str.ofString "a.c") t2, .str (Str.ofString "Zed") t3, .str (Str.ofString "10") t4] := ⟨965, 966, 967, 968, W.kin 615 _ (by kernel_rfl)⟩
theorem PyTs.append : ∀ {ts us : List Tr} {vs ws : List Value}, PyTs G ts vs → PyTs G us ws → PyTs G (ts ++ us) (vs ++ ws)
  | [], us, vs, ws, h, k => by unfold PyTs at h; subst h; exact k
  | t :: ts, us, vs, ws, h, k => by
    unfold PyTs at h
    obtain ⟨v, vs', e, h1, h2⟩ := h
    subst e
    rw [List.cons_append, List.cons_append, PyTs]
    exact ⟨v, vs' ++ ws, rfl, h1, h2.append k⟩
theorem PyTs.take : ∀ {ts : List Tr} {vs : List Value} (k : Nat), PyTs G ts vs → PyTs G (ts.take k) (vs.take k)
  | ts, vs, 0, h => by rw [List.take_zero, List.take_zero, PyTs]
  | [], vs, k + 1, h => by unfold PyTs at h; subst h; rw [List.take_nil, List.take_nil, PyTs]
  | t :: ts, vs, k + 1, h => by
    unfold PyTs at h
    obtain ⟨v, vs', e, h1, h2⟩ := h
    subst e
    rw [List.take_succ_cons, List.take_succ_cons, PyTs]
    exact ⟨v, vs'.take k, rfl, h1, h2.take k⟩
theorem PyTs.drop : ∀ {ts : List Tr} {vs : List Value} (k : Nat), PyTs G ts vs → PyTs G (ts.drop k) (vs.drop k)
  | ts, vs, 0, h => h
  | [], vs, k + 1, h => by unfold PyTs at h; subst h; rw [List.drop_nil, List.drop_nil, PyTs]
  | t :: ts, vs, k + 1, h => by
    unfold PyTs at h
    obtain ⟨v, vs', e, h1, h2⟩ := h
    subst e
    rw [List.drop_succ_cons, List.drop_succ_cons]
    exact h2.drop k
theorem PyTs.one {t : Tr} {v : Value} (h : PyT G t v) : PyTs G [t] [v] := by rw [PyTs]; exact ⟨v, [], rfl, h, by rw [PyTs]⟩
theorem oks_append : ∀ {ts us : List Tr}, oks ts → oks us → oks (ts ++ us)
  | [], _, _, k => k
  | t :: ts, us, h, k => by
    unfold oks at h
    rw [List.cons_append, oks]
    exact ⟨h.1, oks_append h.2 k⟩
theorem oks_of : ∀ {ts : List Tr}, (∀ t ∈ ts, t.ok) → oks ts
  | [], _ => by rw [oks]; trivial
  | t :: ts, h => by rw [oks]; exact ⟨h t (.head _), oks_of fun u hu => h u (.tail _ hu)⟩
theorem deps_append : ∀ {ts us : List Tr}, deps (ts ++ us) = max (deps ts) (deps us)
  | [], us => by rw [List.nil_append, deps, Nat.zero_max]
  | t :: ts, us => by rw [List.cons_append, deps, deps, deps_append, Nat.max_assoc]
theorem deps_le : ∀ {ts : List Tr} {d : Nat}, (∀ t ∈ ts, t.dep ≤ d) → deps ts ≤ d
  | [], d, _ => by rw [deps]; exact Nat.zero_le _
  | t :: ts, d, h => by rw [deps]; exact Nat.max_le.mpr ⟨h t (.head _), deps_le fun u hu => h u (.tail _ hu)⟩
theorem wts_append : ∀ {ts us : List Tr}, wts (ts ++ us) = wts ts + wts us
  | [], us => by rw [List.nil_append, wts, Nat.zero_add]
  | t :: ts, us => by rw [List.cons_append, wts, wts, wts_append, Nat.add_assoc]
structure Stk (G : Km) (ts : List Tr) (vs : List Value) (d : Nat) : Prop where
  py : PyTs G ts vs
  ok : oks ts
  dep : deps ts ≤ d + 1
  wt : wts ts ≤ d
  len : ts.length ≤ d
theorem Stk.mono {ts : List Tr} {vs : List Value} {d : Nat} (h : G.le G') (x : Stk G ts vs d) : Stk G' ts vs d := ⟨x.py.mono h, x.ok, x.dep, x.wt, x.len⟩
theorem Stk.up {ts : List Tr} {vs : List Value} {d : Nat} (x : Stk G ts vs d) : Stk G ts vs (d + 1) := ⟨x.py, x.ok, Nat.le_succ_of_le x.dep, Nat.le_succ_of_le x.wt, Nat.le_succ_of_le x.len⟩
theorem Stk.snoc {ts : List Tr} {vs : List Value} {d : Nat} {t : Tr} {v : Value} (x : Stk G ts vs d) (h : PyT G t v) (hok : t.ok) (hd : t.dep ≤ d + 2) (hw : t.wt ≤ 1) : Stk G (ts ++ [t]) (vs ++ [v]) (d + 1) := by
  refine ⟨x.py.append (.one h), oks_append x.ok (oks_of fun u hu => by rw [List.mem_singleton.mp hu]; exact hok), ?_, ?_, ?_⟩
  · rw [deps_append, deps, deps, Nat.max_zero]
    exact Nat.max_le.mpr ⟨Nat.le_succ_of_le x.dep, hd⟩
  · have := x.wt
    rw [wts_append, wts, wts]; omega
  · have := x.len
    rw [List.length_append]; simp; omega
-- the last one negated
theorem Stk.neg {ts : List Tr} {vs : List Value} {d : Nat} {v u : Value} (x : Stk G ts (vs ++ [v]) d) (h : ∀ t, PyT G t v → PyT G (.not t) u) : ∃ ts', Stk G ts' (vs ++ [u]) (d + 1) := by
  have hl := x.py.len
  rw [List.length_append] at hl
  have h1 := x.py.take vs.length
  have h2 := x.py.drop vs.length
  rw [List.take_left] at h1
  rw [List.drop_left] at h2
  have e : ts = ts.take vs.length ++ ts.drop vs.length := (List.take_append_drop ..).symm
  have hdl : (ts.drop vs.length).length = 1 := by rw [List.length_drop, ← hl]; simp
  generalize ts.take vs.length = t1 at *
  generalize ts.drop vs.length = t2 at *
  obtain ⟨t, rfl⟩ := one_of hdl
  subst e
  have hv : PyT G t v := by
    rw [PyTs] at h2
    obtain ⟨v', vs', e, h, _⟩ := h2
    cases e
    exact h
  have hok := x.ok
  have hdp := x.dep
  have hwt := x.wt
  have hln := x.len
  rw [deps_append, deps, deps, Nat.max_zero] at hdp
  rw [wts_append, wts, wts] at hwt
  have hok1 : oks t1 := oks_of fun u hu => oks_mem hok u (List.mem_append.mpr (.inl hu))
  have hokt : t.ok := oks_mem hok t (List.mem_append.mpr (.inr (.head _)))
  have hd1 : (Tr.not t).dep = t.dep + 1 := by rw [Tr.dep]
  have hw1 : (Tr.not t).wt = t.wt := by rw [Tr.wt]
  refine ⟨t1 ++ [.not t], h1.append (.one (h t hv)), oks_append hok1 (oks_of fun u hu => by rw [List.mem_singleton.mp hu]; unfold Tr.ok; exact hokt), ?_, ?_, ?_⟩
  · rw [deps_append, deps, deps, Nat.max_zero, hd1]
    have := Nat.max_le.mp hdp
    exact Nat.max_le.mpr ⟨by omega, by omega⟩
  · rw [wts_append, wts, wts, hw1]; omega
  · rw [List.length_append] at hln ⊢
    simp at hln ⊢; omega
-- the last few put together
theorem Stk.put {ts : List Tr} {vs : List Value} {d k : Nat} {u : Value} (x : Stk G ts vs d) (hk : 2 ≤ k) (hk3 : k ≤ 3) (hl : 2 ≤ vs.length) (h : ∀ us, PyTs G us (vs.drop (vs.length - k)) → PyT G (.grp us) u) : ∃ ts', Stk G ts' (vs.take (vs.length - k) ++ [u]) (d + 1) := by
  have hlen := x.py.len
  have h1 := x.py.take (vs.length - k)
  have h2 := x.py.drop (vs.length - k)
  have e : ts = ts.take (vs.length - k) ++ ts.drop (vs.length - k) := (List.take_append_drop ..).symm
  have hdl : (ts.drop (vs.length - k)).length = min k vs.length := by rw [List.length_drop, ← hlen]; omega
  have htl : (ts.take (vs.length - k)).length = vs.length - k := by rw [List.length_take, ← hlen]; omega
  generalize ts.take (vs.length - k) = t1 at *
  generalize ts.drop (vs.length - k) = t2 at *
  subst e
  have hok := x.ok
  have hdp := x.dep
  have hwt := x.wt
  have hln := x.len
  rw [deps_append] at hdp
  rw [wts_append] at hwt
  have hok1 : oks t1 := oks_of fun u hu => oks_mem hok u (List.mem_append.mpr (.inl hu))
  have hok2 : oks t2 := oks_of fun u hu => oks_mem hok u (List.mem_append.mpr (.inr hu))
  have hd1 : (Tr.grp t2).dep = deps t2 + 1 := by rw [Tr.dep]
  have hw1 : (Tr.grp t2).wt = wts t2 := by rw [Tr.wt]
  refine ⟨t1 ++ [.grp t2], h1.append (.one (h t2 h2)), oks_append hok1 (oks_of fun u hu => by rw [List.mem_singleton.mp hu]; unfold Tr.ok; exact ⟨by omega, by omega, hok2⟩), ?_, ?_, ?_⟩
  · rw [deps_append, deps, deps, Nat.max_zero, hd1]
    have := Nat.max_le.mp hdp
    exact Nat.max_le.mpr ⟨by omega, by omega⟩
  · rw [wts_append, wts, wts, hw1]; omega
  · rw [List.length_append] at hln ⊢
    simp only [List.length_cons, List.length_nil]; omega
end
-- part C32
section
variable {X : List Addr} {w : World} {s₀ s s' : Shared} {G₀ G G' : Km} {L : Addr} {m m' : List (Str × Value)} {mu : List (Addr × Obj)} {A : Around} {E : Value → Shared → Prop} {R : Result → Shared → Prop}
theorem law_turn {I sa : Addr} {o : Obj} {stk : List Value} {ts : List Tr} {n d : Nat} {nv : Int} {tk : Tok} {G5 : Km} {Q : Flow → Shared → Prop} {v0 : Value} (rm : Rm A 100) (C : Cx [] w s G G5 L m ((I, o) :: (sa, lstObj stk n) :: mu) s')
    (hn : m.lookup (Str.ofString "n") = some (.int nv tk)) (hst : m.lookup (Str.ofString "stack") = some (.ref sa)) (hsc : m.lookup (Str.ofString "script") = some v0) (hS : Stk G5 ts stk d) (hd : d ≤ 20)
    (hQ : ∀ s2 G2 m2 sb stk2 ts2 n2, G5.le G2 → Cx [] w s G G2 L m2 ((I, o) :: (sb, lstObj stk2 n2) :: mu) s2 → m2.lookup (Str.ofString "stack") = some (.ref sb) → m2.lookup (Str.ofString "script") = some v0 → Stk G2 ts2 stk2 (d + 1) → Q .next s2) :
    wpAny (MD w) A (execs turnBody (lawEnv L)) Q E s' := by
  have hp0 : 0 ≤ (nv.fdiv 5).fmod 10 := Int.fmod_nonneg_of_pos _ (by decide)
  have hp1 : (nv.fdiv 5).fmod 10 < 10 := Int.fmod_lt_of_pos _ (by decide)
  have hsl : stk.length ≤ 20 := by rw [hS.py.len]; have := hS.len; omega
  have hsz0 : ([] : List Value).length ≤ 2000 := by simp
  repeat walk1
  · obtain ⟨u1, u2, u3, u4, hnm⟩ := law_names C.wd
    obtain ⟨j, nm, tt, hj, hx, hnn⟩ : ∃ j nm tt, seqIndex? (((nv.fdiv 5).fmod 10).fmod 4) 4 = some j ∧ [Value.str (Str.ofString "not_b") u1, .str (Str.ofString "a.c") u2, .str (Str.ofString "Zed") u3, .str (Str.ofString "10") u4][j]? = some (.str nm tt) ∧ nm ∈ nmL := by
      have h0 : 0 ≤ ((nv.fdiv 5).fmod 10).fmod 4 := Int.fmod_nonneg_of_pos _ (by decide)
      have h1 : ((nv.fdiv 5).fmod 10).fmod 4 < 4 := Int.fmod_lt_of_pos _ (by decide)
      generalize ((nv.fdiv 5).fmod 10).fmod 4 = q at h0 h1
      have : q = 0 ∨ q = 1 ∨ q = 2 ∨ q = 3 := by omega
      rcases this with rfl | rfl | rfl | rfl
      · exact ⟨0, _, _, by decide, rfl, by decide⟩
      · exact ⟨1, _, _, by decide, rfl, by decide⟩
      · exact ⟨2, _, _, by decide, rfl, by decide⟩
      · exact ⟨3, _, _, by decide, rfl, by decide⟩
    have hq0 : 0 ≤ ((nv.fdiv 5).fmod 10).fmod 4 := Int.fmod_nonneg_of_pos _ (by decide)
    have hq1 : ((nv.fdiv 5).fmod 10).fmod 4 < 4 := Int.fmod_lt_of_pos _ (by decide)
    refine R_item (by first | assumption | exact Cx.toks (by assumption) _) hnm (j := j) (x := .str nm tt) hj hx (by omega) (by omega) ?_ (by with_unfolding_all exact rfl)
    clear hj hx hnm
    repeat walk1
    refine R_newT (by first | assumption | exact Cx.toks (by assumption) _) (by simp) fun tp s2 G2 le2 ht2 C2 => ?_
    repeat walk1
    · refine R_newT (by first | assumption | exact Cx.toks (by assumption) _) (by simp) fun tq s3 G3 le3 ht3 C3 => ?_
      repeat walk1
      refine R_newT (by first | assumption | exact Cx.toks (by assumption) _) (by simp) fun tr s4 G4 le4 ht4 C4 => ?_
      repeat walk1
      refine R_append (pre := [(I, o)]) (post := mu) (by assumption) (by rw [hS.py.len]; have := hS.len; omega) fun s5 n5 C5 => ?_
      have C5 : Cx [] w s G G4 _ _ ((I, o) :: (sa, lstObj (stk ++ [.ref tr]) n5) :: mu) s5 := C5
      have le4' : G5.le G4 := le2.trans (le3.trans le4)
      clear C2 C3 C4
      repeat walk1
      exact hQ _ G4 _ sa _ (ts ++ [.not (.sym nm)]) n5 le4' (by assumption) (by walk_at "m_lk") (by walk_at "m_lk") ((hS.mono le4').snoc (by rw [PyT]; exact ⟨tr, _, tq, .ref tp, rfl, ht4, ht3.mono le4, by rw [PyT]; exact ⟨tp, _, _, rfl, ht2.mono (le3.trans le4)⟩⟩) (by rw [Tr.ok, Tr.ok]; exact hnn) (by rw [Tr.dep, Tr.dep]; omega) (by rw [Tr.wt, Tr.wt]; omega))
    · exfalso; omega
    · repeat walk1
      refine R_append (pre := [(I, o)]) (post := mu) (by assumption) (by rw [hS.py.len]; have := hS.len; omega) fun s5 n5 C5 => ?_
      have C5 : Cx [] w s G G2 _ _ ((I, o) :: (sa, lstObj (stk ++ [.ref tp]) n5) :: mu) s5 := C5
      clear C2
      repeat walk1
      exact hQ _ G2 _ sa _ (ts ++ [.sym nm]) n5 le2 (by assumption) (by walk_at "m_lk") (by walk_at "m_lk") ((hS.mono le2).snoc (by rw [PyT]; exact ⟨tp, _, _, rfl, ht2⟩) (by rw [Tr.ok]; exact hnn) (by rw [Tr.dep]; omega) (by rw [Tr.wt]; omega))
  · repeat walk1
    obtain ⟨b, hb⟩ : ∃ b : Bool, (nv.fdiv 5).fmod 10 - 4 = if b then 5 else 4 := by
      have : (nv.fdiv 5).fmod 10 = 8 ∨ (nv.fdiv 5).fmod 10 = 9 := by omega
      rcases this with h | h
      · exact ⟨false, by rw [h]; rfl⟩
      · exact ⟨true, by rw [h]; rfl⟩
    refine R_newT (by first | assumption | exact Cx.toks (by assumption) _) (by simp) fun tp s2 G2 le2 ht2 C2 => ?_
    repeat walk1
    refine R_newT (by first | assumption | exact Cx.toks (by assumption) _) (by simp) fun tq s3 G3 le3 ht3 C3 => ?_
    rw [hb] at ht3
    clear hb
    repeat walk1
    · exfalso; omega
    · repeat walk1
      refine R_append (pre := [(I, o)]) (post := mu) (by assumption) (by rw [hS.py.len]; have := hS.len; omega) fun s5 n5 C5 => ?_
      have C5 : Cx [] w s G G3 _ _ ((I, o) :: (sa, lstObj (stk ++ [.ref tq]) n5) :: mu) s5 := C5
      have le4' : G5.le G3 := le2.trans le3
      clear C2 C3
      repeat walk1
      exact hQ _ G3 _ sa _ (ts ++ [.cst b]) n5 le4' (by assumption) (by walk_at "m_lk") (by walk_at "m_lk") ((hS.mono le4').snoc (by rw [PyT]; exact ⟨tq, _, tp, rfl, ht3⟩) (by rw [Tr.ok]; trivial) (by rw [Tr.dep]; omega) (by rw [Tr.wt]; omega))
    · exfalso; omega
  · repeat walk1
    · rcases List.eq_nil_or_concat stk with rfl | ⟨stk0, v, rfl⟩
      · refine R_truthL (vs := []) (by first | assumption | exact Cx.toks (by assumption) _) (.tail _ (.head _)) (by simp) fun s3 C3 => ?_
        repeat walk1
        exact hQ _ G5 _ sa _ ts n (Km.le.refl _) (by assumption) (by walk_at "m_lk") (by walk_at "m_lk") hS.up
      · rw [List.concat_eq_append] at *
        have hsl : stk0.length ≤ 20 := by
          have h1 := hS.py.len
          have h2 := hS.len
          rw [List.length_append] at h1
          omega
        refine R_truthL (vs := stk0 ++ [v]) (by first | assumption | exact Cx.toks (by assumption) _) (.tail _ (.head _)) (by rw [List.length_append]; simp; omega) fun s3 C3 => ?_
        have hne : (!(stk0 ++ [v]).isEmpty) = true := by cases stk0 <;> rfl
        rw [hne]
        repeat walk1
        refine R_popL (pre := [(I, o)]) (post := mu) (by first | assumption | exact Cx.toks (by assumption) _) (by omega) fun s4 n4 C4 => ?_
        have C4 : Cx [] w s G G5 _ _ ((I, o) :: (sa, lstObj stk0 n4) :: mu) s4 := C4
        repeat walk1
        refine R_newT (by first | assumption | exact Cx.toks (by assumption) _) (by simp) fun tq s5 G6 le6 ht6 C6 => ?_
        repeat walk1
        refine R_newT (by first | assumption | exact Cx.toks (by assumption) _) (by simp) fun tr s7 G7 le7 ht7 C7 => ?_
        repeat walk1
        refine R_append (pre := [(I, o)]) (post := mu) (by assumption) (by omega) fun s8 n8 C8 => ?_
        have C8 : Cx [] w s G G7 _ _ ((I, o) :: (sa, lstObj (stk0 ++ [.ref tr]) n8) :: mu) s8 := C8
        have le8 : G5.le G7 := le6.trans le7
        obtain ⟨ts', hS'⟩ := (hS.mono le8).neg (u := .ref tr) (fun t h => by rw [PyT]; exact ⟨tr, _, tq, v, rfl, ht7, ht6.mono le7, h⟩)
        clear C3 C4 C6 C7
        repeat walk1
        exact hQ _ G7 _ sa _ ts' n8 le8 (by assumption) (by walk_at "m_lk") (by walk_at "m_lk") hS'
    · repeat walk1
      · refine R_store (by first | assumption | exact Cx.toks (by assumption) _ | exact Cx.toks (Cx.toks (by assumption) _) _) (fun s4 C4 => ?_) (by rfl) (by rfl)
        obtain ⟨kk, hk, hk2, hk3⟩ : ∃ kk : Nat, 2 + ((nv.fdiv 5).fmod 10).fmod 2 = (kk : Int) ∧ 2 ≤ kk ∧ kk ≤ 3 := by
          have h0 : 0 ≤ ((nv.fdiv 5).fmod 10).fmod 2 := Int.fmod_nonneg_of_pos _ (by decide)
          have h1 : ((nv.fdiv 5).fmod 10).fmod 2 < 2 := Int.fmod_lt_of_pos _ (by decide)
          exact ⟨(2 + ((nv.fdiv 5).fmod 10).fmod 2).toNat, by omega, by omega, by omega⟩
        rw [hk] at C4
        have hl2 : 2 ≤ stk.length := by have := ‹1 < ((stk.length : Nat) : Int)›; omega
        repeat walk1
        refine R_sliceT (Cx.toks C4 _) (C4.getMu (.tail _ (.head _))) (by omega) .none (.int _ _) fun l5 s5 n5 C5 => ?_
        rw [pick_head (by omega)] at C5
        repeat walk1
        refine R_sliceT (by first | assumption | exact Cx.toks (by assumption) _) (Cx.getMu (o := lstObj stk n) (by first | assumption | exact Cx.toks (by assumption) _) (.tail _ (.tail _ (.head _)))) (by omega) (.int _ _) .none fun l6 s6 n6 C6 => ?_
        rw [pick_tail (by omega)] at C6
        repeat walk1
        refine R_tupleL C6 (.head _) (by rw [List.length_drop]; omega) fun s7 G7 tq le7 ht7 C7 => ?_
        repeat walk1
        refine R_newT (by first | assumption | exact Cx.toks (by assumption) _) (by simp) fun tr s8 G8 le8 ht8 C8 => ?_
        repeat walk1
        refine R_newL (by first | assumption | exact Cx.toks (by assumption) _) (by simp) fun l9 s9 n9 C9 => ?_
        refine R_addL C9 (C9.getMu (.tail _ (.tail _ (.head _)))) (C9.getMu (.head _)) (by rw [List.length_take]; simp; omega) fun l10 s10 n10 C10 => ?_
        have C11 := C10.keep2
        have le8' : G5.le G8 := le7.trans le8
        obtain ⟨ts', hS'⟩ := (hS.mono le8').put (u := .ref tr) hk2 hk3 hl2 (fun us h => by rw [PyT]; exact ⟨tr, _, tq, _, rfl, ht8, ht7.mono le8, h⟩)
        clear C4 C5 C6 C7 C8 C9 C10
        repeat walk1
        exact hQ _ G8 _ l10 _ ts' n10 le8' (by assumption) (by walk_at "m_lk") (by walk_at "m_lk") hS'
      · repeat walk1
        exact hQ _ G5 _ sa _ ts n (Km.le.refl _) (by assumption) (by walk_at "m_lk") (by walk_at "m_lk") hS.up
end
-- part C33
section
variable {X : List Addr} {w : World} {s₀ s s' : Shared} {G₀ G G' : Km} {L : Addr} {m m' : List (Str × Value)} {mu : List (Addr × Obj)} {A : Around} {E : Value → Shared → Prop} {R : Result → Shared → Prop}
theorem R_mul2 {l : Addr} {v : Value} {n : Nat} {u : Tok} {Q : Value → Shared → Prop} (C : Cx X w s₀ G₀ G L m mu s) (hl : (l, lstObj [v] n) ∈ mu) (h : ∀ l' s' n', Cx X w s₀ G₀ G L m ((l', lstObj [v, v] n') :: mu) s' → Q (.ref l') s') :
    wpAny (MD w) A (binaryOp .Mult (.ref l) (.int 2 u)) Q E s := by
  have ho : s.heap.get? l = some { cls := .type "list", dict := none, data := .seq [v].toArray n, slots := #[] } := C.getMu hl
  refine wpAny_binaryOp_repeat_ref (T := "list") (U := "int") (by decide) ⟨_, ho, rfl⟩ (fun s' => typeIs_int s' 2 u) noFill_list_mul F.fills_int_mul F.slot_int_rmul repeat_list F.slot_int_index.lookup
    (call_meets F.slot_int_rmul (typeIs_int s 2 u) F.entry_int_rmul (F.args_int_rmul_2 _ _) (lm_int_rmul_list_any 2 u l [v].toArray n none #[])
      ⟨ho, rfl, ⟨_, ho, rfl⟩, call_meets F.slot_list_mul ⟨_, ho, rfl⟩ F.entry_list_mul (F.args_list_mul_2 _ _)
        (lm_list_mul_any l [v].toArray n none #[] 2 u (by simp [Builtin.List.listFitsIndex]) (by simp) (by simp [Builtin.List.listTooLong, sizeLine]))
        ⟨ho, ?_⟩⟩)
  exact h _ _ 0 (C.push (o := lstObj [v, v] 0))
theorem R_sum {l : Addr} {vs : List Value} {n : Nat} {Q : Value → Shared → Prop} (hh : A.handled = none) (C : Cx X w s₀ G₀ G L m mu s) (hl : (l, lstObj vs n) ∈ mu) (hi : ∀ v ∈ vs, ∃ a t, v = .int a t) (h : ∀ S t s', Cx X w s₀ G₀ G L m mu s' → Q (.int S t) s') :
    wpAny (MD w) A (call (.builtin "sum") [.ref l]) Q E s := by
  have hall : AllInts vs.toArray := fun v hv => hi v (by simpa using hv)
  obtain ⟨xs, hx⟩ := hall.items
  have hl' : s.heap.IsList l (intItems xs) := by rw [← hx]; exact ⟨_, C.getMu hl, rfl, n, rfl⟩
  exact sum_intListG hh hl' fun h' tk t' hk => h _ _ _ (C.grown (t := tk) hk C.wd.bare (Nat.le_refl _))
theorem ints_all {vs : List Value} {ns : List Int} (h : IntsAre vs ns) : ∀ v ∈ vs, ∃ a t, v = .int a t := by
  induction h with
  | nil => intro v hv; cases hv
  | cons n t r ih =>
    intro v hv
    rcases List.mem_cons.mp hv with rfl | hv
    · exact ⟨_, _, rfl⟩
    · exact ih v hv
abbrev lawK (R : Result → Shared → Prop) : Flow → Shared → Prop := fun fl s'' => R (.ok (.ret (match fl with | .ret v => v | _ => .none))) s''
theorem Cx.cut2 {a b : Addr × Obj} (C : Cx X w s₀ G₀ G L m (a :: b :: mu) s) : Cx X w s₀ G₀ G L m (a :: mu) s := by
  refine C.subMu (fun p hp => by simp only [List.mem_cons] at hp ⊢; rcases hp with h | h <;> simp [h]) ?_
  have nd := C.nd
  simp only [List.map_cons, List.nodup_cons, List.mem_cons, not_or] at nd ⊢
  exact ⟨nd.2.1.2, nd.2.2.2⟩
-- behind the loop: two trees at least
theorem law_c {sl sa c : Addr} {oc : Obj} {vals stk : List Value} {ts : List Tr} {n nsl : Nat} {G1 : Km} {s1 : Shared} (rm : Rm A 139) (C : Cx [] w s G G1 L m [(sa, lstObj stk n), (c, oc)] s1)
   (hsc : m.lookup (Str.ofString "script") = some (.ref sl)) (hst : m.lookup (Str.ofString "stack") = some (.ref sa)) (hS : Stk G1 ts stk 20) (h1 : 1 ≤ stk.length)
   (hD : ∀ sb stk2 ts2 n2 m2 s2, Cx [] w s G G1 L m2 [(sb, lstObj stk2 n2), (c, oc)] s2 → m2.lookup (Str.ofString "script") = some (.ref sl) → m2.lookup (Str.ofString "stack") = some (.ref sb) → PyTs G1 ts2 stk2 → oks ts2 → deps ts2 ≤ 21 → wts ts2 ≤ 40 → 2 ≤ stk2.length → stk2.length ≤ 20 →
     wpAny (MD w) A (execs ((fnBody (stAt 22)).drop 4) (lawEnv L)) (fun fl s'' => R (.ok (.ret (match fl with | .ret v => v | _ => .none))) s'') (fun _ _ => False) s2) :
   wpAny (MD w) A (execs ((fnBody (stAt 22)).drop 3) (lawEnv L)) (fun fl s'' => R (.ok (.ret (match fl with | .ret v => v | _ => .none))) s'') (fun _ _ => False) s1 := by
  have hlen := hS.py.len
  have hl20 := hS.len
  have hsl : stk.length ≤ 20 := by omega
  repeat walk1
  · obtain ⟨v, rfl⟩ := one_of (ys := stk) (by omega)
    obtain ⟨t, rfl⟩ := one_of (ys := ts) (by simpa using hlen.symm)
    refine R_mul2 (by assumption) (.head _) fun sb s' n' C' => ?_
    replace C' := C'.cut2
    have hd := hS.dep
    have hw := hS.wt
    rw [deps, deps, Nat.max_zero] at hd
    rw [wts, wts] at hw
    obtain ⟨_, _, e, hv, hr⟩ := (by have := hS.py; rwa [PyTs] at this : ∃ v' vs, [v] = v' :: vs ∧ PyT G1 t v' ∧ PyTs G1 [] vs)
    cases e
    have hok := hS.ok
    rw [oks] at hok
    iterate 2 walk1
    refine hD sb _ [t, t] _ _ _ (by assumption) (by walk_at "m_lk") (by walk_at "m_lk") ?_ ?_ ?_ ?_ (by simp) (by simp)
    · rw [PyTs]; exact ⟨v, [v], rfl, hv, .one hv⟩
    · rw [oks, oks]; exact ⟨hok.1, hok.1, hok.2⟩
    · rw [deps, deps, deps]; omega
    · rw [wts, wts, wts]; omega
  · walk1
    have hd := hS.dep
    have hw := hS.wt
    exact hD sa _ ts _ _ _ (by assumption) (by walk_at "m_lk") (by walk_at "m_lk") hS.py hS.ok hd (by omega) (by omega) hsl
-- no tree: one name
theorem law_b {sl sa c : Addr} {oc : Obj} {vals stk : List Value} {ts : List Tr} {n nsl : Nat} {G1 : Km} {s1 : Shared} (rm : Rm A 139) (C : Cx [] w s G G1 L m [(sa, lstObj stk n), (c, oc)] s1)
   (hsc : m.lookup (Str.ofString "script") = some (.ref sl)) (hst : m.lookup (Str.ofString "stack") = some (.ref sa)) (hS : Stk G1 ts stk 20)
   (hC : ∀ sb stk2 ts2 n2 m2 s2 G2, G1.le G2 → Cx [] w s G G2 L m2 [(sb, lstObj stk2 n2), (c, oc)] s2 → m2.lookup (Str.ofString "script") = some (.ref sl) → m2.lookup (Str.ofString "stack") = some (.ref sb) → Stk G2 ts2 stk2 20 → 1 ≤ stk2.length →
     wpAny (MD w) A (execs ((fnBody (stAt 22)).drop 3) (lawEnv L)) (fun fl s'' => R (.ok (.ret (match fl with | .ret v => v | _ => .none))) s'') (fun _ _ => False) s2) :
   wpAny (MD w) A (execs ((fnBody (stAt 22)).drop 2) (lawEnv L)) (fun fl s'' => R (.ok (.ret (match fl with | .ret v => v | _ => .none))) s'') (fun _ _ => False) s1 := by
  have hlen := hS.py.len
  have hl20 := hS.len
  have hsl : stk.length ≤ 20 := by omega
  by_cases hz : stk = []
  · subst hz
    repeat walk1
    refine R_truthL (by assumption) (.head _) (by decide) fun s2 C2 => ?_
    repeat walk1
    refine R_newT (by first | assumption | exact Cx.toks (by assumption) _) (by simp) fun tp s3 G3 le3 ht3 C3 => ?_
    repeat walk1
    refine R_newL (by assumption) (by simp) fun la s4 n4 C4 => ?_
    replace C4 := C4.cut2
    iterate 2 walk1
    exact hC la _ [.sym (Str.ofString "Zed")] _ _ _ G3 le3 (by assumption) (by walk_at "m_lk") (by walk_at "m_lk") ⟨.one (by rw [PyT]; exact ⟨tp, _, _, rfl, ht3⟩), by rw [oks, oks, Tr.ok]; exact ⟨by decide, trivial⟩, by rw [deps, deps, Tr.dep]; omega, by rw [wts, wts, Tr.wt]; omega, by simp⟩ (by simp)
  · repeat walk1
    refine R_truthL (by assumption) (.head _) (by omega) fun s2 C2 => ?_
    rw [show stk.isEmpty = false from by rw [List.isEmpty_eq_false_iff]; exact hz]
    walk1
    walk1
    have : stk.length ≠ 0 := fun h => hz (List.length_eq_zero_iff.mp h)
    exact hC sa _ ts _ _ _ _ (Km.le.refl _) (by assumption) (by walk_at "m_lk") (by walk_at "m_lk") hS (by omega)
end
-- part C34
section
variable {X : List Addr} {w : World} {s₀ s s' : Shared} {G₀ G G' : Km} {L : Addr} {m m' : List (Str × Value)} {mu : List (Addr × Obj)} {A : Around} {E : Value → Shared → Prop} {R : Result → Shared → Prop}
theorem simB_top {ts : List Tr} {k : Bool} {a : Addr} (W : Wd w G s) (h2 : 2 ≤ ts.length) (hz : ts.length ≤ 40) (hok : oks ts) (h : TrAt G k (.grp ts) a) : SimB w (89 + deps ts) G a k (den k (.grp ts)) := by
  unfold TrAt at h
  obtain ⟨vs, hg, hts⟩ := h
  have hl := hts.len
  refine ⟨grpOf k, hg.exAt, fun A R s2 G2 W2 le rm hR => ?_⟩
  have e : simFn (grpOf k) = 471 := by cases k <;> rfl
  rw [e]
  refine sim_grp (n := 88 + deps ts) (Ds := ts.map (den k)) W2 (rm.le (by omega)) (Nat.le_add_right ..) (hg.mono le) (by omega) (by omega) (by rw [List.length_map, hl]) (fun D hD => ?_) (fun i v hv => ?_) fun s' G' r W' P' hr => hR s' G' r W' P' ?_
  · obtain ⟨t, ht, rfl⟩ := List.mem_map.mp hD
    exact den_good (oks_mem hok t ht)
  · obtain ⟨c, t, rfl, hi, h⟩ := hts.get hv
    have hm : t ∈ ts := List.mem_iff_getElem?.mpr ⟨i, hi⟩
    refine ⟨c, _, rfl, by rw [List.getElem?_map, hi]; rfl, (sim_all _ t k c G2 s2 (Nat.lt_succ_self _) (oks_mem hok t hm) W2 (h.mono le)).up ?_⟩
    have := deps_mem hm
    omega
  · rw [← dens_eq] at hr
    unfold den
    exact hr
theorem two_mod (S : Int) : ∃ k : Bool, 2 + S.fmod 2 = kdI k ∧ 2 + S % 2 = kdI k := by
  have h : S.fmod 2 = S % 2 := Int.fmod_eq_emod_of_nonneg _ (by decide)
  rw [h]
  rcases Int.emod_two_eq S with e | e <;> rw [e]
  · exact ⟨true, rfl, rfl⟩
  · exact ⟨false, rfl, rfl⟩
-- which group is at the top
theorem law_d {sl sa c : Addr} {oc : Obj} {vals stk : List Value} {n nsl : Nat} {G1 : Km} {s1 : Shared} (rm : Rm A 139) (C : Cx [] w s G G1 L m [(sa, lstObj stk n), (c, oc)] s1) (hs : G1 sl = some (lstObj vals nsl)) (hi : ∀ v ∈ vals, ∃ a t, v = .int a t) (hz : vals.length ≤ 63)
   (hsc : m.lookup (Str.ofString "script") = some (.ref sl)) (hst : m.lookup (Str.ofString "stack") = some (.ref sa))
   (hC : ∀ k t m2 s2, Cx [] w s G G1 L m2 [(sa, lstObj stk n), (c, oc)] s2 → m2.lookup (Str.ofString "outer") = some (.int (kdI k) t) → m2.lookup (Str.ofString "stack") = some (.ref sa) →
     wpAny (MD w) A (execs ((fnBody (stAt 22)).drop 5) (lawEnv L)) (fun fl s'' => R (.ok (.ret (match fl with | .ret v => v | _ => .none))) s'') (fun _ _ => False) s2) :
   wpAny (MD w) A (execs ((fnBody (stAt 22)).drop 4) (lawEnv L)) (fun fl s'' => R (.ok (.ret (match fl with | .ret v => v | _ => .none))) s'') (fun _ _ => False) s1 := by
  repeat walk1
  refine R_sliceT (by first | assumption | exact Cx.toks (by assumption) _) (Cx.get (o := lstObj vals nsl) (by first | assumption | exact Cx.toks (by assumption) _) hs) (by omega) .none (.int ((20 : Nat) : Int) _) fun lt s4 n4 C4 => ?_
  rw [pick_up] at C4
  repeat walk1
  refine R_sum rm.1 (by assumption) (.head _) (fun v hv => hi v (List.mem_of_mem_take hv)) fun S t5 s5 C5 => ?_
  replace C5 := C5.pop
  repeat walk1
  obtain ⟨k, hk, -⟩ := two_mod S
  rw [hk]
  rename_i t9 s9 C9
  refine R_store (Cx.toks (Cx.toks C9 _) _) (fun s10 C10 => ?_) (by with_unfolding_all exact rfl) (by with_unfolding_all exact rfl)
  exact hC k _ _ _ (by assumption) (by walk_at "m_lk") (by walk_at "m_lk")
-- the tree of the whole stack
theorem top_tr {G : Km} {p q : Addr} {ts : List Tr} {stk : List Value} {t1 : Tok} (hp : TupAt G p [.int 2 t1, .ref q]) (hq : TupAt G q stk) (h : PyTs G ts stk) : PyT G (.grp ts) (.ref p) := by
  rw [PyT]
  exact ⟨p, t1, q, stk, rfl, hp, hq, h⟩
theorem law_e {sa c : Addr} {oc : Obj} {stk : List Value} {ts : List Tr} {n : Nat} {k : Bool} {t : Tok} {G1 : Km} {s1 : Shared} (rm : Rm A 139) (C : Cx [] w s G G1 L m [(sa, lstObj stk n), (c, oc)] s1)
   (hst : m.lookup (Str.ofString "stack") = some (.ref sa)) (hou : m.lookup (Str.ofString "outer") = some (.int (kdI k) t)) (hp : PyTs G1 ts stk) (hok : oks ts) (hd : deps ts ≤ 21) (h2 : 2 ≤ stk.length) (hz : stk.length ≤ 20)
   (hC : ∀ tk G2 m2 s2, G1.le G2 → Cx [] w s G G2 L m2 [(sa, lstObj stk n), (c, oc)] s2 → m2.lookup (Str.ofString "form") = some (.str (strD k (den k (.grp ts))) tk) → m2.lookup (Str.ofString "outer") = some (.int (kdI k) t) → m2.lookup (Str.ofString "stack") = some (.ref sa) →
     wpAny (MD w) A (execs ((fnBody (stAt 22)).drop 6) (lawEnv L)) (fun fl s'' => R (.ok (.ret (match fl with | .ret v => v | _ => .none))) s'') (fun _ _ => False) s2) :
   wpAny (MD w) A (execs ((fnBody (stAt 22)).drop 5) (lawEnv L)) (fun fl s'' => R (.ok (.ret (match fl with | .ret v => v | _ => .none))) s'') (fun _ _ => False) s1 := by
  repeat walk1
  refine R_tupleL (by assumption) (.head _) (by omega) fun s3 G3 tq le3 ht3 C3 => ?_
  repeat walk1
  refine R_newT (by first | assumption | exact Cx.toks (by assumption) _) (by simp) fun tp s4 G4 le4 ht4 C4 => ?_
  have hv : PyT G4 (.grp ts) (.ref tp) := top_tr ht4 (ht3.mono le4) (hp.mono (le3.trans le4))
  have hdep : (Tr.grp ts).dep = deps ts + 1 := by rw [Tr.dep]
  have hlen := hp.len
  have hok' : (Tr.grp ts).ok := by rw [Tr.ok]; exact ⟨by omega, by omega, hok⟩
  clear ht3 ht4
  repeat walk1
  refine wpAny_call (made_all _ (.grp ts) (.ref tp) G4 (Nat.lt_succ_self _) hok' hv k t _ _ _ _ (Cx.wd (by assumption)) (Km.le.refl _) (rm.le (by omega)) fun s5 G5 a W5 P5 h5 => ?_)
  have C5 := Cx.after (by assumption) W5 P5
  refine R_sim C5 (rm.le (by omega)) (simB_top W5 (by omega) (by omega) hok h5) fun s6 G6 r le6 h6 C6 => ?_
  repeat walk1
  refine R_str_ C6 (n := 6) (rm.le (by decide)) (strP_B C6.wd h6 (den_good hok')) fun tk s7 C7 => ?_
  walk1
  exact hC tk _ _ _ (le3.trans (le4.trans (P5.le.trans le6))) (by assumption) (by walk_at "m_lk") (by walk_at "m_lk") (by walk_at "m_lk")
end
-- part C35
section
variable {X : List Addr} {w : World} {s₀ s s' : Shared} {G₀ G G' : Km} {L : Addr} {m m' : List (Str × Value)} {mu : List (Addr × Obj)} {A : Around} {E : Value → Shared → Prop} {R : Result → Shared → Prop}
theorem law_f {sa c : Addr} {oc : Obj} {stk : List Value} {ts : List Tr} {n : Nat} {k : Bool} {t tf : Tok} {fm : Str} {G1 : Km} {s1 : Shared} (rm : Rm A 139) (C : Cx [] w s G G1 L m [(sa, lstObj stk n), (c, oc)] s1)
   (hst : m.lookup (Str.ofString "stack") = some (.ref sa)) (hou : m.lookup (Str.ofString "outer") = some (.int (kdI k) t)) (hfo : m.lookup (Str.ofString "form") = some (.str fm tf)) (hp : PyTs G1 ts stk) (hw : wts ts ≤ 40) (hd : deps ts ≤ 21) (h2 : 2 ≤ stk.length) (hz : stk.length ≤ 20)
   (hC : ∀ l vs G2 m2 s2, G1.le G2 → Cx [] w s G G2 L m2 [(c, oc)] s2 → ListIn G2 l vs → LvsAt G2 vs (lvs false ts) → m2.lookup (Str.ofString "held") = some (.ref l) → m2.lookup (Str.ofString "form") = some (.str fm tf) → m2.lookup (Str.ofString "outer") = some (.int (kdI k) t) →
     wpAny (MD w) A (execs ((fnBody (stAt 22)).drop 7) (lawEnv L)) (fun fl s'' => R (.ok (.ret (match fl with | .ret v => v | _ => .none))) s'') (fun _ _ => False) s2) :
   wpAny (MD w) A (execs ((fnBody (stAt 22)).drop 6) (lawEnv L)) (fun fl s'' => R (.ok (.ret (match fl with | .ret v => v | _ => .none))) s'') (fun _ _ => False) s1 := by
  repeat walk1
  refine R_tupleL (by assumption) (.head _) (by omega) fun s3 G3 tq le3 ht3 C3 => ?_
  repeat walk1
  refine R_newT (by first | assumption | exact Cx.toks (by assumption) _) (by simp) fun tp s4 G4 le4 ht4 C4 => ?_
  have hv : PyT G4 (.grp ts) (.ref tp) := top_tr ht4 (ht3.mono le4) (hp.mono (le3.trans le4))
  have hdep : (Tr.grp ts).dep = deps ts + 1 := by rw [Tr.dep]
  have hwt : (Tr.grp ts).wt ≤ 1000 := by rw [Tr.wt]; omega
  clear ht3 ht4
  repeat walk1
  refine wpAny_call (leaves_all _ (.grp ts) (.ref tp) G4 (Nat.lt_succ_self _) hwt hv false 0 _ _ _ _ _ (by rfl) (Cx.wd (by assumption)) (Km.le.refl _) (rm.le (by omega)) fun s5 G5 l vs W5 P5 h5 h6 => ?_)
  have C5 := (Cx.after (by assumption) W5 P5).pop
  have h7 : LvsAt G5 vs (lvs false ts) := by rw [lv] at h6; exact h6
  walk1
  exact hC l vs _ _ _ (le3.trans (le4.trans P5.le)) (by assumption) h5 h7 (by walk_at "m_lk") (by walk_at "m_lk") (by walk_at "m_lk")
end
-- part C37
section
variable {X : List Addr} {w : World} {s₀ s s' s1 : Shared} {G₀ G G' : Km} {L : Addr} {m m' : List (Str × Value)} {mu pre post : List (Addr × Obj)} {A : Around} {E : Value → Shared → Prop}
theorem ListIn.mono {l : Addr} {vs : List Value} (h : G.le G') (x : ListIn G l vs) : ListIn G' l vs := let ⟨n, e⟩ := x; ⟨n, h _ _ e⟩
-- the loop of a list comprehension over a frozen list, with tests
theorem compF_loop {elt iter : Expr} {ifs : List Expr} {x : Str} {px pos : Pos} {scope : Scope} {cenv : Env} {l0 I l : Addr} {vs : List Value} {sb : Shared} {R : Result → Shared → Prop} (J : Nat → Km → List Value → Prop)
    (hh : A.handled = none) (hl0 : ListIn G l0 vs) (hx : cenv.kindOf x = some .local) (hk : cenv.scope.kind = .function)
    (turn : ∀ i v G' ys s' mu' E', vs[i]? = some v → G.le G' → J i G' ys → Cx [] w sb G G' cenv.locals [(x, v)] mu' s' →
      wpAny (MD w) A (forIn ifs true fun c r => if r = true then do let ok ← isTrue c cenv (eval c cenv); pure (ForInStep.yield ok) else pure (ForInStep.yield r)) (fun ok s3 => if ok = true then wpAny (MD w) A (eval elt cenv) (fun y s'' => ∃ G'', G'.le G'' ∧ J (i + 1) G'' (ys ++ [y]) ∧ Cx [] w sb G G'' cenv.locals [] mu' s'') E' s3
        else ∃ G'', G'.le G'' ∧ J (i + 1) G'' ys ∧ Cx [] w sb G G'' cenv.locals [] mu' s3) E' s')
    (h0 : J 0 G []) (hlen : ∀ i G ys, J i G ys → ys.length ≤ 2000)
    (hR : ∀ s' G' ys n, J vs.length G' ys → Cx [] w sb G G' cenv.locals [] [(l, lstObj ys n)] s' → R (.ok .next) s')
    {s : Shared} {o : Obj} (ho : itLO l0 0 o) (C : Cx [] w sb G G cenv.locals [] [(I, o), (l, lstObj [] 0)] s) :
    codeAny (MD w) A (.compLoop (.ListComp elt [⟨.Name x px, iter, ifs, 0⟩] scope pos) 0 (.ref I) (.ref l) cenv) R s := by
  refine codeAny_compLoop_tests (fun k s' => ∃ i G' ys n o, i + k = vs.length ∧ itLO l0 i o ∧ J i G' ys ∧ Cx [] w sb G G' cenv.locals [] [(I, o), (l, lstObj ys n)] s') (fun k s' hI => ?_) vs.length ⟨0, G, [], 0, o, Nat.zero_add _, ho, h0, C⟩
  obtain ⟨i, G', ys, n, o', hi, ho', hj, C'⟩ := hI
  obtain ⟨n0, hn0⟩ := hl0.mono C'.ps.le
  have hl : s'.heap.IsList l0 vs.toArray := ⟨_, C'.get hn0, rfl, n0, rfl⟩
  cases k with
  | zero =>
    have e : i = vs.length := by omega
    subst e
    refine wpAny_pyNext_list_end hh ⟨o', C'.st (I, o') (.head _), ho'⟩ hl (by rw [List.getElem?_toArray]; exact List.getElem?_eq_none (by omega)) fun h2 hs2 => ?_
    exact hR _ G' ys n hj (C'.lose (t := s'.toks) hs2)
  | succ k =>
    have hv : vs[i]? = some vs[i] := List.getElem?_eq_getElem (by omega)
    refine wpAny_pyNext_list_item ⟨o', C'.st (I, o') (.head _), ho'⟩ hl (by rw [List.getElem?_toArray]; exact hv) fun h2 hi2 hs2 => ?_
    obtain ⟨o2, ho2, hc2, hd2⟩ := hi2
    have C2 := C'.upd0 (t := s'.toks) hs2 ho2
    refine wpAny_assign_Name (R_store C2 (fun s4 C4 => ?_) hk hx)
    refine wpAny_mono (turn i _ G' ys s4 _ _ hv C'.ps.le hj C4) (fun ok s5 h5 => ?_) fun _ _ e => e
    cases ok with
    | false =>
      obtain ⟨G5, le5, hy, C5⟩ := h5
      exact ⟨k, Nat.lt_succ_self k, i + 1, G5, ys, n, o2, by omega, ⟨hc2, hd2⟩, hy, C5⟩
    | true =>
      refine wpAny_mono h5 (fun y s6 h6 => ?_) fun _ _ e => e
      obtain ⟨G5, le5, hy, C5⟩ := h6
      refine R_append (pre := [(I, o2)]) (post := []) C5 (hlen _ _ _ hj) fun s6 n6 C6 => ?_
      exact ⟨k, Nat.lt_succ_self k, i + 1, G5, ys ++ [y], n6, o2, by omega, ⟨hc2, hd2⟩, hy, C6⟩
-- the same with two names, over tuples of two
theorem compP_loop {elt iter : Expr} {x y : Str} {px py tp : Pos} {tk : Nat} {pos : Pos} {scope : Scope} {cenv : Env} {l0 I l : Addr} {vs : List Value} {sb : Shared} {R : Result → Shared → Prop} (J : Nat → Km → List Value → Prop)
    (hh : A.handled = none) (hl0 : ListIn G l0 vs) (hx : cenv.kindOf x = some .local) (hy : cenv.kindOf y = some .local) (hk : cenv.scope.kind = .function)
    (ht : ∀ v ∈ vs, ∃ t a b, v = .ref t ∧ TupAt G t [a, b])
    (turn : ∀ i t a b G' ys s' mu' E', vs[i]? = some (.ref t) → TupAt G t [a, b] → G.le G' → J i G' ys → Cx [] w sb G G' cenv.locals [(y, b), (x, a)] mu' s' →
      wpAny (MD w) A (eval elt cenv) (fun r s'' => ∃ G'', G'.le G'' ∧ J (i + 1) G'' (ys ++ [r]) ∧ Cx [] w sb G G'' cenv.locals [] mu' s'') E' s')
    (h0 : J 0 G []) (hlen : ∀ i G ys, J i G ys → ys.length ≤ 2000)
    (hR : ∀ s' G' ys n, J vs.length G' ys → Cx [] w sb G G' cenv.locals [] [(l, lstObj ys n)] s' → R (.ok .next) s')
    {s : Shared} {o : Obj} (ho : itLO l0 0 o) (C : Cx [] w sb G G cenv.locals [] [(I, o), (l, lstObj [] 0)] s) :
    codeAny (MD w) A (.compLoop (.ListComp elt [⟨.Tuple [.Name x px, .Name y py] tk tp, iter, [], 0⟩] scope pos) 0 (.ref I) (.ref l) cenv) R s := by
  refine LCp.codeAny_compLoop_pair (fun k s' => ∃ i G' ys n o, i + k = vs.length ∧ itLO l0 i o ∧ J i G' ys ∧ Cx [] w sb G G' cenv.locals [] [(I, o), (l, lstObj ys n)] s') (fun k s' hI => ?_) vs.length ⟨0, G, [], 0, o, Nat.zero_add _, ho, h0, C⟩
  obtain ⟨i, G', ys, n, o', hi, ho', hj, C'⟩ := hI
  obtain ⟨n0, hn0⟩ := hl0.mono C'.ps.le
  have hl : s'.heap.IsList l0 vs.toArray := ⟨_, C'.get hn0, rfl, n0, rfl⟩
  cases k with
  | zero =>
    have e : i = vs.length := by omega
    subst e
    refine wpAny_pyNext_list_end hh ⟨o', C'.st (I, o') (.head _), ho'⟩ hl (by rw [List.getElem?_toArray]; exact List.getElem?_eq_none (by omega)) fun h2 hs2 => ?_
    exact hR _ G' ys n hj (C'.lose (t := s'.toks) hs2)
  | succ k =>
    have hv : vs[i]? = some vs[i] := List.getElem?_eq_getElem (by omega)
    obtain ⟨t, a, b, et, hta⟩ := ht _ (List.mem_of_getElem? hv)
    rw [et] at hv
    refine wpAny_pyNext_list_item ⟨o', C'.st (I, o') (.head _), ho'⟩ hl (by rw [List.getElem?_toArray]; exact hv) fun h2 hi2 hs2 => ?_
    obtain ⟨o2, ho2, hc2, hd2⟩ := hi2
    have C2 := C'.upd0 (t := s'.toks) hs2 ho2
    refine wpAny_letOwnedTupleGo_listiter (l := l0) (i := i + 1) ⟨o2, ho2, hc2, hd2⟩ ?_
    refine assign_Tuple_tuple hh ((hta.mono C2.ps.le).tup C2.wd) rfl rfl fun h4 hx4 => ?_
    have C4' := C2.grown (t := s'.toks) (h' := h4) (fun z oz e => hx4 z oz (Nat.ne_of_lt (Heap.lt_size e)) e) C2.wd.bare (Nat.le_refl _)
    refine assignInOrder_cons (wpAny_assign_Name (R_store C4' (fun s4 C4 => ?_) hk hx))
    refine assignInOrder_cons (wpAny_assign_Name (R_store C4 (fun s5 C5 => ?_) hk hy))
    refine assignInOrder_nil ?_
    refine wpAny_mono (turn i t a b G' ys s5 _ _ hv hta C'.ps.le hj C5) (fun y s6 h6 => ?_) fun _ _ e => e
    obtain ⟨G5, le5, hy, C5⟩ := h6
    refine R_append (pre := [(I, o2)]) (post := []) C5 (hlen _ _ _ hj) fun s6 n6 C6 => ?_
    exact ⟨k, Nat.lt_succ_self k, i + 1, G5, ys ++ [y], n6, o2, by omega, ⟨hc2, hd2⟩, hy, C6⟩
section
variable {env : Env} {elt iter target : Expr} {ifs : List Expr} {x : Str} {px pos : Pos} {scope : Scope} {cl : List (Str × Addr)} {l0 : Addr} {vs : List Value}
theorem compL_block {sb : Shared} {use : Option (Value → Sem Unit)} {Q : Value → Shared → Prop} (Cb : Cx X w s₀ G₀ G env.locals m mu sb) (ht : ListIn G l0 vs) (hcell : ∀ y ∈ scope.names, y.2 ≠ .cell) (hkind : scope.kind = .function)
    (loop : ∀ I Lc l o s', itLO l0 0 o → Cx [] w sb G G Lc [] [(I, o), (l, lstObj [] 0)] s' → codeAny (MD w) A (.compLoop (.ListComp elt [⟨target, iter, ifs, 0⟩] scope pos) 0 (.ref I) (.ref l) (compEnvC scope cl Lc env)) (compPost (MD w) A E use Q (.ref l) Lc) s') :
    wpAny (MD w) A (pyIter (.ref l0)) (fun it s2 => wpAny (MD w) A (newList []) (fun acc s3 => wpAny (MD w) A (newFunctionEnv scope env.globals cl [] env.qual none .none (some env)) (fun cenv s4 =>
      codeAny (MD w) A (.compStart (.ListComp elt [⟨target, iter, ifs, 0⟩] scope pos) 0 it acc { cenv with scope := relabel scope env }) (compPost (MD w) A E use Q acc cenv.locals) s4) E s3) E s2) E sb := by
  obtain ⟨n0, hn0⟩ := ht
  refine wpAny_pyIter_list (items := vs.toArray) ⟨_, Cb.get hn0, rfl, n0, rfl⟩ ?_
  refine wpAny_newObj_type (wpAny_newFunctionEnv hcell (by intro y hy; simp at hy) (fun h₁ hns₁ hsb₁ => ?_) hkind)
  dsimp only at hns₁ hsb₁ ⊢
  generalize hH2 : (sb.heap.push { cls := .type "list_iterator", data := .fields #[.ref l0, .int 0 0] }).push { cls := .type "list", dict := none, data := .seq ([] : List Value).toArray } = H2 at hns₁ hsb₁ ⊢
  have e1 : (sb.heap.push ({ cls := .type "list_iterator", data := .fields #[.ref l0, .int 0 0] } : Obj)).objs.size = sb.heap.objs.size + 1 := Heap.size_push ..
  rw [e1]
  have C4 := inner3 (t := sb.toks + ([] : List (Str × Value)).length) Cb.wd hH2.symm rfl rfl hns₁ hsb₁
  have lp := loop _ _ _ _ _ ⟨rfl, rfl⟩ C4
  exact codeAny_compStart_list lp (wpAny_pyIter_listiter (i := 0) ⟨_, C4.st (_, _) (.head _), rfl, rfl⟩ lp)
theorem R_compF {Q : Value → Shared → Prop} (J : Nat → Km → List Value → Prop) (hh : A.handled = none) (C : Cx X w s₀ G₀ G env.locals m mu s) (ht : ListIn G l0 vs) (hclos : closureFor scope env = pure cl) (hcell : ∀ y ∈ scope.names, y.2 ≠ .cell) (hkind : scope.kind = .function)
    (hnames : ∀ y ∈ scope.names, y.2 = .local → scope.names.lookup y.1 = some .local) (hx : scope.names.lookup x = some .local)
    (hiter : ∀ Q' : Value → Shared → Prop, (∀ s', Cx X w s₀ G₀ G env.locals m mu s' → Q' (.ref l0) s') → wpAny (MD w) A (eval iter env) Q' E s)
    (turn : ∀ sb i v G' L' ys s' mu' E', vs[i]? = some v → G.le G' → J i G' ys → Cx [] w sb G G' L' [(x, v)] mu' s' →
      wpAny (MD w) A (forIn ifs true fun c r => if r = true then do let ok ← isTrue c (compE scope cl L' env) (eval c (compE scope cl L' env)); pure (ForInStep.yield ok) else pure (ForInStep.yield r)) (fun ok s3 => if ok = true then wpAny (MD w) A (eval elt (compE scope cl L' env)) (fun y s'' => ∃ G'', G'.le G'' ∧ J (i + 1) G'' (ys ++ [y]) ∧ Cx [] w sb G G'' L' [] mu' s'') E' s3
        else ∃ G'', G'.le G'' ∧ J (i + 1) G'' ys ∧ Cx [] w sb G G'' L' [] mu' s3) E' s')
    (h0 : J 0 G []) (hlen : ∀ i G ys, J i G ys → ys.length ≤ 2000)
    (hs : ∀ x, foldedSetIterable iter env x = pure x)
    (h : ∀ s' G' ys n l, J vs.length G' ys → G.le G' → Cx X w s₀ G₀ G' env.locals m ((l, lstObj ys n) :: mu) s' → Q (.ref l) s') :
    wpAny (MD w) A (eval (.ListComp elt [⟨.Name x px, iter, ifs, 0⟩] scope pos) env) Q E s := by
  rw [eval_ListComp]
  refine wpAny_comprehension_free (use := none) rfl hs hclos hkind hnames (hiter _ fun sb Cb => ?_)
  refine compL_block Cb ht hcell hkind fun I Lc l o s1 ho C1 => ?_
  refine compF_loop (cenv := compEnvC scope cl Lc env) J hh ht (lookup_relabel_local hx) (by simp [compEnvC, relabel, hkind]) (fun i v G' ys s' mu' E' hv le hj C => turn sb i v G' _ ys s' mu' E' hv le hj C) h0 hlen (fun s' G' ys n h1 C' => ?_) ho C1
  obtain ⟨f, hn, _⟩ := C'.ns
  obtain ⟨C2, n1, n2, n3, n4⟩ := comp_end Cb C'
  exact ⟨f, hn, fun h' hs' => h _ G' ys n l h1 C'.ps.le (C2.side (t := s'.toks) hs' n2 n3 n4 n1)⟩
theorem R_compP {y : Str} {py tp : Pos} {tk : Nat} {Q : Value → Shared → Prop} (J : Nat → Km → List Value → Prop) (hh : A.handled = none) (C : Cx X w s₀ G₀ G env.locals m mu s) (ht : ListIn G l0 vs) (ht2 : ∀ v ∈ vs, ∃ t a b, v = .ref t ∧ TupAt G t [a, b]) (hclos : closureFor scope env = pure cl) (hcell : ∀ y ∈ scope.names, y.2 ≠ .cell) (hkind : scope.kind = .function)
    (hnames : ∀ y ∈ scope.names, y.2 = .local → scope.names.lookup y.1 = some .local) (hx : scope.names.lookup x = some .local) (hy : scope.names.lookup y = some .local)
    (hiter : ∀ Q' : Value → Shared → Prop, (∀ s', Cx X w s₀ G₀ G env.locals m mu s' → Q' (.ref l0) s') → wpAny (MD w) A (eval iter env) Q' E s)
    (turn : ∀ sb i t a b G' L' ys s' mu' E', vs[i]? = some (.ref t) → TupAt G t [a, b] → G.le G' → J i G' ys → Cx [] w sb G G' L' [(y, b), (x, a)] mu' s' →
      wpAny (MD w) A (eval elt (compE scope cl L' env)) (fun r s'' => ∃ G'', G'.le G'' ∧ J (i + 1) G'' (ys ++ [r]) ∧ Cx [] w sb G G'' L' [] mu' s'') E' s')
    (h0 : J 0 G []) (hlen : ∀ i G ys, J i G ys → ys.length ≤ 2000)
    (hs : ∀ x, foldedSetIterable iter env x = pure x)
    (h : ∀ s' G' ys n l, J vs.length G' ys → G.le G' → Cx X w s₀ G₀ G' env.locals m ((l, lstObj ys n) :: mu) s' → Q (.ref l) s') :
    wpAny (MD w) A (eval (.ListComp elt [⟨.Tuple [.Name x px, .Name y py] tk tp, iter, [], 0⟩] scope pos) env) Q E s := by
  rw [eval_ListComp]
  refine wpAny_comprehension_free (use := none) rfl hs hclos hkind hnames (hiter _ fun sb Cb => ?_)
  refine compL_block Cb ht hcell hkind fun I Lc l o s1 ho C1 => ?_
  refine compP_loop (cenv := compEnvC scope cl Lc env) J hh ht (lookup_relabel_local hx) (lookup_relabel_local hy) (by simp [compEnvC, relabel, hkind]) ht2 (fun i t a b G' ys s' mu' E' hv hta le hj C => turn sb i t a b G' _ ys s' mu' E' hv hta le hj C) h0 hlen (fun s' G' ys n h1 C' => ?_) ho C1
  obtain ⟨f, hn, _⟩ := C'.ns
  obtain ⟨C2, n1, n2, n3, n4⟩ := comp_end Cb C'
  exact ⟨f, hn, fun h' hs' => h _ G' ys n l h1 C'.ps.le (C2.side (t := s'.toks) hs' n2 n3 n4 n1)⟩
end
end
-- part C38
-- the table of a set, in plain Lean
section
theorem below_go {xs : Array Nat} {j : Nat} : ∀ (fuel lo hi : Nat), hi ≤ lo + fuel → lo ≤ hi → hi ≤ xs.size → (∀ k, k < lo → xs.getD k j < j) → (∀ k, hi ≤ k → k < xs.size → ¬ xs.getD k j < j) → xs.toList.Pairwise (· < ·) →
    SetTable.below.go xs j fuel lo hi ≤ xs.size ∧ (∀ k, k < SetTable.below.go xs j fuel lo hi → xs.getD k j < j) ∧ ∀ k, SetTable.below.go xs j fuel lo hi ≤ k → k < xs.size → ¬ xs.getD k j < j
  | 0, lo, hi, hf, h1, h2, ha, hb, hs => by
    unfold SetTable.below.go
    have : lo = hi := by omega
    subst this
    exact ⟨h2, ha, hb⟩
  | fuel + 1, lo, hi, hf, h1, h2, ha, hb, hs => by
    unfold SetTable.below.go
    have get : ∀ a, a < xs.size → xs.getD a j = xs.toList.getD a j := fun a h => by simp [Array.getD, List.getD, h]
    have mono : ∀ a b, a < b → b < xs.size → xs.getD a j < xs.getD b j := fun a b h1 h2 => by
      rw [get a (by omega), get b h2]
      have := List.pairwise_iff_getElem.mp hs a b (by simp; omega) (by simpa using h2) h1
      simpa [List.getD, show a < xs.size by omega, h2] using this
    by_cases hlt : lo < hi
    · rw [if_pos hlt]
      dsimp only
      by_cases hm : xs.getD ((lo + hi) / 2) j < j
      · rw [if_pos hm]
        refine below_go fuel _ _ (by omega) (by omega) h2 (fun k hk => ?_) hb hs
        by_cases e : k = (lo + hi) / 2
        · rw [e]; exact hm
        · exact Nat.lt_trans (mono k ((lo + hi) / 2) (by omega) (by omega)) hm
      · rw [if_neg hm]
        refine below_go fuel _ _ (by omega) (by omega) (by omega) ha (fun k hk hk2 => ?_) hs
        by_cases e : k = (lo + hi) / 2
        · rw [e]; exact hm
        · have := mono ((lo + hi) / 2) k (by omega) hk2
          omega
    · rw [if_neg hlt]
      have : lo = hi := by omega
      subst this
      exact ⟨h2, ha, hb⟩
theorem below_ok {xs : Array Nat} {j : Nat} (hs : xs.toList.Pairwise (· < ·)) : ∃ A B, xs.toList = A ++ B ∧ A.length = SetTable.below xs j ∧ (∀ a ∈ A, a < j) ∧ ∀ b ∈ B, ¬ b < j := by
  obtain ⟨h1, h2, h3⟩ := below_go (xs := xs) (j := j) xs.size 0 xs.size (by omega) (by omega) (by omega) (fun k h => by omega) (fun k h h' => by omega) hs
  have e : SetTable.below xs j = SetTable.below.go xs j xs.size 0 xs.size := rfl
  rw [← e] at h1 h2 h3
  generalize SetTable.below xs j = p at *
  refine ⟨xs.toList.take p, xs.toList.drop p, (List.take_append_drop ..).symm, by rw [List.length_take]; simp; omega, fun a ha => ?_, fun b hb => ?_⟩
  · obtain ⟨k, hk, rfl⟩ := List.mem_iff_getElem.mp ha
    rw [List.length_take] at hk
    have := h2 k (by omega)
    simp only [List.getElem_take]
    have hk' : k < xs.size := by simp at hk; omega
    simpa [Array.getD, hk'] using this
  · obtain ⟨k, hk, rfl⟩ := List.mem_iff_getElem.mp hb
    rw [List.length_drop] at hk
    have hk' : p + k < xs.size := by simp at hk; omega
    have := h3 (p + k) (by omega) hk'
    simp only [List.getElem_drop]
    simpa [Array.getD, hk'] using this
-- the slot of a place
theorem slot_live {t : SetTable} {j : Nat} (hs : t.place.toList.Pairwise (· < ·)) (hm : j ∈ t.place.toList) : ∃ i, t.slot j = .live i ∧ t.place.toList[i]? = some j := by
  obtain ⟨A, B, e, hA, h1, h2⟩ := below_ok (j := j) hs
  have hB : B[0]? = some j := by
    rw [e] at hm hs
    rcases List.mem_append.mp hm with h | h
    · exact absurd (h1 _ h) (Nat.lt_irrefl _)
    · cases B with
      | nil => cases h
      | cons b B =>
        rcases List.mem_cons.mp h with rfl | h
        · rfl
        · have := (List.pairwise_cons.mp (List.pairwise_append.mp hs).2.1).1 _ h
          exact absurd this (h2 b (.head _))
  have hg : t.place.toList[SetTable.below t.place j]? = some j := by
    rw [e, ← hA, List.getElem?_append_right (Nat.le_refl _), Nat.sub_self, hB]
  refine ⟨SetTable.below t.place j, ?_, hg⟩
  unfold SetTable.slot
  dsimp only
  rw [if_pos (by rw [← Array.getElem?_toList, hg]; simp)]
theorem slot_empty {t : SetTable} {j : Nat} (hd : t.dummies = #[]) (hm : j ∉ t.place.toList) : t.slot j = .empty := by
  unfold SetTable.slot
  dsimp only
  rw [if_neg (by
    rw [← Array.getElem?_toList]
    intro h
    exact hm (List.mem_of_getElem? (eq_of_beq h))), if_neg (by rw [hd]; unfold SetTable.has; simp)]
-- the walk of a search
def stepP (mask : Nat) (p : SetTable.Probe) : SetTable.Probe :=
  if p.more > 0 then { p with j := p.j + 1, more := p.more - 1 } else
  { p with j := (SetTable.leap mask p.i p.perturb).1, more := SetTable.runEnd mask (SetTable.leap mask p.i p.perturb).1 - (SetTable.leap mask p.i p.perturb).1, i := (SetTable.leap mask p.i p.perturb).1, perturb := (SetTable.leap mask p.i p.perturb).2 }
def pr (mask : Nat) (h : Int) : Nat → SetTable.Probe
  | 0 => { j := SetTable.bits h % (mask + 1), more := SetTable.runEnd mask (SetTable.bits h % (mask + 1)) - SetTable.bits h % (mask + 1), i := SetTable.bits h % (mask + 1), perturb := SetTable.bits h, dummy := none }
  | n + 1 => stepP mask (pr mask h n)
theorem pr_step (mask : Nat) (h : Int) (n : Nat) : pr mask h (n + 1) = stepP mask (pr mask h n) := rfl
theorem pr_zero (t : SetTable) (h : Int) : t.probeStart h = pr t.mask h 0 := rfl
theorem pr_succ (t : SetTable) (h : Int) (n : Nat) : t.advance (pr t.mask h n) = pr t.mask h (n + 1) := rfl
theorem pr_dummy (mask : Nat) (h : Int) : ∀ n, (pr mask h n).dummy = none
  | 0 => rfl
  | n + 1 => by
    rw [pr_step]
    unfold stepP
    split <;> exact pr_dummy mask h n
-- the starts of the runs
def st (mask : Nat) (h : Int) : Nat → Nat × Nat
  | 0 => (SetTable.bits h % (mask + 1), SetTable.bits h)
  | q + 1 => SetTable.leap mask (st mask h q).1 (st mask h q).2
theorem run_go {mask : Nat} {h : Int} {n j r i p : Nat} (e : pr mask h n = ⟨j, r, i, p, none⟩) : ∀ k, k ≤ r → pr mask h (n + k) = ⟨j + k, r - k, i, p, none⟩
  | 0, _ => e
  | k + 1, hk => by
    have ih := run_go e k (by omega)
    rw [← Nat.add_assoc, pr_step, ih]
    unfold stepP
    dsimp only
    rw [if_pos (by omega)]
    congr 1
theorem run_len (mask i : Nat) : SetTable.runEnd mask i - i ≤ 9 := by unfold SetTable.runEnd; split <;> omega
theorem run_at (mask : Nat) (h : Int) : ∀ q, ∃ n, n ≤ 10 * q ∧ pr mask h n = ⟨(st mask h q).1, SetTable.runEnd mask (st mask h q).1 - (st mask h q).1, (st mask h q).1, (st mask h q).2, none⟩
  | 0 => ⟨0, Nat.le_refl _, rfl⟩
  | q + 1 => by
    obtain ⟨n, hn, e⟩ := run_at mask h q
    have hr := run_len mask (st mask h q).1
    have e2 := run_go e _ (Nat.le_refl _)
    refine ⟨n + (SetTable.runEnd mask (st mask h q).1 - (st mask h q).1) + 1, by omega, ?_⟩
    rw [pr_step, e2]
    unfold stepP
    dsimp only
    rw [if_neg (by omega)]
    rfl
theorem st_pert (mask : Nat) (h : Int) : ∀ q, (st mask h q).2 = SetTable.bits h / 32 ^ q
  | 0 => by simp [st]
  | q + 1 => by
    show (st mask h q).2 / 32 = _
    rw [st_pert mask h q, Nat.div_div_eq_div_mul, Nat.pow_succ]
theorem bits_lt (h : Int) : SetTable.bits h < 2 ^ 64 := by unfold SetTable.bits; omega
theorem st_late (mask : Nat) (h : Int) (q : Nat) : (st mask h (13 + q)).2 = 0 := by
  rw [st_pert]
  refine Nat.div_eq_of_lt (Nat.lt_of_lt_of_le (bits_lt h) ?_)
  exact Nat.le_trans (by decide : 2 ^ 64 ≤ 32 ^ 13) (Nat.pow_le_pow_right (by decide) (by omega))
def itf (mask : Nat) : Nat → Nat → Nat
  | 0, i => i
  | q + 1, i => itf mask q ((i * 5 + 1) % (mask + 1))
theorem st_itf (mask : Nat) (h : Int) : ∀ q r, (st mask h (13 + q + r)).1 = itf mask r (st mask h (13 + q)).1
  | q, 0 => rfl
  | q, r + 1 => by
    have := st_itf mask h (q + 1) r
    rw [show 13 + (q + 1) + r = 13 + q + (r + 1) by omega] at this
    rw [this]
    show itf mask r (SetTable.leap mask (st mask h (13 + q)).1 (st mask h (13 + q)).2).1 = itf mask r _
    rw [st_late]
    rfl
theorem itf_all7 : ∀ i, i < 8 → ∀ j, j < 8 → ∃ q, q < 8 ∧ itf 7 q i = j := by decide +kernel
theorem itf_all31 : ∀ i, i < 32 → ∀ j, j < 32 → ∃ q, q < 32 ∧ itf 31 q i = j := by decide +kernel
def MaskOk (mask : Nat) : Prop := mask = 7 ∨ mask = 31
theorem st_lt {mask : Nat} (h : Int) (q : Nat) : (st mask h q).1 < mask + 1 := by
  cases q with
  | zero => exact Nat.mod_lt _ (by omega)
  | succ q => exact Nat.mod_lt _ (by omega)
theorem st_all {mask : Nat} (hm : MaskOk mask) (h : Int) {j : Nat} (hj : j < mask + 1) : ∃ q, q < 13 + mask + 1 ∧ (st mask h q).1 = j := by
  rcases hm with rfl | rfl
  · obtain ⟨q, hq, e⟩ := itf_all7 _ (st_lt h 13) j hj
    exact ⟨13 + 0 + q, by omega, by rw [st_itf]; exact e⟩
  · obtain ⟨q, hq, e⟩ := itf_all31 _ (st_lt h 13) j hj
    exact ⟨13 + 0 + q, by omega, by rw [st_itf]; exact e⟩
-- a free slot is met
theorem free_slot : ∀ {n : Nat} {pl : List Nat}, pl.length < n → ∃ j, j < n ∧ j ∉ pl
  | 0, _, h => absurd h (Nat.not_lt_zero _)
  | n + 1, pl, h => by
    by_cases q : n ∈ pl
    · have hl : (pl.erase n).length < n := by
        rw [List.length_erase_of_mem q]
        have := List.length_pos_of_mem q
        omega
      obtain ⟨j, hj, hn⟩ := free_slot hl
      exact ⟨j, by omega, fun hm => hn ((List.mem_erase_of_ne (by omega)).mpr hm)⟩
    · exact ⟨n, by omega, q⟩
def lim (mask : Nat) : Nat := 10 * SetTable.turns mask
theorem meets_free {mask : Nat} (hm : MaskOk mask) (h : Int) {pl : List Nat} (hl : pl.length ≤ mask) : ∃ n, n < lim mask ∧ (pr mask h n).j ∉ pl ∧ ∀ k, k < n → (pr mask h k).j ∈ pl := by
  obtain ⟨j, hj, hn⟩ := free_slot (n := mask + 1) (pl := pl) (by omega)
  obtain ⟨q, hq, e⟩ := st_all hm h hj
  obtain ⟨n, hn2, e2⟩ := run_at mask h q
  have hex : ∃ n, (pr mask h n).j ∉ pl := ⟨n, by rw [e2]; show (st mask h q).1 ∉ pl; rw [e]; exact hn⟩
  have hlt : n < lim mask := by unfold lim SetTable.turns; omega
  have key : ∀ N, (pr mask h N).j ∉ pl → ∃ n, n ≤ N ∧ (pr mask h n).j ∉ pl ∧ ∀ k, k < n → (pr mask h k).j ∈ pl := by
    intro N
    induction N using Nat.strongRecOn with
    | ind N ih =>
      intro hN
      by_cases q : ∃ k, k < N ∧ (pr mask h k).j ∉ pl
      · obtain ⟨k, hk, hk2⟩ := q
        obtain ⟨n, h1, h2⟩ := ih k hk hk2
        exact ⟨n, by omega, h2⟩
      · exact ⟨N, Nat.le_refl _, hN, fun k hk => Classical.byContradiction fun hq => q ⟨k, hk, hq⟩⟩
  obtain ⟨n', h1, h2, h3⟩ := key n (by rw [e2]; show (st mask h q).1 ∉ pl; rw [e]; exact hn)
  exact ⟨n', by omega, h2, h3⟩
def Reach (mask : Nat) (O : Nat → Prop) (h : Int) (j : Nat) : Prop := ∃ n, n < lim mask ∧ (pr mask h n).j = j ∧ ∀ k, k < n → O (pr mask h k).j
theorem Reach.mono {mask : Nat} {O O' : Nat → Prop} {h : Int} {j : Nat} (x : Reach mask O h j) (hO : ∀ j, O j → O' j) : Reach mask O' h j := let ⟨n, a, b, c⟩ := x; ⟨n, a, b, fun k hk => hO _ (c k hk)⟩
structure PlOk (t : SetTable) (es : Array (Int × Value)) : Prop where
  mask : MaskOk t.mask
  dum : t.dummies = #[]
  size : t.place.size = es.size
  rise : t.place.toList.Pairwise (· < ·)
  few : es.size ≤ t.mask
  reach : ∀ p ∈ t.place.toList.zip es.toList, Reach t.mask (· ∈ t.place.toList) p.2.1 p.1
end
-- part C39
section
theorem live_at {t : SetTable} {j : Nat} (hs : t.place.toList.Pairwise (· < ·)) (hm : j ∈ t.place.toList) : ∃ i, t.slot j = .live i ∧ t.place.toList[i]? = some j ∧ ∀ i', t.place.toList[i']? = some j → i' = i := by
  obtain ⟨i, h1, h2⟩ := slot_live hs hm
  refine ⟨i, h1, h2, fun i' h3 => ?_⟩
  obtain ⟨a1, a2⟩ := List.getElem?_eq_some_iff.mp h2
  obtain ⟨b1, b2⟩ := List.getElem?_eq_some_iff.mp h3
  rcases Nat.lt_trichotomy i' i with q | q | q
  · have := List.pairwise_iff_getElem.mp hs i' i b1 a1 q
    omega
  · exact q
  · have := List.pairwise_iff_getElem.mp hs i i' a1 b1 q
    omega
-- one search: from step n on
theorem probe_go {t : SetTable} {hashAt : Nat → Int} {h : Int} {N : Nat} (hd : t.dummies = #[]) (hs : t.place.toList.Pairwise (· < ·)) (hN : (pr t.mask h N).j ∉ t.place.toList) (hb : ∀ k, k < N → (pr t.mask h k).j ∈ t.place.toList) :
    ∀ (fuel n : Nat), n ≤ N → N < n + fuel →
    (SetTable.probe.go t hashAt h fuel (pr t.mask h n) = some (.empty (pr t.mask h N).j none) ∧ ∀ k i, n ≤ k → k < N → t.place.toList[i]? = some (pr t.mask h k).j → hashAt i ≠ h) ∨
    ∃ m i, n ≤ m ∧ m < N ∧ SetTable.probe.go t hashAt h fuel (pr t.mask h n) = some (.candidate (pr t.mask h m).j i (pr t.mask h (m + 1))) ∧ t.slot (pr t.mask h m).j = .live i ∧ t.place.toList[i]? = some (pr t.mask h m).j ∧ hashAt i = h ∧ ∀ k i, n ≤ k → k < m → t.place.toList[i]? = some (pr t.mask h k).j → hashAt i ≠ h
  | 0, n, h1, h2 => by omega
  | fuel + 1, n, h1, h2 => by
    unfold SetTable.probe.go
    by_cases e : n = N
    · subst e
      rw [slot_empty hd hN]
      refine .inl ⟨?_, fun k i h1 h2 => by omega⟩
      dsimp only
      rw [pr_dummy]
    · obtain ⟨i, hl, hi, hu⟩ := live_at hs (hb n (by omega))
      rw [hl]
      dsimp only
      by_cases hh : hashAt i = h
      · rw [if_pos (by simp [hh])]
        exact .inr ⟨n, i, Nat.le_refl _, by omega, by rw [pr_succ], hl, hi, hh, fun k i h1 h2 => by omega⟩
      · rw [if_neg (by simp [hh]), pr_succ]
        rcases probe_go hd hs hN hb fuel (n + 1) (by omega) (by omega) with ⟨r1, r2⟩ | ⟨m, i', r1, r2, r3, r4, r5, r6, r7⟩
        · refine .inl ⟨r1, fun k i2 h3 h4 h5 => ?_⟩
          by_cases q : k = n
          · subst q; rw [hu i2 h5]; exact hh
          · exact r2 k i2 (by omega) h4 h5
        · refine .inr ⟨m, i', by omega, r2, r3, r4, r5, r6, fun k i2 h3 h4 h5 => ?_⟩
          by_cases q : k = n
          · subst q; rw [hu i2 h5]; exact hh
          · exact r7 k i2 (by omega) h4 h5
theorem probe_ok {t : SetTable} {hashAt : Nat → Int} {h : Int} {n N : Nat} (hd : t.dummies = #[]) (hs : t.place.toList.Pairwise (· < ·)) (hN : (pr t.mask h N).j ∉ t.place.toList) (hb : ∀ k, k < N → (pr t.mask h k).j ∈ t.place.toList) (hl : N < lim t.mask) (hn : n ≤ N) :
    (t.probe hashAt h (pr t.mask h n) = some (.empty (pr t.mask h N).j none) ∧ ∀ k i, n ≤ k → k < N → t.place.toList[i]? = some (pr t.mask h k).j → hashAt i ≠ h) ∨
    ∃ m i, n ≤ m ∧ m < N ∧ t.probe hashAt h (pr t.mask h n) = some (.candidate (pr t.mask h m).j i (pr t.mask h (m + 1))) ∧ t.slot (pr t.mask h m).j = .live i ∧ t.place.toList[i]? = some (pr t.mask h m).j ∧ hashAt i = h ∧ ∀ k i, n ≤ k → k < m → t.place.toList[i]? = some (pr t.mask h k).j → hashAt i ≠ h :=
  probe_go hd hs hN hb _ n hn (by have : 10 * SetTable.turns t.mask = lim t.mask := rfl; omega)
-- putting at a free place
theorem insertAt_list {α : Type} {xs : Array α} {A B : List α} {x : α} (e : xs.toList = A ++ B) : (SetTable.insertAt xs A.length x).toList = A ++ x :: B := by
  unfold SetTable.insertAt
  have hl : xs.size = A.length + B.length := by rw [← Array.length_toList, e, List.length_append]
  simp only [Array.toList_append, Array.toList_push, Array.toList_extract]
  simp [List.extract_eq_take_drop, hl, e]
theorem put_ok' {t : SetTable} {es : Array (Int × Value)} {h : Int} {x : Value} {j : Nat} (P : PlOk t es) (hj : j ∉ t.place.toList) (hr : Reach t.mask (· ∈ t.place.toList) h j) (hf : es.size + 1 ≤ t.mask) :
    ∃ t' p, t.put j = (t', p) ∧ PlOk t' (SetTable.insertAt es p (h, x)) ∧ t'.mask = t.mask ∧ t'.led = t.led ∧ t'.plain = t.plain ∧ t'.finger = t.finger ∧ t'.moves = t.moves ∧ (SetTable.insertAt es p (h, x)).toList.Perm ((h, x) :: es.toList) := by
  obtain ⟨A, B, e, hA, h1, h2⟩ := below_ok (j := j) P.rise
  have hsz : es.toList.length = t.place.toList.length := by simpa using P.size.symm
  have hel : es.toList = es.toList.take A.length ++ es.toList.drop A.length := (List.take_append_drop ..).symm
  have hAl : (es.toList.take A.length).length = A.length := by rw [List.length_take, hsz, e, List.length_append]; omega
  have hp' : (SetTable.insertAt t.place A.length j).toList = A ++ j :: B := insertAt_list e
  have he' : (SetTable.insertAt es A.length (h, x)).toList = es.toList.take A.length ++ (h, x) :: es.toList.drop A.length := by
    conv => lhs; rw [← hAl]
    exact insertAt_list hel
  have hput : t.put j = ({ t with place := SetTable.insertAt t.place A.length j }, A.length) := by
    unfold SetTable.put
    dsimp only
    rw [← hA]
    have : SetTable.has t.dummies j = false := by rw [P.dum]; unfold SetTable.has; simp
    rw [this]
    rfl
  refine ⟨_, _, hput, ⟨P.mask, P.dum, ?_, ?_, ?_, ?_⟩, rfl, rfl, rfl, rfl, rfl, ?_⟩
  · show (SetTable.insertAt t.place A.length j).size = _
    rw [← Array.length_toList, ← Array.length_toList, hp', he', List.length_append, List.length_append, List.length_cons, List.length_cons, hAl, List.length_drop, hsz, e, List.length_append]
    omega
  · show (SetTable.insertAt t.place A.length j).toList.Pairwise _
    rw [hp']
    have rs := P.rise
    rw [e] at rs hj
    obtain ⟨r1, r2, r3⟩ := List.pairwise_append.mp rs
    refine List.pairwise_append.mpr ⟨r1, List.pairwise_cons.mpr ⟨fun b hb => ?_, r2⟩, fun a ha b hb => ?_⟩
    · have := h2 b hb
      have : j ≠ b := fun q => hj (q ▸ List.mem_append_right _ hb)
      omega
    · rcases List.mem_cons.mp hb with rfl | hb
      · exact h1 a ha
      · exact r3 a ha b hb
  · show (SetTable.insertAt es A.length (h, x)).size ≤ t.mask
    rw [← Array.length_toList, he', List.length_append, List.length_cons, hAl, List.length_drop]
    have e1 : es.toList.length = es.size := by simp
    have e2 : A.length ≤ es.toList.length := by rw [hsz, e, List.length_append]; omega
    clear hAl
    omega
  · show ∀ p ∈ (SetTable.insertAt t.place A.length j).toList.zip (SetTable.insertAt es A.length (h, x)).toList, Reach t.mask (· ∈ (SetTable.insertAt t.place A.length j).toList) p.2.1 p.1
    rw [hp', he', List.zip_append hAl.symm, List.zip_cons_cons]
    have sub : ∀ k, k ∈ t.place.toList → k ∈ A ++ j :: B := fun k hk => by
      rw [e] at hk
      rcases List.mem_append.mp hk with h | h
      · exact List.mem_append_left _ h
      · exact List.mem_append_right _ (.tail _ h)
    have old : ∀ p ∈ A.zip (es.toList.take A.length) ++ B.zip (es.toList.drop A.length), Reach t.mask (· ∈ A ++ j :: B) p.2.1 p.1 := fun p hp => by
      rw [← List.zip_append hAl.symm, ← hel, ← e] at hp
      exact (P.reach p hp).mono sub
    intro p hp
    rcases List.mem_append.mp hp with hp | hp
    · exact old p (List.mem_append_left _ hp)
    · rcases List.mem_cons.mp hp with rfl | hp
      · exact hr.mono sub
      · exact old p (List.mem_append_right _ hp)
  · rw [he']
    conv => rhs; rw [hel]
    exact List.perm_middle
end
-- part C40
section
theorem run_top {mask i : Nat} (h : i < mask + 1) : SetTable.runEnd mask i ≤ mask := by unfold SetTable.runEnd; split <;> omega
theorem run_ge (mask i : Nat) : i ≤ SetTable.runEnd mask i := by unfold SetTable.runEnd; split <;> omega
-- a clean table's free place
theorem free_go {mask : Nat} {h : Int} {owner : Array (Option Nat)} {js : List Nat} (hsz : owner.size = mask + 1) (hO : ∀ j, j < mask + 1 → (j ∈ js ↔ owner.getD j (some 0) ≠ none)) {Q : Nat} (hQ : (st mask h Q).1 ∉ js) (hQ2 : Q < 13 + mask + 1) :
    ∀ (fuel q n : Nat), q ≤ Q → Q < q + fuel → n ≤ 10 * q → pr mask h n = ⟨(st mask h q).1, SetTable.runEnd mask (st mask h q).1 - (st mask h q).1, (st mask h q).1, (st mask h q).2, none⟩ → (∀ k, k < n → (pr mask h k).j ∈ js) →
    ∃ j, SetTable.layClean.free mask owner fuel (st mask h q).1 (st mask h q).2 = some j ∧ j < mask + 1 ∧ j ∉ js ∧ Reach mask (· ∈ js) h j
  | 0, q, n, h1, h2, _, _, _ => by omega
  | fuel + 1, q, n, h1, h2, h3, e, hb => by
    unfold SetTable.layClean.free
    have hi := st_lt (mask := mask) h q
    have ht := run_top hi
    have hg := run_ge mask (st mask h q).1
    have hl9 := run_len mask (st mask h q).1
    have at_ := fun k hk => run_go e k hk
    cases hf : (List.range (SetTable.runEnd mask (st mask h q).1 + 1 - (st mask h q).1)).find? fun k => (owner.getD ((st mask h q).1 + k) (some 0)).isNone with
    | some k =>
      obtain ⟨f1, f2, f3⟩ := List.find?_range_eq_some.mp hf
      rw [List.mem_range] at f2
      have hk : k ≤ SetTable.runEnd mask (st mask h q).1 - (st mask h q).1 := by omega
      have hnj : (st mask h q).1 + k ∉ js := fun hm => (hO _ (by omega)).mp hm (by simpa using f1)
      refine ⟨_, rfl, by omega, hnj, n + k, by unfold lim SetTable.turns; omega, by rw [at_ k hk], fun k' hk' => ?_⟩
      by_cases q' : k' < n
      · exact hb k' q'
      · have e' := at_ (k' - n) (by omega)
        rw [show n + (k' - n) = k' by omega] at e'
        rw [e']
        refine (hO _ (by dsimp only; omega)).mpr fun hn => ?_
        have := f3 (k' - n) (by omega)
        rw [hn] at this
        simp at this
    | none =>
      have hn := List.find?_eq_none.mp hf
      have all : ∀ k, k ≤ SetTable.runEnd mask (st mask h q).1 - (st mask h q).1 → (st mask h q).1 + k ∈ js := fun k hk => by
        refine (hO _ (by omega)).mpr fun hq => ?_
        have := hn k (List.mem_range.mpr (by omega))
        rw [hq] at this
        simp at this
      have hqQ : q ≠ Q := fun hq => hQ (by have := all 0 (by omega); rw [← hq]; exact this)
      have e2 := at_ _ (Nat.le_refl _)
      have e3 : pr mask h (n + (SetTable.runEnd mask (st mask h q).1 - (st mask h q).1) + 1) = ⟨(st mask h (q + 1)).1, SetTable.runEnd mask (st mask h (q + 1)).1 - (st mask h (q + 1)).1, (st mask h (q + 1)).1, (st mask h (q + 1)).2, none⟩ := by
        rw [pr_step, e2]
        unfold stepP
        dsimp only
        rw [if_neg (by omega)]
        rfl
      refine free_go hsz hO hQ hQ2 fuel (q + 1) _ (by omega) (by omega) (by omega) e3 fun k hk => ?_
      by_cases q' : k < n
      · exact hb k q'
      · have e' := at_ (k - n) (by omega)
        rw [show n + (k - n) = k by omega] at e'
        rw [e']
        exact all (k - n) (by omega)
theorem free_ok {mask : Nat} (hm : MaskOk mask) (h : Int) {owner : Array (Option Nat)} {js : List Nat} (hsz : owner.size = mask + 1) (hO : ∀ j, j < mask + 1 → (j ∈ js ↔ owner.getD j (some 0) ≠ none)) (hl : js.length ≤ mask) :
    ∃ j, SetTable.layClean.free mask owner (SetTable.turns mask) (SetTable.bits h % (mask + 1)) (SetTable.bits h) = some j ∧ j < mask + 1 ∧ j ∉ js ∧ Reach mask (· ∈ js) h j := by
  obtain ⟨j0, hj0, hn⟩ := free_slot (n := mask + 1) (pl := js) (by omega)
  obtain ⟨Q, hQ, eQ⟩ := st_all hm h hj0
  exact free_go (Q := Q) (q := 0) (n := 0) hsz hO (by rw [eQ]; exact hn) hQ _ (Nat.zero_le _) (by unfold SetTable.turns; omega) (Nat.zero_le _) rfl fun k hk => absurd hk (Nat.not_lt_zero _)
structure LayInv (mask : Nat) (hs : List Int) (owner : Array (Option Nat)) (js : List Nat) : Prop where
  size : owner.size = mask + 1
  at_ : ∀ (j i : Nat), owner[j]? = some (some i) ↔ js[i]? = some j
  reach : ∀ (i j : Nat) (h : Int), js[i]? = some j → hs[i]? = some h → Reach mask (· ∈ js) h j
theorem lay_go {mask : Nat} (hm : MaskOk mask) {f : Option (Array (Option Nat) × Nat) → Int → Option (Array (Option Nat) × Nat)} (hf : ∀ owner k h j, SetTable.layClean.free mask owner (SetTable.turns mask) (SetTable.bits h % (mask + 1)) (SetTable.bits h) = some j → f (some (owner, k)) h = some (owner.setIfInBounds j (some k), k + 1)) (hs : List Int) (hl : hs.length ≤ mask) :
    ∀ (rest done : List Int) (owner : Array (Option Nat)) (js : List Nat), hs = done ++ rest → js.length = done.length → LayInv mask hs owner js → ∃ owner' js', List.foldl f (some (owner, done.length)) rest = some (owner', hs.length) ∧ js'.length = hs.length ∧ LayInv mask hs owner' js'
  | [], done, owner, js, e, hj, I => ⟨owner, js, by rw [e, List.append_nil]; rfl, by rw [e, List.append_nil]; exact hj, I⟩
  | h :: rest, done, owner, js, e, hj, I => by
    have hlen : hs.length = done.length + (rest.length + 1) := by rw [e, List.length_append, List.length_cons]
    have hO : ∀ j, j < mask + 1 → (j ∈ js ↔ owner.getD j (some 0) ≠ none) := fun j hj => by
      have hb : j < owner.size := by rw [I.size]; exact hj
      have hg : owner[j]? = some owner[j] := by simp [hb]
      constructor
      · intro hm
        obtain ⟨i, hi⟩ := List.getElem?_of_mem hm
        have := (I.at_ j i).mpr hi
        rw [hg] at this
        simp [Array.getD, hb, Option.some.inj this]
      · intro hn
        have : owner[j] ≠ none := by simpa [Array.getD, hb] using hn
        obtain ⟨i, hi⟩ := Option.ne_none_iff_exists'.mp this
        exact List.mem_of_getElem? ((I.at_ j i).mp (by rw [hg, hi]))
    obtain ⟨j, hfree, hjm, hjn, hr⟩ := free_ok hm h I.size hO (by omega)
    rw [List.foldl_cons, hf owner done.length h j hfree]
    have hb : j < owner.size := by rw [I.size]; exact hjm
    have hsub : ∀ k, k ∈ js → k ∈ js ++ [j] := fun k hk => List.mem_append_left _ hk
    have I' : LayInv mask hs (owner.setIfInBounds j (some done.length)) (js ++ [j]) := by
      refine ⟨by rw [Array.size_setIfInBounds, I.size], fun j' i => ?_, fun i j' h' h1 h2 => ?_⟩
      · rw [Array.getElem?_setIfInBounds]
        by_cases q : j = j'
        · subst q
          rw [if_pos rfl, if_pos hb]
          constructor
          · intro h1
            cases h1
            rw [← hj, List.getElem?_append_right (Nat.le_refl _), Nat.sub_self]
            rfl
          · intro h1
            by_cases q2 : i < js.length
            · rw [List.getElem?_append_left q2] at h1
              exact absurd (List.mem_of_getElem? h1) hjn
            · have := (List.getElem?_eq_some_iff.mp h1).1
              rw [List.length_append, List.length_singleton] at this
              rw [show i = done.length by omega]
        · rw [if_neg q, I.at_]
          by_cases q2 : i < js.length
          · rw [List.getElem?_append_left q2]
          · rw [List.getElem?_append_right (by omega), List.getElem?_eq_none (by omega)]
            constructor
            · intro h1; cases h1
            · intro h1
              have h2 := List.mem_of_getElem? h1
              rw [List.mem_singleton] at h2
              exact absurd h2.symm q
      · by_cases q2 : i < js.length
        · rw [List.getElem?_append_left q2] at h1
          exact (I.reach i j' h' h1 h2).mono hsub
        · have hi := (List.getElem?_eq_some_iff.mp h1).1
          rw [List.length_append, List.length_singleton] at hi
          have ei : i = js.length := by omega
          subst ei
          rw [List.getElem?_append_right (Nat.le_refl _), Nat.sub_self] at h1
          cases h1
          rw [e, hj, List.getElem?_append_right (Nat.le_refl _), Nat.sub_self] at h2
          cases h2
          exact hr.mono hsub
    obtain ⟨o', js', h1, h2, h3⟩ := lay_go hm hf hs hl rest (done ++ [h]) _ _ (by rw [e, List.append_assoc]; rfl) (by rw [List.length_append, List.length_append, hj]; rfl) I'
    refine ⟨o', js', ?_, h2, h3⟩
    rw [List.length_append] at h1
    exact h1
theorem lay_clean {mask : Nat} (hm : MaskOk mask) (hs : Array Int) (hl : hs.size ≤ mask) : ∃ owner js, SetTable.layClean mask hs = some owner ∧ js.length = hs.size ∧ LayInv mask hs.toList owner js := by
  unfold SetTable.layClean
  rw [← Array.foldl_toList]
  obtain ⟨o, js, h1, h2, h3⟩ := lay_go hm (f := fun acc h => do
    let (owner, k) ← acc
    let j ← SetTable.layClean.free mask owner (SetTable.turns mask) (SetTable.bits h % (mask + 1)) (SetTable.bits h)
    pure (owner.setIfInBounds j (some k), k + 1)) (fun owner k h j e => by simp [e]) hs.toList (by simpa using hl) hs.toList [] (Array.replicate (mask + 1) none) [] rfl rfl ⟨Array.size_replicate, fun j i => by simp [Array.getElem?_replicate], fun i j h e => by simp at e⟩
  refine ⟨o, js, ?_, by simpa using h2, h3⟩
  have h1' := h1
  rw [List.length_nil] at h1'
  rw [h1']
  rfl
theorem live_fst {f : Nat → Option Nat} : ∀ (l : List Nat), (l.filterMap fun j => (f j).map (j, ·)).map (·.1) = l.filter fun j => (f j).isSome
  | [] => rfl
  | j :: l => by
    rw [List.filterMap_cons]
    cases h : f j with
    | none => rw [List.filter_cons, h]; simpa using live_fst l
    | some i => rw [List.filter_cons, h]; simpa using live_fst l
theorem laid_ok {mask finger moves : Nat} {led plain : Bool} (hm : MaskOk mask) {es : Array (Int × Value)} (hl : es.size ≤ mask) : ∃ t' order, SetTable.laid mask finger moves led plain (es.map (·.1)) = some (t', order) ∧ t'.mask = mask ∧ t'.led = led ∧ t'.plain = plain ∧
    PlOk t' (order.filterMap (es[·]?)) ∧ (order.filterMap (es[·]?)).toList.Perm es.toList := by
  obtain ⟨owner, js, h1, h2, I⟩ := lay_clean hm (es.map (·.1)) (by rw [Array.size_map]; exact hl)
  rw [Array.size_map] at h2
  have rd : ∀ j i, j < mask + 1 → ((owner.getD j none) = some i ↔ js[i]? = some j) := fun j i hj => by
    rw [← I.at_]
    have hb : j < owner.size := by rw [I.size]; exact hj
    simp [Array.getD, hb]
  have jlt : ∀ j i, js[i]? = some j → j < mask + 1 := fun j i h => by
    have := (I.at_ j i).mpr h
    have := (Array.getElem?_eq_some_iff.mp this).1
    rw [I.size] at this
    exact this
  let live := (List.range (mask + 1)).filterMap fun j => (owner.getD j none).map (j, ·)
  have hlive : ∀ j i, (j, i) ∈ live ↔ js[i]? = some j := fun j i => by
    simp only [live, List.mem_filterMap, List.mem_range, Option.map_eq_some_iff, Prod.mk.injEq]
    constructor
    · rintro ⟨a, ha, b, hb, rfl, rfl⟩
      exact (rd _ _ ha).mp hb
    · intro h
      exact ⟨j, jlt j i h, i, (rd j i (jlt j i h)).mpr h, rfl, rfl⟩
  have hil : ∀ j i, (j, i) ∈ live → i < es.size := fun j i h => by
    have := (List.getElem?_eq_some_iff.mp ((hlive j i).mp h)).1
    omega
  have hr : live.map (·.1) |>.Pairwise (· < ·) := by
    show ((List.range (mask + 1)).filterMap fun j => (owner.getD j none).map (j, ·)).map (·.1) |>.Pairwise (· < ·)
    rw [live_fst]
    exact List.Pairwise.filter _ List.pairwise_lt_range
  have hfm : ∀ l : List (Nat × Nat), (∀ p ∈ l, p.2 < es.size) → ∃ ys : List (Int × Value), (l.map (·.2)).filterMap (fun i => es[i]?) = ys ∧ ys.length = l.length ∧ ∀ p ∈ (l.map (·.1)).zip ys, ∃ i, (p.1, i) ∈ l ∧ es[i]? = some p.2 := by
    intro l
    induction l with
    | nil => intro _; exact ⟨[], rfl, rfl, fun p hp => nomatch hp⟩
    | cons q l ih =>
      intro hq
      obtain ⟨ys, e, e2, e3⟩ := ih fun p hp => hq p (.tail _ hp)
      have hb := hq q (.head _)
      have hg : es[q.2]? = some es[q.2] := by simp [hb]
      refine ⟨es[q.2] :: ys, by rw [List.map_cons, List.filterMap_cons, hg, e], by simp [e2], fun p hp => ?_⟩
      rw [List.map_cons, List.zip_cons_cons] at hp
      rcases List.mem_cons.mp hp with rfl | hp
      · exact ⟨q.2, .head _, hg⟩
      · obtain ⟨i, h1, h2⟩ := e3 p hp
        exact ⟨i, .tail _ h1, h2⟩
  obtain ⟨ys, e, e2, e3⟩ := hfm live fun p hp => hil p.1 p.2 hp
  have hes : ((live.map (·.2)).toArray.filterMap (es[·]?)).toList = ys := by
    rw [← e]
    simp
  have hnd : (live.map (·.2)).Nodup := by
    refine List.pairwise_map.mpr ?_
    have h3 := List.pairwise_map.mp hr
    refine List.Pairwise.imp_of_mem (fun {a b} ha hb hab q => ?_) h3
    obtain ⟨a1, a2⟩ := a
    obtain ⟨b1, b2⟩ := b
    dsimp only at q hab
    subst q
    have x1 := (hlive _ _).mp ha
    have x2 := (hlive _ _).mp hb
    rw [x1] at x2
    cases x2
    exact Nat.lt_irrefl _ hab
  have hpm : (live.map (·.2)).Perm (List.range es.size) := (List.perm_ext_iff_of_nodup hnd List.nodup_range).mpr fun i => by
    rw [List.mem_range, List.mem_map]
    constructor
    · rintro ⟨⟨j, i'⟩, h, rfl⟩
      exact hil _ _ h
    · intro h
      exact ⟨(js[i]'(by omega), i), (hlive _ _).mpr (by simp [show i < js.length by omega]), rfl⟩
  have hrange : (List.range es.size).filterMap (fun i => es[i]?) = es.toList := by
    apply List.ext_getElem?
    intro i
    have : ∀ (l : List (Int × Value)), (List.range l.length).filterMap (fun i => l[i]?) = l := by
      intro l
      induction l with
      | nil => rfl
      | cons x l ih =>
        rw [List.length_cons, List.range_succ_eq_map, List.filterMap_cons]
        simp only [List.getElem?_cons_zero, List.filterMap_map]
        congr 1
    have h4 := this es.toList
    rw [Array.length_toList] at h4
    simp only [Array.getElem?_toList] at h4
    rw [h4]
  refine ⟨{ mask, place := (live.map (·.1)).toArray, dummies := #[], finger, led, moves, plain }, (live.map (·.2)).toArray, ?_, ?_, ?_, ?_, ⟨?_, ?_, ?_, ?_, ?_, ?_⟩, ?_⟩
  · unfold SetTable.laid
    rw [h1]
    rfl
  · rfl
  · rfl
  · rfl
  · exact hm
  · rfl
  · show (live.map (·.1)).toArray.size = _
    rw [← Array.length_toList (xs := Array.filterMap _ _), hes, e2]
    simp
  · exact hr
  · show (Array.filterMap _ _).size ≤ mask
    rw [← Array.length_toList, hes, e2]
    have := hpm.length_eq
    rw [List.length_map, List.length_range] at this
    omega
  · show ∀ p ∈ (live.map (·.1)).toArray.toList.zip ((live.map (·.2)).toArray.filterMap (es[·]?)).toList, Reach mask (· ∈ (live.map (·.1)).toArray.toList) p.2.1 p.1
    rw [hes]
    intro p hp
    obtain ⟨i, hi, he⟩ := e3 p hp
    have hj := (hlive _ _).mp hi
    refine (I.reach i p.1 p.2.1 hj (by simp [he])).mono fun k hk => ?_
    obtain ⟨i', hi'⟩ := List.getElem?_of_mem hk
    exact List.mem_map.mpr ⟨(k, i'), (hlive _ _).mpr hi', rfl⟩
  · rw [hes, ← e, ← hrange]
    exact hpm.filterMap _
end
-- part C41
section
variable {X : List Addr} {w : World} {s₀ s s' s1 : Shared} {G₀ G G' : Km} {L : Addr} {m m' : List (Str × Value)} {mu pre post : List (Addr × Obj)} {A : Around} {E : Value → Shared → Prop}
def LvW (l : Leaf) : WData := .tuple [.str l.1, .int (oI l.2)]
def lvH (w : World) (l : Leaf) : Int := hashW w.params (LvW l)
def LvD (l : Leaf) : PyData := .tuple [.str l.1, .int (oI l.2)]
theorem LvAt.well {v : Value} {l : Leaf} (W : Wd w G s) (h : LvAt G v l) : Well w.params s.heap v (LvW l) := by
  obtain ⟨p, t1, t2, rfl, hp⟩ := h
  exact .tuple (W.keep _ _ hp) (.cons (.str ..) (.cons (.int ..) .nil))
theorem LvAt.reads {v : Value} {l : Leaf} (W : Wd w G s) (h : LvAt G v l) : Reads s.heap v (LvD l) [] := by
  obtain ⟨p, t1, t2, rfl, hp⟩ := h
  have r : ReadsAll s.heap [Value.str l.1 t1, .int (oI l.2) t2] [.str l.1, .int (oI l.2)] [] := .cons (as := []) (bs := []) (.str _ _) (.cons (as := []) (bs := []) (.int _ _) .nil)
  exact .tuple (W.keep _ _ hp) rfl rfl r
theorem oI_inj {a b : Bool} (h : oI a = oI b) : a = b := by revert h; cases a <;> cases b <;> decide
theorem LvD_eqv (l l' : Leaf) : PyData.eqv (LvD l) (LvD l') = decide (l = l') := by
  obtain ⟨a, x⟩ := l
  obtain ⟨b, y⟩ := l'
  unfold LvD
  simp only [PyData.eqv, PyData.eqvAll]
  by_cases h1 : a = b
  · subst h1
    cases x <;> cases y <;> simp [oI]
  · simp [h1]
theorem R_hashLv {v : Value} {l : Leaf} {Q : Int → Shared → Prop} (W : Wd w G s) (h : LvAt G v l) (hu : A.units + 4 < cLine) (hQ : ∀ tk, Q (lvH w l) { s with toks := tk }) : wpAny (MD w) A (pyHash v) Q E s :=
  pyHash_laid (LvW l) v A s Q rfl (h.well W) (by
    have : (LvW l).depth ≤ 4 := by simp [LvW, WData.depth, WData.depthAll]
    omega) hQ
def LfOk (l : Leaf) : Prop := l.1 ∈ nmL
theorem LfOk.lay {l : Leaf} (h : LfOk l) : (LvD l).canLay0 = true := by
  obtain ⟨n, b⟩ := l
  rcases nm_cases h with e | e | e | e <;> (cases e; cases b <;> decide +kernel)
theorem R_eqLv {v u : Value} {l l' : Leaf} {Q : Bool → Shared → Prop} (W : Wd w G s) (h : LvAt G v l) (h' : LvAt G u l') (hl : LfOk l) (hl' : LfOk l') (hu : A.units + 4 < cLine) (hQ : Q (decide (l = l')) s) : wpAny (MD w) A (eqBool v u) Q E s :=
  PySem.SeqAt.eqBoolOverData _ _ A E s v u (LvD l) (LvD l') [] [] Q (h.reads W) (h'.reads W) hl.lay hl'.lay (by
    have : (LvD l).depth ≤ 4 := by simp [LvD, PyData.depth, PyData.depthAll]
    omega) (by rw [LvD_eqv]; exact hQ)
theorem R_quietLv {v : Value} {l : Leaf} {Q : Bool → Shared → Prop} (W : Wd w G s) (h : LvAt G v l) (hQ : Q true s) : wpAny (MD w) A (eqIsQuiet 8 v) Q E s := by
  obtain ⟨p, t1, t2, rfl, hp⟩ := h
  have ho := W.keep _ _ hp
  have hT : s.TypeIs (.ref p) "tuple" := ⟨_, ho, rfl⟩
  unfold eqIsQuiet
  refine wpAny_bind (wpAny_specialOf hT F.slot_tuple_eq.lookup ?_)
  show wpAny _ _ (isInstance (.ref p) (.type "tuple") >>= _) _ _ s
  refine wpAny_bind (wpAny_isInstance hT isSubtype_tuple_tuple ?_)
  simp only [Bool.not_true, Bool.false_eq_true, if_false]
  refine wpAny_bind (wpAny_seqItems ho rfl ?_)
  refine wpAny_bind ?_
  show wpAny _ _ (forIn ([Value.str l.1 t1, .int (oI l.2) t2] : List Value).toArray _ _) _ _ s
  rw [← Array.forIn_toList]
  show wpAny _ _ (forIn [Value.str l.1 t1, .int (oI l.2) t2] _ _) _ _ s
  rw [List.forIn_cons]
  refine wpAny_bind ?_
  rw [eqIsQuiet_byValue _ (v := .str l.1 t1) rfl]
  refine wpAny_bind (wpAny_pure ?_)
  simp only [Bool.not_true, Bool.false_eq_true, if_false]
  refine wpAny_pure ?_
  dsimp only
  rw [List.forIn_cons]
  refine wpAny_bind ?_
  rw [eqIsQuiet_byValue _ (v := .int (oI l.2) t2) rfl]
  refine wpAny_bind (wpAny_pure ?_)
  simp only [Bool.not_true, Bool.false_eq_true, if_false]
  refine wpAny_pure ?_
  dsimp only
  rw [List.forIn_nil]
  exact wpAny_pure (wpAny_pure hQ)
theorem R_classLv {v : Value} {l : Leaf} {Q : Bool → Shared → Prop} (W : Wd w G s) (h : LvAt G v l) (hQ : Q false s) : wpAny (MD w) A (ofAClassStatement 8 v) Q E s := by
  obtain ⟨p, t1, t2, rfl, hp⟩ := h
  have ho := W.keep _ _ hp
  have hT : s.TypeIs (.ref p) "tuple" := ⟨_, ho, rfl⟩
  unfold ofAClassStatement
  refine wpAny_bind (wpAny_typeOf hT ?_)
  dsimp only
  rw [if_pos (by decide)]
  refine wpAny_bind (wpAny_pure ?_)
  rw [if_neg (by decide)]
  refine wpAny_bind (wpAny_seqItems ho rfl ?_)
  dsimp only
  refine wpAny_bind ?_
  rw [← Array.forIn_toList]
  show wpAny _ _ (forIn [Value.str l.1 t1, .int (oI l.2) t2] _ _) _ _ s
  have e1 : ofAClassStatement 7 (.str l.1 t1) = pure false := by unfold ofAClassStatement; rfl
  have e2 : ofAClassStatement 7 (.int (oI l.2) t2) = pure false := by unfold ofAClassStatement; rfl
  rw [List.forIn_cons, e1]
  refine wpAny_bind (wpAny_bind (wpAny_pure ?_))
  simp only [Bool.false_eq_true, if_false]
  refine wpAny_pure ?_
  dsimp only
  rw [List.forIn_cons, e2]
  refine wpAny_bind (wpAny_bind (wpAny_pure ?_))
  simp only [Bool.false_eq_true, if_false]
  refine wpAny_pure ?_
  dsimp only
  rw [List.forIn_nil]
  exact wpAny_pure (wpAny_pure hQ)
-- nobody sees the search
theorem R_seenLv {v : Value} {l : Leaf} {Q : Bool → Shared → Prop} (W : Wd w G s) (h : LvAt G v l) : ∀ (ys : List Value), (∀ y ∈ ys, ∃ l', LvAt G y l') → Q false s → wpAny (MD w) A (searchCouldBeSeen v ys) Q E s := by
  intro ys hy hQ
  unfold searchCouldBeSeen
  refine wpAny_bind (wpAny_forIn_list _ (fun rest r s' => r.1 = none ∧ s' = s ∧ ∀ y ∈ rest, ∃ l', LvAt G y l') _ ?_ ?_ _ _ ⟨rfl, rfl, hy⟩)
  · rintro y rest r s' ⟨hr, rfl, hy⟩
    obtain ⟨l', hl'⟩ := hy y (.head _)
    have tl : ∀ y ∈ rest, ∃ l', LvAt G y l' := fun z hz => hy z (.tail _ hz)
    have h0 := h
    have h0' := hl'
    obtain ⟨p, t1, t2, rfl, hp⟩ := h
    obtain ⟨q, u1, u2, rfl, hq⟩ := hl'
    dsimp only
    by_cases e : p = q
    · subst e
      rw [if_pos (by simp)]
      exact wpAny_pure ⟨rfl, rfl, tl⟩
    · rw [if_neg (by simp [e, carriedByValue])]
      refine wpAny_bind (R_quietLv W h0 ?_)
      simp only [Bool.not_true, Bool.false_eq_true, if_false]
      refine wpAny_bind (R_quietLv W h0' ?_)
      simp only [Bool.not_true, Bool.false_eq_true, if_false]
      refine wpAny_bind (R_classLv W h0 ?_)
      simp only [Bool.false_eq_true, if_false]
      refine wpAny_bind (R_classLv W h0' ?_)
      simp only [Bool.false_eq_true, if_false]
      exact wpAny_pure ⟨rfl, rfl, tl⟩
  · rintro ⟨r1, r2⟩ s' ⟨hr, rfl, _⟩
    simp only at hr
    subst hr
    exact wpAny_pure hQ
end
-- part C42
section
variable {X : List Addr} {w : World} {s₀ s s' s1 : Shared} {G₀ G G' : Km} {L : Addr} {m m' : List (Str × Value)} {mu pre post : List (Addr × Obj)} {A : Around} {E : Value → Shared → Prop}
theorem LvAt.fn {v : Value} {l l' : Leaf} (h : LvAt G v l) (h' : LvAt G v l') : l = l' := by
  obtain ⟨p, t1, t2, rfl, hp⟩ := h
  obtain ⟨q, u1, u2, e, hq⟩ := h'
  cases e
  have := hp.symm.trans hq
  have e2 : ([Value.str l.1 t1, .int (oI l.2) t2] : List Value) = [Value.str l'.1 u1, .int (oI l'.2) u2] := by
    have h3 := Option.some.inj this
    injection h3 with _ _ h4 _
    injection h4 with h5 _
    exact List.toArray_inj h5
  simp only [List.cons.injEq, Value.str.injEq, Value.int.injEq, and_true] at e2
  exact Prod.ext e2.1.1 (oI_inj e2.2.1)
theorem LvsAt.mem : ∀ {vs : List Value} {ls : List Leaf}, LvsAt G vs ls → ∀ v ∈ vs, ∃ l ∈ ls, LvAt G v l
  | [], [], _, v, hv => nomatch hv
  | u :: vs, l :: ls, h, v, hv => by
    rcases List.mem_cons.mp hv with rfl | hv
    · exact ⟨l, .head _, h.1⟩
    · obtain ⟨l', h1, h2⟩ := LvsAt.mem h.2 v hv
      exact ⟨l', .tail _ h1, h2⟩
theorem LvsAt.mem' : ∀ {vs : List Value} {ls : List Leaf}, LvsAt G vs ls → ∀ l ∈ ls, ∃ v ∈ vs, LvAt G v l
  | [], [], _, v, hv => nomatch hv
  | u :: vs, k :: ls, h, l, hl => by
    rcases List.mem_cons.mp hl with rfl | hl
    · exact ⟨u, .head _, h.1⟩
    · obtain ⟨l', h1, h2⟩ := LvsAt.mem' h.2 l hl
      exact ⟨l', .tail _ h1, h2⟩
theorem LvsAt.perm {vs us : List Value} (p : us.Perm vs) : ∀ {ls : List Leaf}, LvsAt G vs ls → ∃ ks, ks.Perm ls ∧ LvsAt G us ks := by
  induction p with
  | nil => intro ls h; exact ⟨ls, .refl _, h⟩
  | cons x p ih =>
    intro ls h
    cases ls with
    | nil => exact h.elim
    | cons l ls =>
      obtain ⟨ks, h1, h2⟩ := ih h.2
      exact ⟨l :: ks, h1.cons _, h.1, h2⟩
  | swap x y l =>
    intro ls h
    match ls, h with
    | [], h => exact h.elim
    | [_], h => exact h.2.elim
    | k1 :: k2 :: ls, h => exact ⟨k2 :: k1 :: ls, .swap .., h.2.1, h.1, h.2.2⟩
  | trans p q ih1 ih2 =>
    intro ls h
    obtain ⟨ks, h1, h2⟩ := ih2 h
    obtain ⟨js, h3, h4⟩ := ih1 h2
    exact ⟨js, h3.trans h1, h4⟩
abbrev setObj (es : Array (Int × Value)) (n : Nat) (t : SetTable) : Obj := { cls := .type "set", dict := none, data := .set es n t }
structure SetIs (w : World) (G : Km) (es : Array (Int × Value)) (t : SetTable) (ls : List Leaf) : Prop where
  pl : PlOk t es
  lv : LvsAt G (es.toList.map (·.2)) ls
  hash : ∀ y ∈ es.toList, ∀ l, LvAt G y.2 l → y.1 = lvH w l
  ok : ∀ l ∈ ls, LfOk l
  nd : ls.Nodup
theorem SetIs.mono {es : Array (Int × Value)} {t : SetTable} {ls : List Leaf} (S : SetIs w G es t ls) (h : G.le G') : SetIs w G' es t ls := ⟨S.pl, S.lv.mono h, fun y hy l hl => by
  obtain ⟨l', _, h2⟩ := S.lv.mem y.2 (List.mem_map_of_mem hy)
  rw [hl.fn (h2.mono h)]
  exact S.hash y hy l' h2, S.ok, S.nd⟩
theorem SetIs.len {es : Array (Int × Value)} {t : SetTable} {ls : List Leaf} (S : SetIs w G es t ls) : ls.length = es.size := by
  have := S.lv.len
  rw [List.length_map, Array.length_toList] at this
  exact this.symm
theorem PlOk.fits {es : Array (Int × Value)} {t : SetTable} (P : PlOk t es) : t.fits es.size = true := by
  unfold SetTable.fits SetTable.fill
  rw [P.dum, P.size]
  simp [P.few]
theorem PlOk.way {es : Array (Int × Value)} {t : SetTable} (P : PlOk t es) : t.gaveWay = false := by
  unfold SetTable.gaveWay
  rcases P.mask with e | e <;> rw [e] <;> rfl
theorem probe_ok' {t : SetTable} {f : Nat → Int} {h : Int} {n N : Nat} {o : Option SetTable.Met} (e : t.probe f h (pr t.mask h n) = o) (hd : t.dummies = #[]) (hs : t.place.toList.Pairwise (· < ·)) (hN : (pr t.mask h N).j ∉ t.place.toList) (hb : ∀ k, k < N → (pr t.mask h k).j ∈ t.place.toList) (hl : N < lim t.mask) (hn : n ≤ N) :
    (o = some (.empty (pr t.mask h N).j none) ∧ ∀ k i, n ≤ k → k < N → t.place.toList[i]? = some (pr t.mask h k).j → f i ≠ h) ∨
    ∃ m i, n ≤ m ∧ m < N ∧ o = some (.candidate (pr t.mask h m).j i (pr t.mask h (m + 1))) ∧ t.slot (pr t.mask h m).j = .live i ∧ t.place.toList[i]? = some (pr t.mask h m).j ∧ f i = h ∧ ∀ k i, n ≤ k → k < m → t.place.toList[i]? = some (pr t.mask h k).j → f i ≠ h := e ▸ probe_ok hd hs hN hb hl hn
theorem if_seen {α : Type} {c : Prop} [Decidable c] {m : Sem Bool} {U T : Sem α} {Q : α → Shared → Prop} (hm : ∀ Q' : Bool → Shared → Prop, Q' false s → wpAny (MD w) A m Q' E s) (hT : wpAny (MD w) A T Q E s) : wpAny (MD w) A (if c then (m >>= fun b => if b = true then U else T) else T) Q E s := by
  by_cases h : c
  · rw [if_pos h]
    refine wpAny_bind (hm _ ?_)
    rw [if_neg (by simp)]
    exact hT
  · rw [if_neg h]; exact hT
theorem SetIs.at_ {es : Array (Int × Value)} {t : SetTable} {ls : List Leaf} (S : SetIs w G es t ls) {i : Nat} {y : Int × Value} (hy : es.toList[i]? = some y) : ∃ n, n < lim t.mask ∧ t.place.toList[i]? = some (pr t.mask y.1 n).j ∧ ∀ k, k < n → (pr t.mask y.1 k).j ∈ t.place.toList := by
  obtain ⟨hi, _⟩ := List.getElem?_eq_some_iff.mp hy
  have hi2 : i < t.place.toList.length := by rw [Array.length_toList] at hi ⊢; rw [S.pl.size]; exact hi
  have hp : t.place.toList[i]? = some t.place.toList[i] := List.getElem?_eq_getElem hi2
  have hz : (t.place.toList[i], y) ∈ t.place.toList.zip es.toList := List.mem_of_getElem? (i := i) (by rw [List.getElem?_zip_eq_some]; exact ⟨hp, hy⟩)
  obtain ⟨n, h1, h2, h3⟩ := S.pl.reach _ hz
  exact ⟨n, h1, by rw [hp]; exact congrArg some h2.symm, h3⟩
theorem SetIs.ent {es : Array (Int × Value)} {t : SetTable} {ls : List Leaf} (S : SetIs w G es t ls) {i j : Nat} (hj : t.place.toList[i]? = some j) : ∃ y, es.toList[i]? = some y := by
  obtain ⟨hi, _⟩ := List.getElem?_eq_some_iff.mp hj
  have hi2 : i < es.toList.length := by rw [Array.length_toList] at hi ⊢; rw [← S.pl.size]; exact hi
  exact ⟨_, List.getElem?_eq_getElem hi2⟩
theorem search_run {a : Addr} {es : Array (Int × Value)} {ep : Nat} {t : SetTable} {ls : List Leaf} {v : Value} {l : Leaf} {Q : SetFound → Shared → Prop} (W : Wd w G s) (hg : s.heap.get? a = some (setObj es ep t)) (S : SetIs w G es t ls) (hv : LvAt G v l) (hl : LfOk l) (hu : A.units + 4 < cLine) {N : Nat}
    (hN : (pr t.mask (lvH w l) N).j ∉ t.place.toList) (hb : ∀ k, k < N → (pr t.mask (lvH w l) k).j ∈ t.place.toList) (hlim : N < lim t.mask) (h1 : l ∈ ls → Q (.there none) s) (h2 : l ∉ ls → Q (.free (pr t.mask (lvH w l) N).j false) s) :
    ∀ (fuel n : Nat) (stand : Option SetTable.Probe), n ≤ N → N < n + fuel → stand.getD (t.probeStart (lvH w l)) = pr t.mask (lvH w l) n → (∀ (k i : Nat) (y : Int × Value), k < n → t.place.toList[i]? = some (pr t.mask (lvH w l) k).j → es.toList[i]? = some y → ¬ LvAt G y.2 l) →
    wpAny (MD w) A (setSearchFrom a v (lvH w l) true fuel stand) Q E s
  | 0, n, _, e1, e2, _, _ => by omega
  | fuel + 1, n, stand, e1, e2, hst, hbef => by
    unfold setSearchFrom
    refine wpAny_bind (wpAny_setState_of hg rfl S.pl.fits ?_)
    dsimp only
    rw [S.pl.way, if_neg (by simp), hst]
    split
    · rename_i met heq
      rcases probe_ok' heq S.pl.dum S.pl.rise hN hb hlim e1 with ⟨r1, r2⟩ | ⟨k, i, r1, r2, r3, r4, r5, r6, r7⟩
      · cases r1
        dsimp only
        refine wpAny_pure (h2 fun hm => ?_)
        obtain ⟨v', hv', hl'⟩ := S.lv.mem' l hm
        obtain ⟨y, hy, rfl⟩ := List.mem_map.mp hv'
        obtain ⟨i, hi⟩ := List.getElem?_of_mem hy
        obtain ⟨n0, q1, q2, q3⟩ := S.at_ hi
        have hh := S.hash y hy l hl'
        rw [hh] at q2 q3
        have q4 : n0 < N := by
          rcases Nat.lt_trichotomy n0 N with q | q | q
          · exact q
          · exact absurd (q ▸ List.mem_of_getElem? q2) hN
          · exact absurd (q3 N q) hN
        by_cases q : n0 < n
        · exact hbef n0 i y q q2 hi hl'
        · refine r2 n0 i (by omega) q4 q2 ?_
          show (es[i]?.map (·.1)).getD 0 = _
          rw [← Array.getElem?_toList, hi]
          exact hh
      · cases r3
        dsimp only
        obtain ⟨y, hy⟩ := S.ent r5
        have hy2 : es[i]? = some y := by rw [← Array.getElem?_toList]; exact hy
        have hym : y ∈ es.toList := List.mem_of_getElem? hy
        obtain ⟨l', hl'm, hl'⟩ := S.lv.mem y.2 (List.mem_map_of_mem hym)
        refine if_seen (fun Q' h => R_seenLv W hv _ (fun z hz => ?_) h) ?_
        · obtain ⟨y', hy', rfl⟩ := List.mem_map.mp hz
          rw [Array.toList_filter] at hy'
          obtain ⟨l2, _, h2⟩ := S.lv.mem y'.2 (List.mem_map_of_mem (List.mem_filter.mp hy').1)
          exact ⟨l2, h2⟩
        rw [hy2]
        obtain ⟨yh, yv⟩ := y
        dsimp only
        refine wpAny_bind (wpAny_holding (R_eqLv W hl' hv (S.ok _ hl'm) hl hu ?_))
        refine wpAny_bind (wpAny_setState_of hg rfl S.pl.fits ?_)
        dsimp only
        by_cases hll : l' = l
        · subst hll
          rw [decide_eq_true rfl, if_pos (by rfl)]
          exact wpAny_pure (h1 hl'm)
        · rw [decide_eq_false hll, if_neg (by simp)]
          have hsm : t.sameMemory t.moves t.mask = some true := by unfold SetTable.sameMemory; simp
          rw [hsm]
          try dsimp only
          rw [if_pos rfl, r4]
          try dsimp only
          rw [hy2]
          obtain ⟨p, t1, t2, rfl, hp⟩ := id hl'
          refine wpAny_bind (wpAny_isSame_ref_self (wpAny_bind (wpAny_pure ?_)))
          try dsimp only
          rw [if_pos rfl]
          try dsimp only
          rw [if_neg (by simp)]
          refine search_run W hg S hv hl hu hN hb hlim h1 h2 fuel (k + 1) _ (by omega) (by omega) rfl fun k' i' y' hk' hp' hy' hla => ?_
          rcases Nat.lt_trichotomy k' k with q | q | q
          · by_cases q2 : k' < n
            · exact hbef k' i' y' q2 hp' hy' hla
            · refine r7 k' i' (by omega) q hp' ?_
              show (es[i']?.map (·.1)).getD 0 = _
              rw [← Array.getElem?_toList, hy']
              exact S.hash y' (List.mem_of_getElem? hy') l hla
          · subst q
            obtain ⟨i2, _, _, hu2⟩ := live_at S.pl.rise (List.mem_of_getElem? r5)
            have : i' = i := (hu2 i' hp').trans (hu2 i r5).symm
            subst this
            rw [hy] at hy'
            cases hy'
            exact hll (hl'.fn hla)
          · omega
    · rename_i heq
      rcases probe_ok' (o := none) (Option.eq_none_iff_forall_ne_some.mpr fun m hm => heq m hm) S.pl.dum S.pl.rise hN hb hlim e1 with ⟨r1, _⟩ | ⟨_, _, _, _, r3, _⟩
      · cases r1
      · cases r3
end
-- part C43
section
variable {X : List Addr} {w : World} {s₀ s s' s1 : Shared} {G₀ G G' : Km} {L : Addr} {m m' : List (Str × Value)} {mu pre post : List (Addr × Obj)} {A : Around} {E : Value → Shared → Prop}
structure SetOk (w : World) (G : Km) (es : Array (Int × Value)) (t : SetTable) (ls : List Leaf) : Prop where
  is : SetIs w G es t ls
  few : t.mask = 7 → es.size ≤ 4
  plain : 1 ≤ es.size → t.plain = false
  led : t.led = !w.params.followText "set-order"
theorem PlOk.same {es : Array (Int × Value)} {t t' : SetTable} (P : PlOk t es) (h1 : t'.mask = t.mask) (h2 : t'.place = t.place) (h3 : t'.dummies = t.dummies) : PlOk t' es := ⟨h1 ▸ P.mask, h3 ▸ P.dum, h2 ▸ P.size, h2 ▸ P.rise, h1 ▸ P.few, by rw [h1, h2]; exact P.reach⟩
theorem R_byValue {v : Value} {l : Leaf} {Q : Bool → Shared → Prop} (W : Wd w G s) (h : LvAt G v l) (hQ : Q false s) : wpAny (MD w) A (hashByValue 8 v) Q E s := by
  obtain ⟨p, t1, t2, rfl, hp⟩ := h
  have ho := W.keep _ _ hp
  have hT : s.TypeIs (.ref p) "tuple" := ⟨_, ho, rfl⟩
  unfold hashByValue
  refine wpAny_bind (wpAny_specialOf hT F.slot_tuple_hash.lookup ?_)
  show wpAny _ _ (seqItems? (.ref p) >>= _) _ _ s
  refine wpAny_bind (wpAny_seqItems ho rfl ?_)
  refine wpAny_bind ?_
  show wpAny _ _ (forIn ([Value.str l.1 t1, .int (oI l.2) t2] : List Value).toArray _ _) _ _ s
  rw [← Array.forIn_toList]
  show wpAny _ _ (forIn [Value.str l.1 t1, .int (oI l.2) t2] _ _) _ _ s
  have e1 : hashByValue 7 (.str l.1 t1) = pure false := by unfold hashByValue; rfl
  rw [List.forIn_cons, e1]
  refine wpAny_bind (wpAny_bind (wpAny_pure ?_))
  simp only [Bool.not_false, if_true]
  refine wpAny_pure ?_
  dsimp only
  exact wpAny_pure (wpAny_pure hQ)
theorem leaf8 : ∀ {ls : List Leaf}, ls.Nodup → (∀ l ∈ ls, LfOk l) → ls.length ≤ 8 := by
  intro ls nd ok
  have sub : ls ⊆ nmL.flatMap fun n => [(n, false), (n, true)] := fun l hl => by
    obtain ⟨n, b⟩ := l
    refine List.mem_flatMap.mpr ⟨n, ok _ hl, ?_⟩
    cases b <;> simp
  have := nodup_len nd sub
  exact this
theorem add_end {a : Addr} {es es' : Array (Int × Value)} {ep n : Nat} {t tn : SetTable} {ls' : List Leaf} {Q : Bool → Shared → Prop} (C : Cx X w s₀ G₀ G L m (pre ++ (a, setObj es ep t) :: post) s) (S : SetIs w G es' tn ls') (hpl : tn.plain = false) (hld : tn.led = !w.params.followText "set-order") (h7 : tn.mask = 7 → es'.size ≤ 5) (hn : n = es'.size)
    (h' : ∀ b s' es' ep' t' ls2, SetOk w G es' t' ls2 → ls2.Perm ls' → Cx X w s₀ G₀ G L m (pre ++ (a, setObj es' ep' t') :: post) s' → Q b s') :
    wpAny (MD w) A (storeSet a es' tn >>= fun _ => if (!false && tn.tooFull) = true then (setRelay a (SetTable.grown n) >>= fun _ => pure true) else pure true) Q E s := by
  have h8 : es'.size ≤ 8 := by rw [← S.len]; exact leaf8 S.nd S.ok
  have hg := C.getMu (a := a) (o := setObj es ep t) (by simp)
  refine wpAny_bind (wpAny_storeSet_of hg rfl ?_ (by rw [sizeLine_eq]; omega))
  have hg2 : (s.heap.update a (Obj.putSet es' tn)).get? a = some (setObj es' (ep + 1) tn) := Heap.get?_update_self (h := s.heap) (Obj.putSet es' tn) hg rfl
  have C2 := C.updMu (t := s.toks) (Heap.SameBut.update ..) hg2
  by_cases hf : tn.tooFull = true
  · rw [hf, if_pos (by rfl)]
    have hfull : tn.mask * 3 ≤ es'.size * 5 := by
      unfold SetTable.tooFull SetTable.fill at hf
      rw [S.pl.dum, S.pl.size] at hf
      simpa using hf
    have hm7 : tn.mask = 7 := by rcases S.pl.mask with e | e <;> omega
    have h5 : es'.size = 5 := by have := h7 hm7; omega
    have hgr : SetTable.grown n = 20 := by rw [hn, h5]; rfl
    rw [hgr]
    unfold setRelay
    refine wpAny_bind (wpAny_bind (wpAny_setState_of hg2 rfl S.pl.fits ?_))
    dsimp only
    rw [if_neg (by rw [sizeLine_eq]; decide)]
    obtain ⟨t', order, l1, l2, l3, l4, l5, l6⟩ := laid_ok (mask := 31) (finger := tn.finger) (moves := tn.movedTo 31) (led := tn.led) (plain := tn.plain) (.inr rfl) (es := es') (by omega)
    have hrl : tn.relaid (es'.map (·.1)) 20 = some (t', order) := l1
    rw [hrl]
    obtain ⟨ls2, p1, p2⟩ := S.lv.perm (l6.map (·.2))
    have hsz : (order.filterMap (es'[·]?)).size = es'.size := by rw [← Array.length_toList, l6.length_eq, Array.length_toList]
    have S2 : SetIs w G (order.filterMap (es'[·]?)) t' ls2 := ⟨l5, p2, fun y hy => S.hash y (l6.mem_iff.mp hy), fun l hl => S.ok l (p1.mem_iff.mp hl), p1.nodup_iff.mpr S.nd⟩
    refine wpAny_bind ?_
    show wpAny _ _ (if ((order.filterMap (es'[·]?)).size != es'.size) = true then _ else _) _ _ _
    rw [hsz, if_neg (by simp)]
    refine wpAny_pure ?_
    dsimp only
    refine wpAny_storeSet_of hg2 rfl ?_ (by rw [hsz, sizeLine_eq]; omega)
    have hg3 : ((s.heap.update a (Obj.putSet es' tn)).update a (Obj.putSet (order.filterMap (es'[·]?)) t')).get? a = some (setObj (order.filterMap (es'[·]?)) (ep + 1 + 1) t') := Heap.get?_update_self (h := s.heap.update a (Obj.putSet es' tn)) (Obj.putSet (order.filterMap (es'[·]?)) t') hg2 rfl
    have C3 := C2.updMu (t := s.toks) (Heap.SameBut.update ..) hg3
    exact wpAny_pure (h' _ _ _ _ t' ls2 ⟨S2, fun e => by rw [l2] at e; exact absurd e (by decide), fun _ => l4.trans hpl, l3.trans hld⟩ p1 C3)
  · rw [Bool.not_eq_true] at hf
    rw [hf, if_neg (by simp)]
    refine wpAny_pure (h' _ _ es' (ep + 1) tn ls' ⟨S, fun e => ?_, fun _ => hpl, hld⟩ (.refl _) C2)
    unfold SetTable.tooFull SetTable.fill at hf
    rw [S.pl.dum, S.pl.size, e] at hf
    simp at hf
    omega
theorem R_setAdd {a : Addr} {es : Array (Int × Value)} {ep : Nat} {t : SetTable} {ls : List Leaf} {v : Value} {l : Leaf} {Q : Bool → Shared → Prop} (C : Cx X w s₀ G₀ G L m (pre ++ (a, setObj es ep t) :: post) s) (rm : Rm A 5) (S : SetOk w G es t ls) (hv : LvAt G v l) (hl : LfOk l)
    (h : ∀ b s' es' ep' t' ls', SetOk w G es' t' ls' → (∀ k, k ∈ ls' ↔ k = l ∨ k ∈ ls) → Cx X w s₀ G₀ G L m (pre ++ (a, setObj es' ep' t') :: post) s' → Q b s') : wpAny (MD w) A (setAdd a v) Q E s := by
  have hu : A.units + 4 < cLine := by have := rm.2.2.1; show A.units + 4 < 9900; omega
  unfold setAdd
  refine wpAny_holding (wpAny_bind (R_hashLv C.wd hv hu fun tk => ?_))
  replace C := C.toks tk
  unfold setAddHashed
  refine wpAny_holding ?_
  have hg := C.getMu (a := a) (o := setObj es ep t) (by simp)
  unfold setAddHashedIn
  refine wpAny_bind (wpAny_setState_of hg rfl S.is.pl.fits ?_)
  dsimp only
  have hsc : byScan v es = false := by
    obtain ⟨p, t1, t2, rfl, hp⟩ := hv
    rfl
  rw [hsc, if_neg (by simp)]
  obtain ⟨N, n1, n2, n3⟩ := meets_free S.is.pl.mask (lvH w l) (pl := t.place.toList) (by rw [Array.length_toList, S.is.pl.size]; exact S.is.pl.few)
  unfold setSearch
  refine wpAny_bind (search_run C.wd hg S.is hv hl hu n2 n3 n1 (fun hm => ?_) (fun hm => ?_) 100000 0 none (Nat.zero_le _) (by
    have : lim t.mask ≤ 1000 := by rcases S.is.pl.mask with e | e <;> rw [e] <;> decide
    omega) rfl fun k i y hk => absurd hk (Nat.not_lt_zero _))
  · dsimp only
    exact wpAny_pure (h _ _ es ep t ls S (fun k => ⟨.inr, fun q => q.elim (fun e => e ▸ hm) id⟩) C)
  · dsimp only
    refine wpAny_bind (wpAny_setState_of hg rfl S.is.pl.fits ?_)
    dsimp only
    have hlt : es.size + 1 ≤ t.mask := by
      have h8 := leaf8 (ls := l :: ls) (List.nodup_cons.mpr ⟨hm, S.is.nd⟩) (fun k hk => by
        rcases List.mem_cons.mp hk with rfl | hk
        · exact hl
        · exact S.is.ok k hk)
      rw [List.length_cons, S.is.len] at h8
      rcases S.is.pl.mask with e | e
      · have := S.few e; omega
      · omega
    obtain ⟨t', p, q1, q2, q3, q4, q5, q6, q7, q8⟩ := put_ok' (x := v) S.is.pl n2 ⟨N, n1, rfl, n3⟩ hlt
    rw [q1]
    dsimp only
    obtain ⟨ls', r1, r2⟩ := LvsAt.perm (q8.map (·.2)) (ls := l :: ls) ⟨hv, S.is.lv⟩
    have hsz : (SetTable.insertAt es p (lvH w l, v)).size = es.size + 1 := by rw [← Array.length_toList, q8.length_eq, List.length_cons, Array.length_toList]
    have hmem : ∀ k, k ∈ ls' ↔ k = l ∨ k ∈ ls := fun k => r1.mem_iff.trans List.mem_cons
    have S' : ∀ tn : SetTable, tn.mask = t'.mask → tn.place = t'.place → tn.dummies = t'.dummies → SetIs w G (SetTable.insertAt es p (lvH w l, v)) tn ls' := fun tn e1 e2 e3 => ⟨q2.same e1 e2 e3, r2, fun y hy k hk => by
      rcases List.mem_cons.mp (q8.mem_iff.mp hy) with rfl | hy
      · rw [hv.fn hk]
      · exact S.is.hash y hy k hk, fun k hk => by
      rcases (hmem k).mp hk with rfl | hk
      · exact hl
      · exact S.is.ok k hk, r1.nodup_iff.mpr (List.nodup_cons.mpr ⟨hm, S.is.nd⟩)⟩
    have h7 : t'.mask = 7 → (SetTable.insertAt es p (lvH w l, v)).size ≤ 5 := fun e => by rw [hsz]; have := S.few (q3 ▸ e); omega
    by_cases hp : t'.plain = true
    · rw [if_pos hp]
      refine wpAny_bind (R_byValue C.wd hv ?_)
      simp only [Bool.false_eq_true, if_false]
      exact add_end C (S' _ rfl rfl rfl) rfl (q4.trans S.led) h7 hsz.symm fun b s' es' ep' tn ls2 hS hpm C' => h b s' es' ep' tn ls2 hS (fun k => hpm.mem_iff.trans (hmem k)) C'
    · rw [if_neg hp]
      refine wpAny_bind (wpAny_pure ?_)
      simp only [if_true]
      exact add_end C (S' _ rfl rfl rfl) (by simpa using hp) (q4.trans S.led) h7 hsz.symm fun b s' es' ep' tn ls2 hS hpm C' => h b s' es' ep' tn ls2 hS (fun k => hpm.mem_iff.trans (hmem k)) C'
end
-- part C44
section
variable {X : List Addr} {w : World} {s₀ s s' s1 : Shared} {G₀ G G' : Km} {L : Addr} {m m' : List (Str × Value)} {mu pre post : List (Addr × Obj)} {A : Around} {E : Value → Shared → Prop}
theorem LvsAt.get : ∀ {vs : List Value} {ls : List Leaf} {i : Nat} {v : Value}, LvsAt G vs ls → vs[i]? = some v → ∃ l, ls[i]? = some l ∧ LvAt G v l
  | [], [], i, v, _, h => by simp at h
  | u :: vs, l :: ls, 0, v, h, e => by cases e; exact ⟨l, rfl, h.1⟩
  | u :: vs, l :: ls, i + 1, v, h, e => by
    rw [List.getElem?_cons_succ] at e
    obtain ⟨k, h1, h2⟩ := LvsAt.get h.2 e
    exact ⟨k, by rw [List.getElem?_cons_succ]; exact h1, h2⟩
theorem PlOk.nil (led : Bool) : PlOk (.fresh 0 0 led) #[] := ⟨.inl rfl, rfl, rfl, List.Pairwise.nil, Nat.zero_le _, fun p hp => nomatch hp⟩
theorem SetOk.nil {led : Bool} (h : led = !w.params.followText "set-order") : SetOk w G #[] (.fresh 0 0 led) [] := ⟨⟨PlOk.nil led, trivial, fun y hy => (nomatch hy), fun l hl => (nomatch hl), List.Pairwise.nil⟩, fun _ => Nat.zero_le _, fun h => absurd h (by decide), h⟩
theorem set_newL (a : Value) {Q₁ : Value → Shared → Prop}
    (h : Q₁ (.ref s.heap.objs.size) { s with heap := s.heap.push { cls := .type "set", dict := none, data := .set #[] 0 (.fresh 0 0 (!w.params.followText "set-order")) } }) :
    codeAny (MD w) A (.call (.builtin "set.__new__") ⟨[.type "set", a], []⟩) (wants Q₁ E) s := by
  refine codeAny_of_tree ?_
  show wpAny _ A.in1 (do checkBuiltinCall "set.__new__" ⟨[.type "set", a], []⟩; again (.builtin "set.__new__" ⟨[.type "set", a], []⟩)) _ _ s
  refine wpAny_bind (wpAny_of_eq (PySem.F.newCall_set_1 a) (wpAny_pure ⟨plainId_quiet PySem.F.plain_set_new _, codeAny_builtin PySem.F.entry_set_new ?_⟩))
  rw [Around.under_plainId PySem.F.plain_set_new _]
  unfold Builtin.«set.__new__» Builtin.Frozenset.newClass
  have hsub := sub_set_self
  obtain ⟨hp, g, d, tk, os⟩ := s
  dsimp only
  wp_walk
  refine wpAny_askSetting (wpAny_pure ?_)
  dsimp only
  simp only [newObj]
  refine wpAny_bind (wpAny_alloc (wpAny_pure ?_))
  exact wpAny_pure h
theorem upd_loop {S I l : Addr} {vs : List Value} {ls : List Leaf} {n : Nat} {R : Result → Shared → Prop} (rm : Rm A 7) (hvs : LvsAt G vs ls) (hok : ∀ k ∈ ls, LfOk k) (hm : (l, lstObj vs n) ∈ mu)
    (hR : ∀ s' es ep t ks, SetOk w G es t ks → (∀ x, x ∈ ks ↔ x ∈ ls) → Cx X w s₀ G₀ G L m ((S, setObj es ep t) :: mu) s' → R (.ok (.ret .none)) s') :
    ∀ (k i : Nat) (s : Shared) (o : Obj) (es : Array (Int × Value)) (ep : Nat) (t : SetTable) (ks : List Leaf), i + k = vs.length → itLO l i o → SetOk w G es t ks → (∀ x, x ∈ ks ↔ x ∈ ls.take i) → Cx X w s₀ G₀ G L m ((I, o) :: (S, setObj es ep t) :: mu) s →
    codeAny (MD w) A (.builtin "set.update.loop" ⟨[.ref S, .ref I], []⟩) R s := by
  intro k
  induction k with
  | zero =>
    intro i s o es ep t ks hk ho hS hks C
    have hl : s.heap.IsList l vs.toArray := ⟨_, C.getMu (.tail _ (.tail _ hm)), rfl, n, rfl⟩
    have e : i = vs.length := by omega
    subst e
    refine codeAny_builtin F.entry_set_update_loop ?_
    rw [Around.under_plainId F.plain_set_update_loop _]
    show wpAny _ A.in1 (pyNext (.ref I) >>= _) _ _ s
    refine wpAny_bind (wpAny_pyNext_list_end rm.in1.1 ⟨o, C.st (I, o) (.head _), ho⟩ hl (by rw [List.getElem?_toArray]; exact List.getElem?_eq_none (by omega)) fun h2 hs2 => ?_)
    show wpAny _ A.in1 (ret Value.none) _ _ _
    exact wpAny_pure (hR _ es ep t ks hS (fun x => by rw [hks, List.take_of_length_le (by rw [← hvs.len]; omega)]) (C.lose (t := s.toks) hs2))
  | succ k ih =>
    intro i s o es ep t ks hk ho hS hks C
    have hl : s.heap.IsList l vs.toArray := ⟨_, C.getMu (.tail _ (.tail _ hm)), rfl, n, rfl⟩
    have hv : vs[i]? = some vs[i] := List.getElem?_eq_getElem (by omega)
    obtain ⟨lf, hlf, hla⟩ := hvs.get hv
    refine codeAny_builtin F.entry_set_update_loop ?_
    rw [Around.under_plainId F.plain_set_update_loop _]
    show wpAny _ A.in1 (pyNext (.ref I) >>= _) _ _ s
    refine wpAny_bind (wpAny_pyNext_list_item ⟨o, C.st (I, o) (.head _), ho⟩ hl (by rw [List.getElem?_toArray]; exact hv) fun h2 hi2 hs2 => ?_)
    obtain ⟨o2, ho2, hc2, hd2⟩ := hi2
    have C2 := C.upd0 (t := s.toks) hs2 ho2
    show wpAny _ A.in1 (holding [vs[i]] (setAdd S vs[i]) >>= _) _ _ _
    refine wpAny_bind (wpAny_holding (R_setAdd (pre := [(I, o2)]) (post := mu) C2 (rm.in1.le (by decide)) hS hla (hok lf (List.mem_of_getElem? hlf)) fun b s' es' ep' t' ks' hS' hks' C' => ?_))
    refine wpAny_pure ⟨plainId_quiet F.plain_set_update_loop _, ih (i + 1) s' o2 es' ep' t' ks' (by omega) ⟨hc2, hd2⟩ hS' (fun x => ?_) C'⟩
    rw [hks', hks, List.take_add_one, hlf, List.mem_append]
    simp only [Option.toList, List.mem_singleton]
    exact ⟨fun h => h.elim .inr .inl, fun h => h.elim .inr .inl⟩
theorem R_setList {l : Addr} {vs : List Value} {ls : List Leaf} {n : Nat} {Q : Value → Shared → Prop} (C : Cx X w s₀ G₀ G L m mu s) (rm : Rm A 14) (hm : (l, lstObj vs n) ∈ mu) (hvs : LvsAt G vs ls) (hok : ∀ k ∈ ls, LfOk k)
    (h : ∀ S s' es ep t ks, SetOk w G es t ks → (∀ x, x ∈ ks ↔ x ∈ ls) → Cx X w s₀ G₀ G L m ((S, setObj es ep t) :: mu) s' → Q (.ref S) s') :
    wpAny (MD w) A (call (.type "set") [.ref l]) Q E s := by
  obtain ⟨c, tl, hmro⟩ := PySem.F.called_set.mro
  have hmade := PySem.F.called_set.made
  have hsub := PySem.F.called_set.sub
  refine wpAny_call (codeAny_of_tree ?_)
  show wpAny _ _ (callAny (.type "set") _) _ _ _
  refine wpAny_pure ⟨Code.quiet_builtin _ (by decide +kernel), codeAny_builtin PySem.F.entry_type_call ?_⟩
  rw [Around.under_plain (weight_type_call_type "set" [.ref l] []) rfl]
  have h1 := PySem.F.called_set.notType
  have h2 := PySem.F.called_set.canCreate
  have hct := PySem.F.typeCall_set_1 (.ref l)
  repeat (any_goals (first | assumption | wp_step))
  refine codeAny_mono (set_newL (.ref l) (E := E) (Q₁ := fun obj s₁ => ∃ led : Bool, led = (!w.params.followText "set-order") ∧ obj = .ref s.heap.objs.size ∧ s₁ = { s with heap := s.heap.push { cls := .type "set", dict := none, data := .set #[] 0 (.fresh 0 0 led) } }) ⟨_, rfl, rfl, rfl⟩) fun r s₁ hr => ?_
  cases r with
  | error e => exact hr
  | ok fl =>
    cases fl with
    | ret obj =>
      obtain ⟨led, hled, rfl, rfl⟩ := hr
      have CS := C.push (o := setObj #[] 0 (.fresh 0 0 led))
      have hS : (s.heap.push { cls := .type "set", dict := none, data := .set #[] 0 (.fresh 0 0 led) }).get? s.heap.objs.size = some { cls := .type "set", dict := none, data := .set #[] 0 (.fresh 0 0 led) } := Heap.get?_push_size _ rfl
      have hT : Shared.TypeIs { s with heap := s.heap.push { cls := .type "set", dict := none, data := .set #[] 0 (.fresh 0 0 led) } } (.ref s.heap.objs.size) "set" := ⟨_, hS, rfl⟩
      have hli := PySem.F.called_set.init.lookup
      have hbi := PySem.F.called_set.init.bind (.ref s.heap.objs.size)
      repeat (any_goals (first | assumption | wp_step))
      refine codeAny_mono (codeAny_call_builtin (R := wants (fun r s₂ => r = .none ∧ ∃ es ep t ks, SetOk w G es t ks ∧ (∀ x, x ∈ ks ↔ x ∈ ls) ∧ Cx X w s₀ G₀ G L m ((s.heap.objs.size, setObj es ep t) :: mu) s₂) E) PySem.F.called_set.init.plain PySem.F.entry_set_init (check_set_init_1 hT ?_)) fun r₂ s₂ hr₂ => ?_
      · have hol' := CS.getMu (a := l) (o := lstObj vs n) (.tail _ hm)
        have hsls := PySem.F.sub_list_set
        have hslf := PySem.F.sub_list_frozenset
        have hne : (Value.type "list" == Value.type "dict") = false := by decide
        have hl1 : (s.heap.push { cls := .type "set", dict := none, data := .set #[] 0 (.fresh 0 0 led) }).IsList l vs.toArray := ⟨_, hol', rfl, n, rfl⟩
        unfold Builtin.«set.__init__» noKeywords Builtin.Frozenset.updateFrom
        generalize hPI : pyIter = PI
        wp_walk
        subst hPI
        refine wpAny_pyIter_list hl1 ?_
        refine wpAny_bind (wpAny_runValue ?_)
        have CI := CS.push (o := { cls := .type "list_iterator", data := .fields #[.ref l, .int 0 0] })
        refine upd_loop (I := (s.heap.push { cls := .type "set", dict := none, data := .set #[] 0 (.fresh 0 0 led) }).objs.size) (S := s.heap.objs.size) (A := A.in1.in1) (rm.in1.in1.le (by decide)) hvs hok hm (fun s' es ep t ks hS' hks C' => ?_) vs.length 0 _ _ #[] 0 (.fresh 0 0 led) [] (Nat.zero_add _) ⟨rfl, rfl⟩ (SetOk.nil hled) (fun x => by simp) CI
        exact wpAny_pure (wpAny_pure ⟨rfl, es, ep, t, ks, hS', hks, C'⟩)
      · cases r₂ with
        | error e => exact hr₂
        | ok fl₂ =>
          cases fl₂ with
          | ret r =>
            obtain ⟨rfl, es, ep, t, ks, hS', hks, C'⟩ := hr₂
            repeat (any_goals (first | assumption | wp_step))
            exact h _ _ es ep t ks hS' hks C'
          | _ => exact hr₂.elim
    | _ => exact hr.elim
end
-- part C45
theorem slot_setiter_next : Slot "set_iterator" "__next__" "set_iterator.__next__" :=
  .of (owner := "set_iterator") (n := "__next__") (by rw [typeLookup_type, builtinLookup_eq_fast]; kernel_rfl) (by decide +kernel) (by decide +kernel) (by decide +kernel)
    (by first | exact .inl (by decide +kernel) | exact .inr (by decide +kernel)) (by rw [isSubtype_type]; kernel_rfl)
theorem entry_setiter_next : entryFor table "set_iterator.__next__" = some Builtin.«set_iterator.__next__» := entryFor_of_fast (by kernel_rfl)
theorem args_setiter_next (a : Value) : argsOk "set_iterator.__next__" ⟨[a], []⟩ := by unfold argsOk; kernel_rfl
theorem entry_set_iter : entryFor table "set.__iter__" = some Builtin.«frozenset.__iter__» :=
  entryFor_alias (id' := "frozenset.__iter__") (by kernel_rfl) rfl (by decide +kernel) (by kernel_rfl)
theorem entry_list_extend_loop : entryFor table "list.extend.loop" = some Builtin.«list.extend.loop» := entryFor_of_fast (by kernel_rfl)
theorem plain_list_extend_loop : plainId "list.extend.loop" = true := by decide +kernel
section
variable {w : World} {s : Shared} {A : Around} {E : Value → Shared → Prop}
theorem wpAny_choose' {src : Source} {n : Nat} {Q : Nat → Shared → Prop} (hn : n ≠ 0) (h : ∀ k, k < n → Q k { s with drawn := s.drawn.bump src }) : wpAny (MD w) A (choose src n) Q E s := by
  intro Γ p _
  show Sem.wp _ _ (.choose src n .pure) _ _ _ _
  rw [Sem.wp_choose]
  exact ⟨hn, h _ (Nat.mod_lt _ (Nat.pos_of_ne_zero hn))⟩
theorem erase_perm {α : Type} : ∀ {l : List α} {k : Nat} (h : k < l.length), (l[k] :: l.eraseIdx k).Perm l
  | [], k, h => absurd h (Nat.not_lt_zero _)
  | x :: l, 0, h => .refl _
  | x :: l, k + 1, h => by
    have h' : k < l.length := by simpa using h
    exact (List.Perm.swap x l[k] (l.eraseIdx k)).trans ((erase_perm h').cons x)
theorem draw_ok {α : Type} : ∀ (n : Nat) (xs : List α) {Q : List α → Shared → Prop} {s : Shared}, xs.length = n → (∀ ys d, ys.Perm xs → Q ys { s with drawn := d }) → wpAny (MD w) A (drawOrder n xs) Q E s
  | 0, xs, Q, s, hl, h => by
    have : xs = [] := List.length_eq_zero_iff.mp hl
    subst this
    unfold drawOrder
    exact wpAny_pure (h [] s.drawn (.refl _))
  | n + 1, [], Q, s, hl, h => by simp at hl
  | n + 1, x :: xs, Q, s, hl, h => by
    unfold drawOrder
    refine wpAny_bind (wpAny_choose' (by simp) fun k hk => ?_)
    have hg : (x :: xs)[k]? = some (x :: xs)[k] := List.getElem?_eq_getElem hk
    rw [hg]
    dsimp only
    refine wpAny_bind (draw_ok n ((x :: xs).eraseIdx k) (by rw [List.length_eraseIdx_of_lt hk]; omega) fun ys d hp => ?_)
    exact wpAny_pure (h _ d ((hp.cons _).trans (erase_perm hk)))
theorem pick_go {α : Type} (next : Nat → Nat) : ∀ (fuel k : Nat) (left : List α) (out : Array α), left.length ≤ fuel → (pickOrder.go next fuel k left out).toList.Perm (out.toList ++ left)
  | 0, k, left, out, h => by
    have : left = [] := List.length_eq_zero_iff.mp (by omega)
    subst this
    unfold pickOrder.go
    rw [List.append_nil]
  | fuel + 1, k, [], out, h => by
    unfold pickOrder.go
    simp
  | fuel + 1, k, x :: xs, out, h => by
    unfold pickOrder.go
    have hk : next k % (x :: xs).length < (x :: xs).length := Nat.mod_lt _ (by simp)
    have hg : (x :: xs)[next k % (x :: xs).length]? = some (x :: xs)[next k % (x :: xs).length] := List.getElem?_eq_getElem hk
    rw [hg]
    dsimp only
    refine (pick_go next fuel (k + 1) _ _ (by rw [List.length_eraseIdx_of_lt hk]; simp only [List.length_cons] at h ⊢; omega)).trans ?_
    rw [Array.toList_push, List.append_assoc]
    exact (erase_perm hk).append_left _
theorem pick_ok {α : Type} (next : Nat → Nat) (xs : Array α) : (pickOrder next xs).toList.Perm xs.toList := by
  have := pick_go next xs.size 0 xs.toList #[] (by simp)
  unfold pickOrder
  simpa using this
end
-- part C46
section
variable {X : List Addr} {w : World} {s₀ s s' s1 : Shared} {G₀ G G' : Km} {L : Addr} {m m' : List (Str × Value)} {mu pre post : List (Addr × Obj)} {A : Around} {E : Value → Shared → Prop}
theorem Cx.draws {d : _} (C : Cx X w s₀ G₀ G L m mu s) : Cx X w s₀ G₀ G L m mu { s with drawn := d } :=
  ⟨⟨C.wd.keep, C.wd.kin, C.wd.tabs, C.wd.off, C.wd.bare⟩, ⟨⟨C.ps.ex.keep, C.ps.ex.grow, C.ps.ex.size, C.ps.ex.os, rfl, C.ps.ex.gsz⟩, C.ps.le, C.ps.fresh⟩, C.ns, C.st, C.nd, C.new, C.newL⟩
abbrev itSObj (a : Value) (i : Nat) (S : Addr) (n ep : Nat) : Obj := { cls := .type "set_iterator", data := .fields #[a, .int i 0, .ref S, .int n 0, .int ep 0] }
def SIt (w : World) (G : Km) (es : Array (Int × Value)) (t : SetTable) (S : Addr) (ep : Nat) (ys : List Value) (i : Nat) (o : Obj) : Prop :=
  (∃ tp, ∃ order : List Nat, TupAt G tp (order.map fun k : Nat => Value.int k 0) ∧ (∀ k ∈ order, k < es.size) ∧ o = itSObj (.ref tp) i S es.size ep ∧ ys = order.map fun k => (es.getD k (0, .none)).2)
  ∨ (w.params.followText "set-order" = true ∧ o = itSObj (.int 0 0) i S es.size ep ∧ ys = (pickOrder (w.params.setOrder S ep) es).toList.map (·.2))
  ∨ (w.params.followText "set-order" = false ∧ es.size ≤ 1 ∧ ys = es.toList.map (·.2) ∧ ∃ slot : Nat, o = itSObj (.int slot 0) i S es.size ep ∧ (i = 0 → slot = 0) ∧ (∀ j ∈ t.place.toList, 0 < i → j < slot))
theorem order_vals {es : Array (Int × Value)} {order : List Nat} (h : order.Perm (List.range es.size)) : (order.map fun k => (es.getD k (0, .none)).2).Perm (es.toList.map (·.2)) := by
  refine (h.map _).trans ?_
  have : (List.range es.size).map (fun k => (es.getD k (0, .none)).2) = es.toList.map (·.2) := by
    apply List.ext_getElem
    · simp
    · intro i h1 h2
      have hi : i < es.size := by simpa using h1
      simp [Array.getD, hi]
  rw [this]
theorem R_iterS {S : Addr} {es : Array (Int × Value)} {ep : Nat} {t : SetTable} {ls : List Leaf} {Q : Value → Shared → Prop} (C : Cx [] w s₀ G₀ G L m mu s) (hS : SetOk w G es t ls) (hm : (S, setObj es ep t) ∈ mu)
    (h : ∀ I s' G' o ys, G.le G' → ys.Perm (es.toList.map (·.2)) → SIt w G' es t S ep ys 0 o → Cx [] w s₀ G₀ G' L m ((I, o) :: mu) s' → Q (.ref I) s') : wpAny (MD w) A (pyIter (.ref S)) Q E s := by
  have hg := C.getMu hm
  have hT : s.TypeIs (.ref S) "set" := ⟨_, hg, rfl⟩
  have h8 : es.size ≤ 8 := by rw [← hS.is.len]; exact leaf8 hS.is.nd hS.is.ok
  refine wpAny_pyIter_slot hT PySem.F.slot_set_iter (wpAny_call_entry PySem.F.slot_set_iter hT entry_set_iter ?_ (PySem.F.args_set_iter_1 _))
  unfold Builtin.«frozenset.__iter__»
  refine wpAny_bind (wpAny_of_eq (a := S) rfl ?_)
  unfold Builtin.Frozenset.sizeOf
  refine wpAny_bind (wpAny_bind (wpAny_setEntries_of hg rfl hS.is.pl.fits (wpAny_pure ?_)))
  unfold setDrawn setsByText
  refine wpAny_bind (wpAny_bind (wpAny_setState_of hg rfl hS.is.pl.fits ?_))
  dsimp only
  refine wpAny_bind (wpAny_bind (wpAny_askSetting (wpAny_pure (wpAny_pure ?_))))
  have fin : ∀ {s2 : Shared} {G2 : Km} {a : Value} {ys : List Value}, G.le G2 → Cx [] w s₀ G₀ G2 L m mu s2 → ys.Perm (es.toList.map (·.2)) → (∀ o, o = itSObj a 0 S es.size ep → SIt w G2 es t S ep ys 0 o) →
      wpAny (MD w) A.in1 (do
        let e ← setEpoch S
        let r ← newFields "set_iterator" [a, rawInt 0, .ref S, rawInt es.size, rawInt e]
        ret r) (fun fin s' => ∃ v, fin = Fin.done (Flow.ret v) ∧ ∃ T' r, s'.TypeIs v T' ∧ typeLookup (Value.type T') ("__next__") = pure (some r) ∧ Q v s') E s2 := by
    intro s2 G2 a ys le C2 hp hi
    have hg2 := C2.getMu hm
    unfold setEpoch
    refine wpAny_bind (wpAny_bind (wpAny_setState_of hg2 rfl hS.is.pl.fits (wpAny_pure ?_)))
    unfold newFields
    refine wpAny_bind (wpAny_newObj_type ?_ (by size_fits))
    have C3 := C2.push (o := itSObj a 0 S es.size ep)
    exact wpAny_pure ⟨_, rfl, "set_iterator", _, ⟨_, C3.getMu (.head _), rfl⟩, slot_setiter_next.lookup, h _ _ G2 _ ys le hp (hi _ rfl) C3⟩
  show wpAny _ _ (if (!w.params.followText "set-order" && (!t.plain && decide (es.size > 1))) = true then _ else _) _ _ _
  by_cases hd : (!w.params.followText "set-order" && (!t.plain && decide (es.size > 1))) = true
  · rw [if_pos hd]
    refine wpAny_bind (draw_ok es.size (List.range es.size) (by simp) fun ys d hp => ?_)
    refine wpAny_bind (R_newT C.draws (by rw [List.length_map, hp.length_eq, List.length_range]; omega) fun tp s2 G2 le2 ht2 C2 => ?_)
    exact fin le2 C2 (order_vals hp) fun o ho => .inl ⟨tp, ys, ht2, fun k hk => List.mem_range.mp (hp.mem_iff.mp hk), ho, rfl⟩
  · rw [if_neg hd]
    refine wpAny_bind (wpAny_pure ?_)
    cases hf : w.params.followText "set-order" with
    | true => exact fin (Km.le.refl _) C ((pick_ok (w.params.setOrder S ep) es).map _) fun o ho => .inr (.inl ⟨hf, ho, rfl⟩)
    | false =>
      have h1 : es.size ≤ 1 := by
        rw [hf] at hd
        by_cases q : es.size ≤ 1
        · exact q
        · exact absurd (by rw [hS.plain (by omega)]; simp; omega) hd
      exact fin (Km.le.refl _) C (.refl _) fun o ho => .inr (.inr ⟨hf, h1, rfl, 0, ho, fun _ => rfl, fun j hj q => absurd q (by omega)⟩)
theorem R_nextS {I S : Addr} {es : Array (Int × Value)} {ep i : Nat} {t : SetTable} {ls : List Leaf} {o : Obj} {ys : List Value} {v : Value} {Q : Option Value → Shared → Prop} (C : Cx [] w s₀ G₀ G L m ((I, o) :: mu) s) (hS : SetOk w G es t ls) (hm : (S, setObj es ep t) ∈ mu) (hi : SIt w G es t S ep ys i o) (hp : ys.Perm (es.toList.map (·.2))) (hv : ys[i]? = some v)
    (h : ∀ s' o', SIt w G es t S ep ys (i + 1) o' → Cx [] w s₀ G₀ G L m ((I, o') :: mu) s' → Q (some v) s') : wpAny (MD w) A (pyNext (.ref I)) Q E s := by
  have hg := C.getMu (.tail _ hm)
  have h8 : es.size ≤ 8 := by rw [← hS.is.len]; exact leaf8 hS.is.nd hS.is.ok
  have ho := C.st (I, o) (.head _)
  have hcls : o.cls = .type "set_iterator" := by rcases hi with ⟨_, _, _, _, rfl, _⟩ | ⟨_, rfl, _⟩ | ⟨_, _, _, _, rfl, _⟩ <;> rfl
  have hT : s.TypeIs (.ref I) "set_iterator" := ⟨_, ho, hcls⟩
  unfold pyNext
  refine wpAny_bind (wpAny_attempt (wpAny_callSpecial?_slot (name := Str.ofString "__next__") hT slot_setiter_next (wpAny_call_entry slot_setiter_next hT entry_setiter_next ?_ (args_setiter_next _))))
  unfold Builtin.«set_iterator.__next__»
  refine wpAny_bind (wpAny_of_eq (a := (.ref I, [])) rfl ?_)
  dsimp only
  rcases hi with ⟨tp, order, ht, hlt, rfl, rfl⟩ | ⟨hf, rfl, rfl⟩ | ⟨hf, h1, rfl, slot, rfl, hs0, hs1⟩
  · refine wpAny_bind (wpAny_fieldsOf ho rfl ?_)
    dsimp only
    refine wpAny_bind (wpAny_setEntries_of hg rfl hS.is.pl.fits ?_)
    rw [if_neg (by simp)]
    rw [List.getElem?_map, Option.map_eq_some_iff] at hv
    obtain ⟨k, hk, rfl⟩ := hv
    have hkl := hlt k (List.mem_of_getElem? hk)
    refine wpAny_bind (wpAny_seqItems (C.get ht) rfl ?_)
    dsimp only
    rw [Int.toNat_natCast, List.getElem?_toArray, List.getElem?_map, hk]
    dsimp only [Option.map_some]
    unfold setNextDrawn
    refine wpAny_bind (wpAny_bind (wpAny_setState_of hg rfl hS.is.pl.fits ?_))
    dsimp only
    rw [if_neg (by simp), Int.toNat_natCast, show es[k]? = some es[k] from by simp [hkl]]
    refine wpAny_pure ?_
    refine wpAny_bind (wpAny_setField_rec ho (by simp) fun h' hg' hs' => ?_)
    refine wpAny_pure ⟨_, rfl, wpAny_pure ?_⟩
    have e : (es.getD k (0, Value.none)).2 = es[k].2 := by simp [Array.getD, hkl]
    rw [e] at h
    exact h _ (itSObj (.ref tp) (i + 1) S es.size ep) (.inl ⟨tp, order, ht, hlt, rfl, rfl⟩) (C.upd0 (t := s.toks) hs' hg')
  · refine wpAny_bind (wpAny_fieldsOf ho rfl ?_)
    dsimp only
    refine wpAny_bind (wpAny_setEntries_of hg rfl hS.is.pl.fits ?_)
    rw [if_neg (by simp)]
    rw [List.getElem?_map, Option.map_eq_some_iff] at hv
    obtain ⟨k, hk, rfl⟩ := hv
    unfold setNext setsByText
    refine wpAny_bind (wpAny_bind (wpAny_setState_of hg rfl hS.is.pl.fits ?_))
    dsimp only
    refine wpAny_bind (wpAny_bind (wpAny_askSetting (wpAny_pure ?_)))
    rw [show (model PG w).w.params.followText "set-order" = true from hf, if_pos rfl, if_neg (by simp)]
    unfold setWalk setsByText
    refine wpAny_bind (wpAny_bind (wpAny_setState_of hg rfl hS.is.pl.fits ?_))
    dsimp only
    refine wpAny_bind (wpAny_bind (wpAny_askSetting (wpAny_pure ?_)))
    rw [show (model PG w).w.params.followText "set-order" = true from hf, if_pos rfl]
    refine wpAny_bind (wpAny_askSetting (wpAny_pure (wpAny_pure ?_)))
    rw [Int.toNat_natCast, ← Array.getElem?_toList, show (pickOrder ((model PG w).w.params.setOrder S ep) es).toList[i]? = some k from hk]
    dsimp only [Option.map_some]
    refine wpAny_bind (wpAny_setField_rec ho (by simp) fun hh1 hg1 hs1 => ?_)
    have C1 := C.upd0 (t := s.toks) hs1 hg1
    refine wpAny_bind (wpAny_setField_rec hg1 (by simp) fun h' hg' hs' => ?_)
    refine wpAny_pure ⟨_, rfl, wpAny_pure ?_⟩
    exact h _ (itSObj (.int 0 0) (i + 1) S es.size ep) (.inr (.inl ⟨hf, rfl, rfl⟩)) (C1.upd0 (t := s.toks) hs' hg')
  · refine wpAny_bind (wpAny_fieldsOf ho rfl ?_)
    dsimp only
    refine wpAny_bind (wpAny_setEntries_of hg rfl hS.is.pl.fits ?_)
    rw [if_neg (by simp)]
    have hil := (List.getElem?_eq_some_iff.mp hv).1
    rw [List.length_map, Array.length_toList] at hil
    have hi0 : i = 0 := by omega
    subst hi0
    have hs00 := hs0 rfl
    subst hs00
    have hb : SetTable.below t.place 0 = 0 := by
      obtain ⟨A', B', e, hA, q1, q2⟩ := below_ok (j := 0) hS.is.pl.rise
      rw [← hA]
      cases A' with
      | nil => rfl
      | cons a A' => exact absurd (q1 a (.head _)) (Nat.not_lt_zero _)
    have hpl : 0 < t.place.size := by rw [hS.is.pl.size]; omega
    have he : es[0]? = some es[0] := by simp [hil]
    have hp0 : t.place[0]? = some t.place[0] := by simp [hpl]
    rw [List.getElem?_map, Array.getElem?_toList, he] at hv
    cases hv
    unfold setNext setsByText
    refine wpAny_bind (wpAny_bind (wpAny_setState_of hg rfl hS.is.pl.fits ?_))
    dsimp only
    refine wpAny_bind (wpAny_bind (wpAny_askSetting (wpAny_pure ?_)))
    rw [show (model PG w).w.params.followText "set-order" = false from hf, if_neg (by simp)]
    show wpAny _ _ (if (!t.plain && decide (es.size > 1)) = true then _ else _) _ _ _
    rw [if_neg (by simp; omega)]
    refine wpAny_bind ?_
    show wpAny _ _ (if (!t.led && !es.isEmpty) = true then _ else _) _ _ _
    rw [if_neg (by rw [hS.led, hf]; simp)]
    refine wpAny_pure (wpAny_pure ?_)
    rw [Int.toNat_natCast, hb, he, hp0]
    dsimp only
    refine wpAny_bind (wpAny_setField_rec ho (by simp) fun hh1 hg1 hs1 => ?_)
    have C1 := C.upd0 (t := s.toks) hs1 hg1
    refine wpAny_bind (wpAny_setField_rec hg1 (by simp) fun h' hg' hs' => ?_)
    refine wpAny_pure ⟨_, rfl, wpAny_pure ?_⟩
    refine h _ (itSObj (.int (t.place[0] + 1 : Nat) 0) 1 S es.size ep) (.inr (.inr ⟨hf, h1, rfl, t.place[0] + 1, rfl, fun q => absurd q (by decide), fun j hj _ => ?_⟩)) (C1.upd0 (t := s.toks) hs' hg')
    obtain ⟨k, hk, rfl⟩ := List.mem_iff_getElem.mp hj
    rw [Array.length_toList, hS.is.pl.size] at hk
    have : k = 0 := by omega
    subst this
    rw [Array.getElem_toList]
    omega
end
-- part C47
section
variable {X : List Addr} {w : World} {s₀ s s' s1 : Shared} {G₀ G G' : Km} {L : Addr} {m m' : List (Str × Value)} {mu pre post : List (Addr × Obj)} {A : Around} {E : Value → Shared → Prop}
theorem stop_end {s2 : Shared} {Fq : Fin → Shared → Prop} {Q : Option Value → Shared → Prop} (hh : A.handled = none) (h : ∀ o1 o2, Q none { s2 with heap := (s2.heap.push o1).push o2 }) :
    wpAny (MD w) A.in1 (newExc (.type "StopIteration") [] >>= fun e => (raiseNew e : Sem Fin)) Fq (fun e s' => wpAny (MD w) A (do
      let b ← isInstance e (.type "StopIteration")
      if b = true then pure none else throw e) Q E s') s2 := by
  refine wpAny_bind ?_
  simp only [newExc, newTuple]
  refine wpAny_bind (wpAny_newObj_type ?_ (by size_fits))
  refine wpAny_bind (m := firstArgMember _ _) (wpAny_of_eq (a := Value.none) (by first | rfl | (simp only [firstArgMember]; rfl)) ?_)
  refine wpAny_newObj_type ?_ (by size_fits)
  simp only [raiseNew]
  refine wpAny_bind (wpAny_handled ?_)
  rw [show A.in1.handled = none from hh]
  refine wpAny_bind (wpAny_pure (wpAny_throw ?_))
  refine wpAny_bind (wpAny_isInstance (T := "StopIteration") (b := true) ⟨_, Heap.get?_push_size _ rfl, rfl⟩ isSubtype_stop ?_)
  rw [if_pos rfl]
  exact wpAny_pure (h _ _)
theorem R_endS {I S : Addr} {es : Array (Int × Value)} {ep i : Nat} {t : SetTable} {ls : List Leaf} {o : Obj} {ys : List Value} {Q : Option Value → Shared → Prop} (hh : A.handled = none) (C : Cx [] w s₀ G₀ G L m ((I, o) :: mu) s) (hS : SetOk w G es t ls) (hm : (S, setObj es ep t) ∈ mu) (hi : SIt w G es t S ep ys i o) (hp : ys.Perm (es.toList.map (·.2))) (hv : ys[i]? = none)
    (h : ∀ s', Cx [] w s₀ G₀ G L m mu s' → Q none s') : wpAny (MD w) A (pyNext (.ref I)) Q E s := by
  have hg := C.getMu (.tail _ hm)
  have h8 : es.size ≤ 8 := by rw [← hS.is.len]; exact leaf8 hS.is.nd hS.is.ok
  have ho := C.st (I, o) (.head _)
  have hcls : o.cls = .type "set_iterator" := by rcases hi with ⟨_, _, _, _, rfl, _⟩ | ⟨_, rfl, _⟩ | ⟨_, _, _, _, rfl, _⟩ <;> rfl
  have hT : s.TypeIs (.ref I) "set_iterator" := ⟨_, ho, hcls⟩
  unfold pyNext
  refine wpAny_bind (wpAny_attempt (wpAny_callSpecial?_slot (name := Str.ofString "__next__") hT slot_setiter_next (wpAny_call_entry slot_setiter_next hT entry_setiter_next ?_ (args_setiter_next _))))
  unfold Builtin.«set_iterator.__next__»
  refine wpAny_bind (wpAny_of_eq (a := (.ref I, [])) rfl ?_)
  dsimp only
  rcases hi with ⟨tp, order, ht, hlt, rfl, rfl⟩ | ⟨hf, rfl, rfl⟩ | ⟨hf, h1, rfl, slot, rfl, hs0, hs1⟩
  · refine wpAny_bind (wpAny_fieldsOf ho rfl ?_)
    dsimp only
    refine wpAny_bind (wpAny_setEntries_of hg rfl hS.is.pl.fits ?_)
    rw [if_neg (by simp)]
    rw [List.getElem?_map, Option.map_eq_none_iff] at hv
    refine wpAny_bind (wpAny_seqItems (C.get ht) rfl ?_)
    dsimp only
    rw [Int.toNat_natCast, List.getElem?_toArray, List.getElem?_map, hv]
    dsimp only [Option.map_none]
    refine wpAny_bind (wpAny_setField_rec ho (by simp) fun hh1 hg1 hs1 => ?_)
    have C1 := C.upd0 (t := s.toks) hs1 hg1
    refine wpAny_bind (wpAny_setField_rec hg1 (by simp) fun h' hg' hs' => ?_)
    exact stop_end hh fun o1 o2 => h _ (C1.lose (t := s.toks) ((hs'.extBut.push _).push _))
  · refine wpAny_bind (wpAny_fieldsOf ho rfl ?_)
    dsimp only
    refine wpAny_bind (wpAny_setEntries_of hg rfl hS.is.pl.fits ?_)
    rw [if_neg (by simp)]
    rw [List.getElem?_map, Option.map_eq_none_iff] at hv
    unfold setNext setsByText
    refine wpAny_bind (wpAny_bind (wpAny_setState_of hg rfl hS.is.pl.fits ?_))
    dsimp only
    refine wpAny_bind (wpAny_bind (wpAny_askSetting (wpAny_pure ?_)))
    rw [show (model PG w).w.params.followText "set-order" = true from hf, if_pos rfl, if_neg (by simp)]
    unfold setWalk setsByText
    refine wpAny_bind (wpAny_bind (wpAny_setState_of hg rfl hS.is.pl.fits ?_))
    dsimp only
    refine wpAny_bind (wpAny_bind (wpAny_askSetting (wpAny_pure ?_)))
    rw [show (model PG w).w.params.followText "set-order" = true from hf, if_pos rfl]
    refine wpAny_bind (wpAny_askSetting (wpAny_pure (wpAny_pure ?_)))
    rw [Int.toNat_natCast, ← Array.getElem?_toList, show (pickOrder ((model PG w).w.params.setOrder S ep) es).toList[i]? = none from hv]
    dsimp only [Option.map_none]
    refine wpAny_bind (wpAny_setField_rec ho (by simp) fun h' hg' hs' => ?_)
    exact stop_end hh fun o1 o2 => h _ (C.lose (t := s.toks) ((hs'.extBut.push _).push _))
  · refine wpAny_bind (wpAny_fieldsOf ho rfl ?_)
    dsimp only
    refine wpAny_bind (wpAny_setEntries_of hg rfl hS.is.pl.fits ?_)
    rw [if_neg (by simp)]
    have hil := List.getElem?_eq_none_iff.mp hv
    rw [List.length_map, Array.length_toList] at hil
    have hnone : es[SetTable.below t.place slot]? = none := by
      obtain ⟨A', B', e, hA, q1, q2⟩ := below_ok (j := slot) hS.is.pl.rise
      have hl : A'.length + B'.length = es.size := by rw [← List.length_append, ← e, Array.length_toList, hS.is.pl.size]
      have hB : B' = [] := by
        cases B' with
        | nil => rfl
        | cons b B' =>
          have hb := q2 b (.head _)
          simp only [List.length_cons] at hl
          exact absurd (hs1 b (by rw [e]; simp) (by omega)) hb
      rw [hB, List.length_nil] at hl
      simp only [Array.getElem?_eq_none_iff]
      omega
    unfold setNext setsByText
    refine wpAny_bind (wpAny_bind (wpAny_setState_of hg rfl hS.is.pl.fits ?_))
    dsimp only
    refine wpAny_bind (wpAny_bind (wpAny_askSetting (wpAny_pure ?_)))
    rw [show (model PG w).w.params.followText "set-order" = false from hf, if_neg (by simp)]
    show wpAny _ _ (if (!t.plain && decide (es.size > 1)) = true then _ else _) _ _ _
    rw [if_neg (by simp; omega)]
    refine wpAny_bind ?_
    show wpAny _ _ (if (!t.led && !es.isEmpty) = true then _ else _) _ _ _
    rw [if_neg (by rw [hS.led, hf]; simp)]
    refine wpAny_pure (wpAny_pure ?_)
    rw [Int.toNat_natCast, hnone]
    dsimp only
    refine wpAny_bind (wpAny_setField_rec ho (by simp) fun h' hg' hs' => ?_)
    exact stop_end hh fun o1 o2 => h _ (C.lose (t := s.toks) ((hs'.extBut.push _).push _))
theorem R_listUpd {D : Addr} {zs zs' : List Value} {n : Nat} {f : Array Value → Array Value} {Q : Unit → Shared → Prop} (C : Cx X w s₀ G₀ G L m (pre ++ (D, lstObj zs n) :: post) s) (hf : f zs.toArray = zs'.toArray) (hz : zs.length ≤ 2000) (hz' : zs'.length ≤ 2000)
    (h : ∀ s' n', Cx X w s₀ G₀ G L m (pre ++ (D, lstObj zs' n') :: post) s' → Q () s') : wpAny (MD w) A (Builtin.List.listUpdate (.ref D) f) Q E s := by
  have ho := C.getMu (a := D) (o := lstObj zs n) (by simp)
  refine listUpdate_at ho rfl ?_ (by rw [List.size_toArray, sizeLine_eq]; omega) (by rw [hf, List.size_toArray, sizeLine_eq]; omega)
  have hg := Heap.get?_update_self (h := s.heap) (Obj.mapSeq f) ho (Obj.isFreed_of_seq rfl)
  have e : ∃ n', Obj.mapSeq f (lstObj zs n) = lstObj zs' n' := ⟨_, by
    show (⟨.type "list", none, .seq (f zs.toArray) _, #[]⟩ : Obj) = ⟨.type "list", none, .seq zs'.toArray _, #[]⟩
    rw [hf]⟩
  obtain ⟨n', e⟩ := e
  rw [e] at hg
  exact h _ n' (C.updMu (t := s.toks) (Heap.SameBut.update ..) hg)
theorem ext_loop {D I S : Addr} {es : Array (Int × Value)} {ep : Nat} {t : SetTable} {ls : List Leaf} {ys : List Value} {R : Result → Shared → Prop} (hh : A.handled = none) (hS : SetOk w G es t ls) (hm : (S, setObj es ep t) ∈ mu) (hp : ys.Perm (es.toList.map (·.2))) (hz : ys.length ≤ 2000)
    (hR : ∀ s' n, Cx [] w s₀ G₀ G L m ((D, lstObj ys n) :: mu) s' → R (.ok (.ret (.ref D))) s') :
    ∀ (k i : Nat) (s : Shared) (o : Obj) (n : Nat), i + k = ys.length → SIt w G es t S ep ys i o → Cx [] w s₀ G₀ G L m ((I, o) :: (D, lstObj (ys.take i) n) :: mu) s →
    codeAny (MD w) A (.builtin "list.extend.loop" ⟨[.ref D, .ref I, .ref D], []⟩) R s := by
  intro k
  induction k with
  | zero =>
    intro i s o n hk hi C
    refine codeAny_builtin entry_list_extend_loop ?_
    rw [Around.under_plainId plain_list_extend_loop _]
    show wpAny _ A.in1 (pyNext (.ref I) >>= _) _ _ s
    refine wpAny_bind (R_endS hh C hS (.tail _ hm) hi hp (List.getElem?_eq_none (by omega)) fun s' C' => ?_)
    rw [List.take_of_length_le (by omega)] at C'
    exact wpAny_pure (hR s' n C')
  | succ k ih =>
    intro i s o n hk hi C
    have hv : ys[i]? = some ys[i] := List.getElem?_eq_getElem (by omega)
    refine codeAny_builtin entry_list_extend_loop ?_
    rw [Around.under_plainId plain_list_extend_loop _]
    show wpAny _ A.in1 (pyNext (.ref I) >>= _) _ _ s
    refine wpAny_bind (R_nextS C hS (.tail _ hm) hi hp hv fun s' o' hi' C' => ?_)
    show wpAny _ A.in1 (Builtin.List.listUpdate (.ref D) (·.push ys[i]) >>= _) _ _ s'
    refine wpAny_bind (R_listUpd (pre := [(I, o')]) (post := mu) (zs' := ys.take (i + 1)) C' (by rw [List.take_add_one, hv]; simp) (by rw [List.length_take]; omega) (by rw [List.length_take]; omega) fun s2 n2 C2 => ?_)
    exact wpAny_pure ⟨plainId_quiet plain_list_extend_loop _, ih (i + 1) s2 o' n2 (by omega) hi' C2⟩
end
-- part C48
section
variable {X : List Addr} {w : World} {s₀ s s' s1 : Shared} {G₀ G G' : Km} {L : Addr} {m m' : List (Str × Value)} {mu pre post : List (Addr × Obj)} {A : Around} {E : Value → Shared → Prop}
def lvK (l : Leaf) : Nat := 2 * nmR l.1 + (if l.2 then 1 else 0)
open Classical in
noncomputable def lvRk (G : Km) (v : Value) : Nat := if h : ∃ l, LvAt G v l then lvK h.choose else 0
theorem lvRk_of {v : Value} {l : Leaf} (h : LvAt G v l) : lvRk G v = lvK l := by
  have hx : ∃ l, LvAt G v l := ⟨l, h⟩
  unfold lvRk
  rw [dif_pos hx, hx.choose_spec.fn h]
theorem lvK_inj {l l' : Leaf} (h : LfOk l) (h' : LfOk l') (e : lvK l = lvK l') : l = l' := by
  obtain ⟨a, x⟩ := l
  obtain ⟨b, y⟩ := l'
  unfold lvK at e
  have hx : ∀ b : Bool, (if b then 1 else 0) ≤ 1 := fun b => by cases b <;> decide
  have e1 : nmR a = nmR b := by
    have := hx x
    have := hx y
    dsimp only at e
    cases x <;> cases y <;> simp at e <;> omega
  have := nmR_inj h h' e1
  simp only at this
  subst this
  cases x <;> cases y <;> simp at e <;> rfl
theorem R_ltLv {x y : Value} {l l' : Leaf} {Q : Bool → Shared → Prop} (W : Wd w G s) (hx : LvAt G x l) (hy : LvAt G y l') (hl : LfOk l) (hl' : LfOk l') (h : Q (decide (lvK l < lvK l')) s) : wpAny (MD w) A (keyLt' (tuples' true) x y) Q E s := by
  obtain ⟨p, t1, t2, rfl, hp⟩ := hx
  obtain ⟨q, u1, u2, rfl, hq⟩ := hy
  obtain ⟨a, i⟩ := l
  obtain ⟨b, j⟩ := l'
  refine kat_lt (W.keep _ _ hp) rfl (W.keep _ _ hq) rfl ?_
  refine kat_cons (wpAny_eqBool_str ?_)
  by_cases e : a = b
  · subst e
    rw [decide_eq_true rfl]
    refine kat_yes (kat_cons (wpAny_eqBool_int ?_))
    by_cases e2 : oI i = oI j
    · rw [show (oI i == oI j) = true from by simp [e2]]
      refine kat_yes (kat_nil ?_)
      rw [oI_inj e2] at h
      simpa using h
    · rw [show (oI i == oI j) = false from by simp [e2]]
      refine kat_no (kat_one _ _ (lt_int ?_))
      show Q _ s
      have : decide (oI i < oI j) = decide (lvK (a, i) < lvK (a, j)) := by cases i <;> cases j <;> simp [oI, lvK]
      rw [this]
      exact h
  · rw [decide_eq_false e]
    refine kat_no (oneLt_str ?_)
    have hr := sLt_rank hl hl'
    have hne : nmR a ≠ nmR b := fun q => e (nmR_inj hl hl' q)
    have : decide (a.cps.toList < b.cps.toList) = decide (lvK (a, i) < lvK (b, j)) := by
      refine (show decide (a.cps.toList < b.cps.toList) = sLt a b from rfl).trans (hr.trans ?_)
      refine decide_eq_decide.mpr ?_
      have e1 : lvK (a, i) = 2 * nmR a + (if i then 1 else 0) := rfl
      have e2 : lvK (b, j) = 2 * nmR b + (if j then 1 else 0) := rfl
      rw [e1, e2]
      show nmR a < nmR b ↔ _
      cases i <;> cases j <;> simp <;> omega
    rw [this]
    exact h
theorem tups_of (W : Wd w G s) : ∀ {vs : List Value}, (∀ v ∈ vs, ∃ l, LvAt G v l) → ∃ fs, KatTups s.heap vs fs ∧ fs.length = vs.length ∧ ∀ f ∈ fs, ∃ x t, f = .str x t
  | [], _ => ⟨[], .nil, rfl, fun f hf => nomatch hf⟩
  | v :: vs, h => by
    obtain ⟨fs, h1, h2, h3⟩ := tups_of W (vs := vs) fun v hv => h v (.tail _ hv)
    obtain ⟨l, p, t1, t2, rfl, hp⟩ := h v (.head _)
    refine ⟨.str l.1 t1 :: fs, .cons (W.keep _ _ hp) rfl rfl rfl h1, by simp [h2], fun f hf => ?_⟩
    rcases List.mem_cons.mp hf with rfl | hf
    · exact ⟨_, _, rfl⟩
    · exact h3 f hf
theorem kind_T {v : Value} {vs : List Value} {Q : SortKind → Shared → Prop} (W : Wd w G s) (hv : ∀ x ∈ v :: vs, ∃ l, LvAt G x l) (h : Q (tuples' true) s) : wpAny (MD w) A (keyKind' (v :: vs).toArray) Q E s := by
  obtain ⟨fs, h1, h2, h3⟩ := tups_of W hv
  refine kat_kind (T := .type "str") h1 (by rw [h2]; simp) (fun f hf => ?_) (by rfl) (by exact h)
  obtain ⟨x, t, rfl⟩ := h3 f hf
  exact .now
theorem R_sortT {l : Addr} {v0 v1 : Value} {us : List Value} {n k : Nat} {Q : Value → Shared → Prop} (C : Cx X w s₀ G₀ G L m (pre ++ (l, lstObj (v0 :: v1 :: us) n) :: post) s) (rm : Rm A (k + 1)) (h64 : (v0 :: v1 :: us).length < 64)
    (hx : ∀ v ∈ v0 :: v1 :: us, ∃ l, LvAt G v l ∧ LfOk l) (hn : (v0 :: v1 :: us).Nodup) (hi : RkInj (lvRk G) (v0 :: v1 :: us))
    (h : ∀ s' n' out, out.Perm (v0 :: v1 :: us) → List.Pairwise (fun a b => (lvRk G) a < (lvRk G) b) out → Cx X w s₀ G₀ G L m (pre ++ (l, lstObj out n') :: post) s' → Q .none s') :
    wpAny (MD w) A (call (.builtin "list.sort") [.ref l]) Q E s := by
  have h2 : 2 ≤ (v0 :: v1 :: us).length := by simp only [List.length_cons]; omega
  have hkk : ∀ {s' : Shared} {Q : SortKind → Shared → Prop}, Wd w G s' → Q (tuples' true) s' → wpAny (MD w) A.in1 (keyKind' (v0 :: v1 :: us).toArray) Q E s' := fun W q1 => kind_T W (fun x hh => let ⟨l, e, _⟩ := hx x hh; ⟨l, e⟩) q1
  generalize v0 :: v1 :: us = vs at *
  have hz : vs.toArray.size = vs.length := List.size_toArray ..
  have ho := C.getMu (a := l) (o := lstObj vs n) (by simp)
  have hT : s.TypeIs (.ref l) "list" := ⟨_, ho, rfl⟩
  refine wpAny_call_entry PyProof.Rows.slot_list_sort hT PyProof.Rows.entry_list_sort ?_ (PyProof.Rows.args_list_sort _)
  rw [list_sort_plain]
  refine wpAny_bind (listItems_at ho rfl ?_)
  refine wpAny_bind (listUpdate_at ho rfl ?_ (by rw [List.size_toArray]; exact Nat.le_trans (Nat.le_of_lt h64) (by decide)) (by simp))
  obtain ⟨e1, ho1⟩ : ∃ e1, (s.heap.update l (Obj.mapSeq fun _ => #[])).get? l = some (lstObj [] e1) := ⟨_, get?_update_seq ho (fun _ => #[])⟩
  have C1 := C.updMu (t := s.toks) (Heap.SameBut.update ..) ho1
  refine wpAny_bind (seqEpoch_at ho1 rfl ?_)
  refine wpAny_bind (wpAny_newTuple ?_)
  refine wpAny_bind (wpAny_newList ?_)
  refine wpAny_holding ?_
  have C3 := (C1.push (o := seqObj "tuple" vs.toArray 0)).push (o := seqObj "list" #[] 0)
  replace C3 := C3.pop.pop
  show wpAny (MD w) A.in1 _ _ E _
  dsimp only
  rw [if_neg (by omega), if_neg (by omega)]
  refine wpAny_bind ?_
  have zp : ∀ l : List Value, l.zip l = l.map fun v => (v, v) := fun l => by
    induction l with
    | nil => rfl
    | cons v l ih => simp [ih]
  have pz : ((vs.toArray.zip vs.toArray).toList).Perm (vs.map fun v => (v, v)) := by
    rw [← zp]
    simp
  refine hkk C3.wd ?_
  focus
    refine wpAny_bind (wpAny_mono (J_runs (J := fun s' => Cx X w s₀ G₀ G L m (pre ++ (l, lstObj [] e1) :: post) s') (ρ := lvRk G) (vs := vs)
      (Q := fun _ st' => (arrOf st').toList.Perm (vs.map fun v => (v, v)) ∧ failedOf st' = none ∧ Up (lvRk G) (arrOf st') vs.length) (fun x hx' y hy' hxy E Q s' Cs hq => (by
        obtain ⟨lx, hlx, okx⟩ := hx x hx'
        obtain ⟨ly, hly, oky⟩ := hx y hy'
        have hq' := hq s' Cs
        rw [lvRk_of hlx, lvRk_of hly] at hq'
        exact R_ltLv Cs.wd hlx hly okx oky hq')) hn hi ⟨pz, rfl, rfl, rfl⟩ h2 h64 (fun st' a b c => ⟨a, b, c⟩) _ C3) ?_ fun _ _ e => e)
    rintro ⟨⟨⟩, st'⟩ s4 ⟨C4, hp, hf, hu⟩
    dsimp only
    have ho4 := C4.getMu (a := l) (o := lstObj [] e1) (by simp)
    have hsz : (arrOf st').size = vs.length := by simpa using hp.length_eq
    refine wpAny_bind (seqEpoch_at ho4 rfl ?_)
    refine wpAny_bind (listUpdate_at ho4 rfl ?_ (by simp) (by rw [Array.size_map, hsz]; exact Nat.le_trans (Nat.le_of_lt h64) (by decide)))
    rw [hf]
    simp only [bne_self_eq_false, Bool.false_eq_true, if_false]
    obtain ⟨n5, ho5⟩ : ∃ n5, (s4.heap.update l (Obj.mapSeq fun _ => (arrOf st').map (·.2))).get? l = some (lstObj ((arrOf st').map (·.2)).toList n5) := ⟨_, get?_update_seq ho4 (fun _ => (arrOf st').map (·.2))⟩
    refine wpAny_pure ⟨_, rfl, h _ n5 _ ?_ ?_ (C4.updMu (t := s4.toks) (Heap.SameBut.update ..) ho5)⟩
    · rw [Array.toList_map]
      have := hp.map (·.2)
      rw [List.map_map, show ((fun x : Keyed => x.2) ∘ fun v => (v, v)) = id from rfl, List.map_id] at this
      exact this
    · rw [List.pairwise_iff_getElem]
      intro i j hi' hj' hij
      have a1 : i < (arrOf st').size := by simpa using hi'
      have a2 : j < (arrOf st').size := by simpa using hj'
      have hr := hu i j hij (hsz ▸ a2)
      have one : ∀ i (h : i < (arrOf st').size), rk (lvRk G) (arrOf st') i = (lvRk G) (arrOf st')[i].2 := fun i h => by
        have hm : (arrOf st')[i] ∈ (arrOf st').toList := by simp
        obtain ⟨v, _, e⟩ := List.mem_map.mp (hp.mem_iff.mp hm)
        unfold rk
        rw [getElem?_pos _ i h, ← e]
      rw [one i a1, one j a2] at hr
      simpa using hr
end
-- part C49
section
variable {X : List Addr} {w : World} {s₀ s s' s1 : Shared} {G₀ G G' : Km} {L : Addr} {m m' : List (Str × Value)} {mu pre post : List (Addr × Obj)} {A : Around} {E : Value → Shared → Prop}
theorem R_hintS {S : Addr} {Q : Bool → Shared → Prop} (hT : s.TypeIs (.ref S) "set") (h : Q false s) : wpAny (MD w) A (Builtin.List.listLengthHint (.ref S)) Q E s := by
  unfold Builtin.List.listLengthHint
  refine wpAny_bind (wpAny_specialOf hT PySem.F.slot_set_len.lookup ?_)
  dsimp only
  rw [show splitId "set.__len__" = some ("set", "__len__") from by decide +kernel]
  dsimp only
  refine wpAny_bind (wpAny_isInstance hT sub_set_self ?_)
  simp only [Bool.not_true, Bool.false_eq_true, if_false]
  rw [if_pos (by decide +kernel)]
  refine wpAny_bind (wpAny_typeOf hT ?_)
  exact wpAny_pure h
theorem SetOk.mono {es : Array (Int × Value)} {t : SetTable} {ls : List Leaf} (S : SetOk w G es t ls) (h : G.le G') : SetOk w G' es t ls := ⟨S.is.mono h, S.few, S.plain, S.led⟩
theorem R_collectS {S : Addr} {es : Array (Int × Value)} {ep : Nat} {t : SetTable} {ls : List Leaf} {Q : List Value → Shared → Prop} (rm : Rm A 6) (C : Cx [] w s₀ G₀ G L m mu s) (hS : SetOk w G es t ls) (hm : (S, setObj es ep t) ∈ mu)
    (h : ∀ s' G' ys, G.le G' → ys.Perm (es.toList.map (·.2)) → Cx [] w s₀ G₀ G' L m mu s' → Q ys s') : wpAny (MD w) A (collect (.ref S)) Q E s := by
  have h8 : es.size ≤ 8 := by rw [← hS.is.len]; exact leaf8 hS.is.nd hS.is.ok
  unfold collect
  refine wpAny_bind (wpAny_runValue (codeAny_builtin entry_proto_collect' ?_))
  show wpAny _ _ (do again (.builtin "list.__iadd__" ⟨[← newList [], .ref S], []⟩)) _ _ s
  refine wpAny_bind (wpAny_newList (wpAny_pure ⟨Code.quiet_builtin _ (by decide +kernel), codeAny_builtin entry_list_iadd' ?_⟩))
  have C1 := C.push (o := lstObj [] 0)
  have hgS := C1.getMu (.tail _ hm)
  have hT : Shared.TypeIs { s with heap := s.heap.push (lstObj [] 0) } (.ref S) "set" := ⟨_, hgS, rfl⟩
  have hne : S ≠ s.heap.objs.size := Nat.ne_of_lt (C.lt S (.tail _ (List.mem_map.mpr ⟨_, hm, rfl⟩)))
  show wpAny _ _ (Builtin.List.listExtendWith (.ref s.heap.objs.size) (.ref S) (.ref s.heap.objs.size)) _ _ { s with heap := s.heap.push (lstObj [] 0) }
  unfold Builtin.List.listExtendWith
  refine wpAny_bind (wpAny_typeOf hT ?_)
  rw [if_neg (by
    show ¬(((s.heap.objs.size == S) || Value.type "set" == Value.type "list" || Value.type "set" == Value.type "tuple") = true)
    have : (s.heap.objs.size == S) = false := beq_eq_false_iff_ne.mpr (Ne.symm hne)
    rw [this]
    decide)]
  refine wpAny_bind (R_iterS C1 hS (.tail _ hm) fun I s2 G2 o ys le2 hp hi C2 => ?_)
  have hT2 : s2.TypeIs (.ref S) "set" := ⟨_, C2.getMu (.tail _ (.tail _ hm)), rfl⟩
  refine wpAny_bind (wpAny_holding (R_hintS hT2 ?_))
  dsimp only
  rw [if_pos (by decide +kernel)]
  refine wpAny_bind (wpAny_rule ?_)
  unfold Builtin.List.listTouch
  refine wpAny_bind (wpAny_bind (R_listUpd (pre := [(I, o)]) (post := mu) (zs' := [.none]) C2 (by rfl) (by decide) (by simp) fun s3 n3 C3 => ?_))
  refine R_listUpd (pre := [(I, o)]) (post := mu) (zs' := []) C3 (by rfl) (by simp) (by decide) fun s4 n4 C4 => ?_
  refine wpAny_pure ⟨plainId_quiet plain_list_extend_loop _, ?_⟩
  have hz : ys.length ≤ 2000 := by rw [hp.length_eq, List.length_map, Array.length_toList]; omega
  refine ext_loop rm.1 (hS.mono le2) hm hp hz (fun s5 n5 C5 => ?_) ys.length 0 s4 o n4 (Nat.zero_add _) hi C4
  show wpAny (MD w) A (do
    let o ← load s.heap.objs.size
    match o.data with
    | .seq xs _ => pure xs.toList
    | _ => unsupported "internal:collect") Q E s5
  refine wpAny_bind (wpAny_load (C5.getMu (.head _)) ?_)
  exact wpAny_pure (show Q ys s5 from h _ G2 ys le2 hp C5.pop)
theorem R_sort1 {l : Addr} {vs : List Value} {n : Nat} {Q : Value → Shared → Prop} (C : Cx X w s₀ G₀ G L m (pre ++ (l, lstObj vs n) :: post) s) (h2 : vs.length < 2)
    (h : ∀ s' n', Cx X w s₀ G₀ G L m (pre ++ (l, lstObj vs n') :: post) s' → Q .none s') : wpAny (MD w) A (call (.builtin "list.sort") [.ref l]) Q E s := by
  have hz : vs.toArray.size = vs.length := List.size_toArray ..
  have ho := C.getMu (a := l) (o := lstObj vs n) (by simp)
  have hT : s.TypeIs (.ref l) "list" := ⟨_, ho, rfl⟩
  refine wpAny_call_entry PyProof.Rows.slot_list_sort hT PyProof.Rows.entry_list_sort ?_ (PyProof.Rows.args_list_sort _)
  rw [list_sort_plain]
  refine wpAny_bind (listItems_at ho rfl ?_)
  refine wpAny_bind (listUpdate_at ho rfl ?_ (by rw [List.size_toArray, sizeLine_eq]; omega) (by simp))
  obtain ⟨e1, ho1⟩ : ∃ e1, (s.heap.update l (Obj.mapSeq fun _ => #[])).get? l = some (lstObj [] e1) := ⟨_, get?_update_seq ho (fun _ => #[])⟩
  have C1 := C.updMu (t := s.toks) (Heap.SameBut.update ..) ho1
  refine wpAny_bind (seqEpoch_at ho1 rfl ?_)
  refine wpAny_bind (wpAny_newTuple ?_ (by show vs.length ≤ _; rw [sizeLine_eq]; omega))
  refine wpAny_bind (wpAny_newList ?_)
  refine wpAny_holding ?_
  have C3 := (C1.push (o := seqObj "tuple" vs.toArray 0)).push (o := seqObj "list" #[] 0)
  replace C3 := C3.pop.pop
  show wpAny (MD w) A.in1 _ _ E _
  dsimp only
  rw [if_pos (by omega), if_pos (by omega)]
  refine wpAny_bind (wpAny_pure ?_)
  rw [StateT.run_pure]
  refine wpAny_bind (wpAny_pure ?_)
  dsimp only
  have ho4 := C3.getMu (a := l) (o := lstObj [] e1) (by simp)
  have hout : ((arrOf (SortSt.mk' general' (vs.toArray.zip vs.toArray) #[] 7 none)).map (·.2)) = vs.toArray := by
    show ((vs.toArray.zip vs.toArray).map (·.2)) = vs.toArray
    apply Array.toList_inj.mp
    simp only [Array.toList_map, Array.toList_zip]
    exact List.map_snd_zip (Nat.le_refl _)
  refine wpAny_bind (seqEpoch_at ho4 rfl ?_)
  rw [hout]
  refine wpAny_bind (listUpdate_at ho4 rfl ?_ (by simp) (by rw [List.size_toArray, sizeLine_eq]; omega))
  simp only [bne_self_eq_false, Bool.false_eq_true, if_false]
  obtain ⟨n5, ho5⟩ : ∃ n5, (((((s.heap.update l (Obj.mapSeq fun _ => #[])).push (seqObj "tuple" vs.toArray 0)).push (seqObj "list" #[] 0)).update l (Obj.mapSeq fun _ => vs.toArray)).get? l = some (lstObj vs n5)) := ⟨_, get?_update_seq ho4 (fun _ => vs.toArray)⟩
  exact wpAny_pure ⟨_, rfl, h _ n5 (C3.updMu (t := s.toks) (Heap.SameBut.update ..) ho5)⟩
theorem LvsAt.sorted : ∀ {vs : List Value} {ks : List Leaf}, LvsAt G vs ks → vs.Pairwise (fun a b => lvRk G a < lvRk G b) → ks.Pairwise (fun a b => lvK a < lvK b)
  | [], [], _, _ => .nil
  | v :: vs, k :: ks, h, p => by
    obtain ⟨p1, p2⟩ := List.pairwise_cons.mp p
    refine List.pairwise_cons.mpr ⟨fun l hl => ?_, LvsAt.sorted h.2 p2⟩
    obtain ⟨u, hu, hul⟩ := LvsAt.mem' h.2 l hl
    have := p1 u hu
    rw [lvRk_of h.1, lvRk_of hul] at this
    exact this
theorem LvsAt.inj : ∀ {vs : List Value} {ks : List Leaf}, LvsAt G vs ks → ks.Nodup → ∀ x ∈ vs, ∀ y ∈ vs, ∀ l, LvAt G x l → LvAt G y l → x = y
  | [], [], _, _ => fun x hx => nomatch hx
  | v :: vs, k :: ks, h, nd => fun x hx y hy l hxl hyl => by
    obtain ⟨n1, n2⟩ := List.nodup_cons.mp nd
    rcases List.mem_cons.mp hx with ex | hx2 <;> rcases List.mem_cons.mp hy with ey | hy2
    · rw [ex, ey]
    · obtain ⟨l', h1, h2⟩ := LvsAt.mem h.2 y hy2
      have e1 := h.1.fn (ex ▸ hxl)
      have e2 := h2.fn hyl
      exact absurd (e1.trans e2.symm ▸ h1) n1
    · obtain ⟨l', h1, h2⟩ := LvsAt.mem h.2 x hx2
      have e1 := h.1.fn (ey ▸ hyl)
      have e2 := h2.fn hxl
      exact absurd (e1.trans e2.symm ▸ h1) n1
    · exact LvsAt.inj h.2 n2 x hx2 y hy2 l hxl hyl
theorem pw_small {α : Type} {R : α → α → Prop} : ∀ {l : List α}, l.length < 2 → l.Pairwise R
  | [], _ => .nil
  | [a], _ => List.pairwise_singleton R a
theorem LvsAt.nodup : ∀ {vs : List Value} {ks : List Leaf}, LvsAt G vs ks → ks.Nodup → vs.Nodup
  | [], [], _, _ => .nil
  | v :: vs, k :: ks, h, nd => by
    obtain ⟨n1, n2⟩ := List.nodup_cons.mp nd
    refine List.nodup_cons.mpr ⟨fun hv => ?_, LvsAt.nodup h.2 n2⟩
    obtain ⟨l, h1, h2⟩ := LvsAt.mem h.2 v hv
    exact n1 (h.1.fn h2 ▸ h1)
theorem R_sortedS {S : Addr} {es : Array (Int × Value)} {ep : Nat} {t : SetTable} {ls : List Leaf} {Q : Value → Shared → Prop} (rm : Rm A 14) (C : Cx [] w s₀ G₀ G L m mu s) (hS : SetOk w G es t ls) (hm : (S, setObj es ep t) ∈ mu)
    (h : ∀ l s' G' n out ks, G.le G' → LvsAt G' out ks → (∀ x, x ∈ ks ↔ x ∈ ls) → ks.Pairwise (fun a b => lvK a < lvK b) → Cx [] w s₀ G₀ G' L m ((l, lstObj out n) :: mu) s' → Q (.ref l) s') : wpAny (MD w) A (call (.builtin "sorted") [.ref S]) Q E s := by
  have h8 : es.size ≤ 8 := by rw [← hS.is.len]; exact leaf8 hS.is.nd hS.is.ok
  refine Calls.call_function_entry kind_sorted plain_sorted entry_sorted (args_sorted1 _) ?_
  unfold Builtin.«sorted»
  refine wpAny_bind (m := checkCount "sorted" 1 1 _) (wpAny_pure ?_)
  refine wpAny_bind (R_collectS (rm.in1.le (by decide)) C hS hm fun s2 G2 ys le2 hp C2 => ?_)
  have hyl : ys.length = es.size := by rw [hp.length_eq, List.length_map, Array.length_toList]
  refine wpAny_bind (wpAny_newList ?_ (by rw [sizeLine_eq]; omega))
  have C3 := C2.push (o := lstObj ys 0)
  obtain ⟨ks, k1, k2⟩ := (hS.is.lv.mono le2).perm hp
  have nd : ks.Nodup := k1.nodup_iff.mpr hS.is.nd
  have hmem : ∀ x, x ∈ ks ↔ x ∈ ls := fun x => k1.mem_iff
  refine wpAny_bind (wpAny_holding ?_)
  by_cases h2 : ys.length < 2
  · refine R_sort1 (pre := []) (post := mu) C3 h2 fun s4 n4 C4 => ?_
    exact wpAny_pure ⟨_, rfl, h _ _ G2 n4 ys ks le2 k2 hmem (pw_small (by rw [← k2.len]; exact h2)) C4⟩
  · obtain ⟨v0, v1, us, rfl⟩ := two_of (ys := ys) (by omega)
    refine R_sortT (pre := []) (post := mu) (k := 3) C3 (rm.in1.le (by decide)) (by omega) (fun v hv => ?_) (k2.nodup nd) (fun x hx y hy e => ?_) fun s4 n4 out o1 o2 C4 => ?_
    · obtain ⟨l, l1, l2⟩ := k2.mem v hv
      exact ⟨l, l2, hS.is.ok l ((hmem l).mp l1)⟩
    · obtain ⟨l, l1, l2⟩ := k2.mem x hx
      obtain ⟨l', l3, l4⟩ := k2.mem y hy
      rw [lvRk_of l2, lvRk_of l4] at e
      have := lvK_inj (hS.is.ok l ((hmem l).mp l1)) (hS.is.ok l' ((hmem l').mp l3)) e
      subst this
      exact k2.inj nd x hx y hy _ l2 l4
    · obtain ⟨k3, q1, q2⟩ := k2.perm o1
      exact wpAny_pure ⟨_, rfl, h _ _ G2 n4 out k3 le2 q2 (fun x => q1.mem_iff.trans (hmem x)) (q2.sorted o2) C4⟩
end
-- part C50
section
variable {X : List Addr} {w : World} {s₀ s s' : Shared} {G₀ G G' : Km} {L : Addr} {m m' : List (Str × Value)} {mu : List (Addr × Obj)} {A : Around} {E : Value → Shared → Prop} {R : Result → Shared → Prop}
def keepB (k : Leaf) : Bool := decide (k.1 ∈ nmL)
def LvOk (k : Leaf) : Prop := k.1 = Str.ofString "" ∨ k.1 ∈ nmL
theorem law_g {c l : Addr} {oc : Obj} {vs : List Value} {ls : List Leaf} {k : Bool} {t tf : Tok} {fm : Str} {G1 : Km} {s1 : Shared} (rm : Rm A 139) (C : Cx [] w s G G1 L m [(c, oc)] s1) (hoc : oc.data = .cell none) (hlk : (cellsFrom (L + 1) (fnScope (stAt 22)).names []).lookup (Str.ofString "kept") = some c)
   (hl : ListIn G1 l vs) (hvs : LvsAt G1 vs ls) (hok : ∀ k ∈ ls, LvOk k) (hz : ls.length ≤ 1000) (hhe : m.lookup (Str.ofString "held") = some (.ref l)) (hou : m.lookup (Str.ofString "outer") = some (.int (kdI k) t)) (hfo : m.lookup (Str.ofString "form") = some (.str fm tf))
   (hC : ∀ kl out ks G2 m2 s2, G1.le G2 → Cx [] w s G G2 L m2 [] s2 → CellAt G2 c (.ref kl) → ListIn G2 kl out → LvsAt G2 out ks → (∀ x, x ∈ ks ↔ x ∈ ls ∧ LfOk x) → ks.Pairwise (fun a b => lvK a < lvK b) →
      m2.lookup (Str.ofString "held") = some (.ref l) → m2.lookup (Str.ofString "form") = some (.str fm tf) → m2.lookup (Str.ofString "outer") = some (.int (kdI k) t) →
     wpAny (MD w) A (execs ((fnBody (stAt 22)).drop 8) (lawEnv L)) (fun fl s'' => R (.ok (.ret (match fl with | .ret v => v | _ => .none))) s'') (fun _ _ => False) s2) :
   wpAny (MD w) A (execs ((fnBody (stAt 22)).drop 7) (lawEnv L)) (fun fl s'' => R (.ok (.ret (match fl with | .ret v => v | _ => .none))) s'') (fun _ _ => False) s1 := by
  repeat walk1
  refine R_compF (l0 := l) (vs := vs) (fun i G' ys => LvsAt G' ys ((ls.take i).filter keepB)) rm.1 (by assumption) hl (by rfl) (by decide) (by rfl) (by decide) (by rfl) ?_ (fun sb i v G' L' ys s' mu' E' hv le hj C' => ?_) trivial (fun i G ys hj => by
    rw [hj.len]
    exact Nat.le_trans (List.length_filter_le ..) (by rw [List.length_take]; omega)) (fun _ => rfl) ?_
  · intro Q' hQ
    repeat walk1
    exact hQ _ (by assumption)
  · obtain ⟨lf, hlf, hla⟩ := hvs.get hv
    have hla' := hla.mono le
    obtain ⟨p, t1, t2, rfl, hp⟩ := id hla'
    have hp : TupAt G' p [.str lf.1 t1, .int (oI lf.2) t2] := hp
    refine wpAny_tests_one ?_
    repeat walk1
    have hts := take_succ_filter keepB ls i lf hlf
    rcases hok lf (List.mem_of_getElem? hlf) with e | e
    · have hk : keepB lf = false := by unfold keepB; rw [e]; decide
      rw [hk] at hts
      refine P.truthy_str (by rw [e]; decide) ?_
      rw [show ((lf.1.length : Int) != 0) = false from by rw [e]; decide, if_neg (by simp)]
      refine ⟨G', Km.le.refl _, by rw [hts]; simpa using hj, ?_⟩
      exact Cx.sub (Cx.toks (by assumption) _) fun _ _ h => (nomatch h)
    · have hk : keepB lf = true := by unfold keepB; exact decide_eq_true e
      rw [hk] at hts
      have h4 : ((lf.1.length : Int) != 0) = true ∧ ¬ (lf.1.length : Int) ≥ 2 ^ 63 := by rcases nm_cases e with e | e | e | e <;> rw [e] <;> decide
      refine P.truthy_str h4.2 ?_
      rw [h4.1, if_pos rfl]
      repeat walk1
      refine ⟨G', Km.le.refl _, ?_, Cx.sub (Cx.toks (by assumption) _) fun _ _ h => (nomatch h)⟩
      rw [hts, if_pos rfl]
      exact hj.append ⟨hla', trivial⟩
  · intro s' G' ys n l' hj le C'
    have hj : LvsAt G' ys (ls.filter keepB) := by rw [hvs.len, List.take_length] at hj; exact hj
    have hok' : ∀ k ∈ ls.filter keepB, LfOk k := fun k hk => of_decide_eq_true (p := k.1 ∈ nmL) (List.mem_filter.mp hk).2
    repeat walk1
    refine R_setList (by assumption) (rm.le (by decide)) (.head _) hj hok' fun S s3 es ep t3 ks hS hks C3 => ?_
    repeat walk1
    refine R_sortedS (rm.le (by decide)) C3 hS (.head _) fun kl s4 G4 n4 out k4 le4 hv4 hm4 hp4 C4 => ?_
    have C5 := (C4.freeze (fun h => nomatch h)).pop.pop
    have le5 : G4.le (G4.put kl (lstObj out n4)) := Km.put_le (C4.new kl (by simp)).2.1
    refine R_storeCell C5 (fun h => nomatch h) hlk hoc (fun s6 G6 le6 hc6 C6 => ?_) (by with_unfolding_all exact rfl) (by with_unfolding_all exact rfl)
    refine hC kl out k4 G6 _ s6 (le.trans (le4.trans (le5.trans le6))) C6 hc6 ⟨n4, le6 _ _ Km.put_self⟩ ((hv4.mono le5).mono le6) (fun x => ?_) hp4 (by walk_at "m_lk") (by walk_at "m_lk") (by walk_at "m_lk")
    rw [hm4, hks, List.mem_filter]
    exact ⟨fun h => ⟨h.1, of_decide_eq_true (p := x.1 ∈ nmL) h.2⟩, fun h => ⟨h.1, decide_eq_true (p := x.1 ∈ nmL) h.2⟩⟩
end
-- part C51
section
variable {X : List Addr} {w : World} {s₀ s s' : Shared} {G₀ G G' : Km} {L : Addr} {m m' : List (Str × Value)} {mu : List (Addr × Obj)} {A : Around} {E : Value → Shared → Prop} {R : Result → Shared → Prop}
theorem any_range {bs : List Bool} {n : Nat} (h : n = bs.length) : ((List.range n).any fun i => bs.getD i false) = bs.any id := by
  subst h
  have : (List.range bs.length).map (fun i => bs.getD i false) = bs := by
    apply List.ext_getElem
    · simp
    · intro i h1 h2
      simp [h2]
  conv => rhs; rw [← this]
  rw [List.any_map]
  rfl
theorem R_any {l : Addr} {bs : List Bool} {n : Nat} {Q : Value → Shared → Prop} (hh : A.handled = none) (C : Cx X w s₀ G₀ G L m mu s) (hm : (l, lstObj (bs.map Value.bool) n) ∈ mu) (h : ∀ s', Cx X w s₀ G₀ G L m mu s' → Q (.bool (bs.any id)) s') :
    wpAny (MD w) A (call (.builtin "any") [.ref l]) Q E s := by
  have hl : s.heap.IsList l (bs.map Value.bool).toArray := ⟨_, C.getMu hm, rfl, n, rfl⟩
  refine call_any_walk (wpAny_pyIter_list hl ?_)
  have hlt : l < s.heap.objs.size := C.lt l (.tail _ (List.mem_map.mpr ⟨_, hm, rfl⟩))
  have C1 := C.push (o := { cls := .type "list_iterator", data := .fields #[.ref l, .int 0 0] })
  refine ⟨s.heap.objs.size, _, _, _, _, _, fun i => bs.getD i false, rfl, Walks.list (A := A.in1) (show A.in1.handled = none from hh) _ l (Nat.ne_of_lt hlt) (bs.map Value.bool).toArray, ⟨⟨_, C1.getMu (.head _), rfl, rfl⟩, ⟨_, C1.getMu (.tail _ hm), rfl, n, rfl⟩⟩, fun i v s' Q' E' hP hQ => ?_, fun h' tk hk => ?_⟩
  · have hP : (bs.map Value.bool).toArray[i]? = some v := hP
    rw [List.getElem?_toArray, List.getElem?_map, Option.map_eq_some_iff] at hP
    obtain ⟨b, hb, rfl⟩ := hP
    have : bs.getD i false = b := by simp [List.getD, hb]
    exact wpAny_truthy_bool (by rw [← this]; exact hQ)
  · rw [any_range (by simp)]
    exact h _ (C1.lose (t := tk) fun b o hne e => hk b o (by simpa using hne) e)
theorem LvOk.lay {l : Leaf} (h : LvOk l) : (LvD l).canLay0 = true := by
  rcases h with h | h
  · obtain ⟨n, b⟩ := l
    cases h
    cases b <;> decide +kernel
  · exact LfOk.lay h
theorem LvsAt.reads (W : Wd w G s) : ∀ {vs : List Value} {ls : List Leaf}, LvsAt G vs ls → ReadsAll s.heap vs (ls.map LvD) []
  | [], [], _ => .nil
  | v :: vs, l :: ls, h => .cons (as := []) (bs := []) (h.1.reads W) (LvsAt.reads W h.2)
theorem lays : ∀ {ls : List Leaf}, (∀ k ∈ ls, LvOk k) → PyData.canLayAll0 (ls.map LvD) = true
  | [], _ => rfl
  | l :: ls, h => by
    show (PyData.canLay0 (LvD l) && PyData.canLayAll0 (ls.map LvD)) = true
    rw [(h l (.head _)).lay, lays fun k hk => h k (.tail _ hk)]
    rfl
theorem any_mem_leaf {ls : List Leaf} {x : Leaf} : ((ls.map LvD).any fun y => PyData.eqv y (LvD x)) = decide (x ∈ ls) := by
  rw [List.any_map, Bool.eq_iff_iff, List.any_eq_true, decide_eq_true_eq]
  constructor
  · rintro ⟨y, hy, e⟩
    have : PyData.eqv (LvD y) (LvD x) = true := e
    rw [LvD_eqv] at this
    exact of_decide_eq_true this ▸ hy
  · intro hx
    exact ⟨x, hx, by show PyData.eqv (LvD x) (LvD x) = true; rw [LvD_eqv]; exact decide_eq_true rfl⟩
theorem R_inLf {l : Addr} {vs : List Value} {ls : List Leaf} {v : Value} {x : Leaf} {Q : Value → Shared → Prop} (W : Wd w G s) (hu : A.units + 8 < cLine) (hl : ListIn G l vs) (hvs : LvsAt G vs ls) (hok : ∀ k ∈ ls, LvOk k) (hv : LvAt G v x) (hx : LvOk x) (h : Q (.bool (decide (x ∈ ls))) s) :
    wpAny (MD w) A (compareOp .In v (.ref l)) Q E s := by
  obtain ⟨n, hn⟩ := hl
  have hd : (LvD x).depth ≤ 4 := by simp [LvD, PyData.depth, PyData.depthAll]
  have hmin : min (PyData.depthAll (ls.map LvD)) (LvD x).depth ≤ 4 := Nat.le_trans (Nat.min_le_right ..) hd
  refine PySem.SeqAt.in_list_reads (.list (W.keep _ _ hn) rfl rfl (hvs.reads W)) (hv.reads W) (lays hok) hx.lay (by omega) ?_
  rw [any_mem_leaf]
  exact h
end
-- part C52
section
variable {X : List Addr} {w : World} {s₀ s s' : Shared} {G₀ G G' : Km} {L : Addr} {m m' : List (Str × Value)} {mu : List (Addr × Obj)} {A : Around} {E : Value → Shared → Prop} {R : Result → Shared → Prop}
theorem R_pk {x : Str} {t u : Tok} {k : Bool} {value slice : Expr} {Q : Value → Shared → Prop} (f : Bool → Str) (C : Cx X w s₀ G₀ G L m mu s) (hc : ∀ k, ∃ c, (seqIndex? (kdI k - 2) x.length).bind (x.cps[·]?) = some c ∧ f k = ⟨#[c]⟩) (h : ∀ t s', Cx X w s₀ G₀ G L m mu s' → Q (.str (f k) t) s')
    (hs : subscripted slice false (.str x t) (.int (kdI k - 2) u) = operate [.str x t, .int (kdI k - 2) u] (getItem (.str x t) (.int (kdI k - 2) u)) := by with_unfolding_all rfl) : wpAny (MD w) A (subscriptTail value slice (.str x t) (.int (kdI k - 2) u)) Q E s := by
  obtain ⟨c, h1, h2⟩ := hc k
  refine tail_any (T := "str") (typeIs_str s x t) PySem.F.slot_str_getitem.lookup (P.getItem_str (by cases k <;> decide) h1 ?_) hs
  rw [← h2]
  exact h _ _ (C.toks _)
def contrB (ks : List Leaf) : Bool := ks.any fun x => decide ((x.1, !x.2) ∈ ks)
theorem law_i {c kl : Addr} {out : List Value} {ks : List Leaf} {k : Bool} {t tf : Tok} {fm : Str} {nk : Nat} {G1 : Km} {s1 : Shared} (rm : Rm A 139) (C : Cx [] w s G G1 L m [] s1) (hlk : (cellsFrom (L + 1) (fnScope (stAt 22)).names []).lookup (Str.ofString "kept") = some c)
   (hce : CellAt G1 c (.ref kl)) (hnk : G1 kl = some (lstObj out nk)) (hks : LvsAt G1 out ks) (hko : ∀ x ∈ ks, LfOk x) (h8 : ks.length ≤ 8)
   (hou : m.lookup (Str.ofString "outer") = some (.int (kdI k) t)) (hfo : m.lookup (Str.ofString "form") = some (.str fm tf))
   (p2 : ks = [] → fm = strC k) (p3 : ks ≠ [] → fm = Txt.join (opS k) (ks.map strL))
   (hR : ∀ s' G', Wd w G' s' → Ps [] s G s' G' → R (.ok (.ret (.bool true))) s') :
   wpAny (MD w) A (execs ((fnBody (stAt 22)).drop 9) (lawEnv L)) (fun fl s'' => R (.ok (.ret (match fl with | .ret v => v | _ => .none))) s'') (fun _ _ => False) s1 := by
  have hlen := hks.len
  repeat walk1
  refine wpAny_truthy_list (items := out.toArray) ⟨_, C.get hnk, rfl, nk, rfl⟩ (by rw [List.size_toArray]; omega) ?_
  rw [List.isEmpty_toArray]
  by_cases h0 : out = []
  · subst h0
    have hk0 : ks = [] := List.length_eq_zero_iff.mp hlen.symm
    have C2 := C.toks (s1.toks + 1)
    repeat walk1
    refine R_pk (fun k => strC k) (by first | assumption | exact Cx.toks (by assumption) _) (fun k => by cases k <;> exact ⟨_, rfl, by decide⟩) fun t9 s9 C9 => ?_
    rw [p2 hk0]
    repeat walk1
    rw [show ((strC k) == strC k) = true from beq_self_eq_true _]
    exact hR _ _ C9.wd C9.ps
  · rw [show out.isEmpty = false from by rw [List.isEmpty_eq_false_iff]; exact h0]
    have C2 := C.toks (s1.toks + 1)
    have hkl : ListIn G1 kl out := ⟨nk, hnk⟩
    have fr : ∀ x ∈ out, ∃ t a b, x = .ref t ∧ TupAt G1 t [a, b] := fun x hx => by
      obtain ⟨lx, _, p, u1, u2, e1, e2⟩ := hks.mem x hx
      exact ⟨p, _, _, e1, e2⟩
    repeat walk1
    refine R_pk opS (by first | assumption | exact Cx.toks (by assumption) _) (fun k => by cases k <;> exact ⟨_, rfl, by decide⟩) fun t9 s9 C9 => ?_
    repeat walk1
    refine R_compP (l0 := kl) (vs := out) (fun i G' ys => StrsAre ys ((ks.take i).map strL)) rm.1 (by assumption) hkl fr (by rfl) (by decide) (by rfl) (by decide) (by rfl) (by rfl) ?_ (fun sb i tt a b G' L' ys s' mu' E' hv hta le hj C' => ?_) .nil (fun i G ys hj => by rw [hj.length, List.length_map, List.length_take]; omega) (fun _ => rfl) ?_
    · intro Q' hQ
      exact R_cell (by assumption) hlk hce (hQ _ (by assumption)) (by rfl) (by rfl) (by decide)
    · obtain ⟨lx, hlx, hla⟩ := hks.get hv
      obtain ⟨p, u1, u2, e1, e2⟩ := id hla
      cases e1
      have e3 := Option.some.inj ((show G1 tt = _ from hta).symm.trans e2)
      injection e3 with _ _ e4 _
      injection e4 with e5 _
      have e6 := List.toArray_inj e5
      simp only [List.cons.injEq, and_true] at e6
      obtain ⟨rfl, rfl⟩ := e6
      have hlxm := List.mem_of_getElem? hlx
      clear hta
      repeat walk1
      refine SB.mul (by cases lx.2 <;> exact ⟨by decide, by decide, by decide⟩) fun t8 k8 => ?_
      have C8 := Cx.toks (by assumption) k8
      repeat walk1
      have hxn : lx.1 ∈ nmL := hko lx hlxm
      have hsl : Txt.mul (Str.ofString "~") (oI lx.2) ++ lx.1 = strL lx ∧ (Txt.mul (Str.ofString "~") (oI lx.2)).length + lx.1.length ≤ 100 := by
        obtain ⟨nm, b⟩ := lx
        have hxn : nm ∈ nmL := hxn
        rcases nm_cases hxn with rfl | rfl | rfl | rfl <;> cases b <;> decide +kernel
      refine SB.add (fun t9 k9 => ?_) (by rw [sizeLine_eq]; omega)
      rw [hsl.1]
      refine ⟨G', Km.le.refl _, ?_, Cx.sub (C8.toks k9) fun _ _ h => (nomatch h)⟩
      rw [List.take_add_one, hlx, List.map_append]
      exact strs_snoc hj
    · intro s' G' ys n l' hj le C'
      have hj2 : StrsAre ys (ks.map strL) := by rwa [hlen, List.take_length] at hj
      repeat walk1
      refine R_join (by assumption) (.head _) hj2 (by cases k <;> decide) (by have := strLs_len (ls := ks) hko; rw [List.length_map]; omega) fun t6 s6 C6 => ?_
      have hne : ks ≠ [] := fun h => h0 (List.length_eq_zero_iff.mp (by rw [hlen, h]; rfl))
      rw [p3 hne]
      repeat walk1
      rw [show ((Txt.join (opS k) (ks.map strL)) == (Txt.join (opS k) (ks.map strL))) = true from beq_self_eq_true _]
      exact hR _ _ C6.wd C6.ps
theorem law_h {c kl l : Addr} {vs out : List Value} {ls ks : List Leaf} {k : Bool} {t tf : Tok} {fm : Str} {G1 : Km} {s1 : Shared} (rm : Rm A 139) (C : Cx [] w s G G1 L m [] s1) (hlk : (cellsFrom (L + 1) (fnScope (stAt 22)).names []).lookup (Str.ofString "kept") = some c)
   (hce : CellAt G1 c (.ref kl)) (hkl : ListIn G1 kl out) (hks : LvsAt G1 out ks) (hko : ∀ x ∈ ks, LfOk x) (h8 : ks.length ≤ 8)
   (hl : ListIn G1 l vs) (hvs : LvsAt G1 vs ls) (hok : ∀ k ∈ ls, LvOk k) (hz : ls.length ≤ 1000) (hhe : m.lookup (Str.ofString "held") = some (.ref l)) (hou : m.lookup (Str.ofString "outer") = some (.int (kdI k) t)) (hfo : m.lookup (Str.ofString "form") = some (.str fm tf))
   (p1 : ((Str.ofString "", !k) ∈ ls ∨ contrB ks = true) → fm = strC (!k)) (p2 : (Str.ofString "", !k) ∉ ls → contrB ks = false → ks = [] → fm = strC k) (p3 : (Str.ofString "", !k) ∉ ls → contrB ks = false → ks ≠ [] → fm = Txt.join (opS k) (ks.map strL))
   (hR : ∀ s' G', Wd w G' s' → Ps [] s G s' G' → R (.ok (.ret (.bool true))) s') :
   wpAny (MD w) A (execs ((fnBody (stAt 22)).drop 8) (lawEnv L)) (fun fl s'' => R (.ok (.ret (match fl with | .ret v => v | _ => .none))) s'') (fun _ _ => False) s1 := by
  repeat walk1
  refine R_newT (by first | assumption | exact Cx.toks (by assumption) _) (by simp) fun tp s2 G2 le2 ht2 C2 => ?_
  have hix : kdI k - 2 = oI (!k) := by cases k <;> rfl
  have hlv : LvAt G2 (.ref tp) (Str.ofString "", !k) := by rw [hix] at ht2; exact ⟨tp, _, _, rfl, ht2⟩
  clear ht2
  repeat walk1
  have hu : A.units + 8 < cLine := by have := rm.2.2.1; show A.units + 8 < 9900; omega
  refine R_inLf (Cx.wd (by assumption)) hu (hl.mono le2) (hvs.mono le2) hok hlv (.inl rfl) ?_
  by_cases h1 : (Str.ofString "", !k) ∈ ls
  · rw [decide_eq_true h1]
    repeat walk1
    refine R_pk (fun k => strC (!k)) (by first | assumption | exact Cx.toks (by assumption) _) (fun k => by cases k <;> exact ⟨_, rfl, by decide⟩) fun t9 s9 C9 => ?_
    rw [p1 (.inl h1)]
    repeat walk1
    rw [show ((strC !k) == strC !k) = true from beq_self_eq_true _]
    exact hR _ _ C9.wd C9.ps
  · rw [decide_eq_false h1]
    repeat walk1
    have hcl : closureFor ({ kind := .function, names := [(Str.ofString ".0", .local), (Str.ofString "name", .local), (Str.ofString "odd", .local), (Str.ofString "kept", .free)], isGenerator := false, isCoroutine := false } : Scope) (lawEnv L) = pure [(Str.ofString "kept", c)] := by
      cases hlk
      rfl
    have fr : ∀ x ∈ out, ∃ t a b, x = .ref t ∧ TupAt G2 t [a, b] := fun x hx => by
      obtain ⟨lx, _, p, u1, u2, e1, e2⟩ := hks.mem x hx
      exact ⟨p, _, _, e1, e2.mono le2⟩
    refine R_compP (l0 := kl) (vs := out) (fun i G' ys => ys = ((ks.take i).map fun x => Value.bool (decide ((x.1, !x.2) ∈ ks)))) rm.1 (by assumption) (hkl.mono le2) fr hcl (by decide) (by rfl) (by decide) (by rfl) (by rfl) ?_ (fun sb i tt a b G' L' ys s' mu' E' hv hta le hj C' => ?_) (by simp) (fun i G ys hj => by rw [hj, List.length_map, List.length_take]; omega) (fun _ => rfl) ?_
    · intro Q' hQ
      exact R_cell (by assumption) hlk (hce.mono le2) (hQ _ (by assumption)) (by rfl) (by rfl) (by decide)
    · obtain ⟨lx, hlx, hla⟩ := hks.get hv
      obtain ⟨p, u1, u2, e1, e2⟩ := id hla
      cases e1
      have e3 := Option.some.inj ((show G2 tt = _ from hta).symm.trans (e2.mono le2))
      injection e3 with _ _ e4 _
      injection e4 with e5 _
      have e6 := List.toArray_inj e5
      simp only [List.cons.injEq, and_true] at e6
      obtain ⟨rfl, rfl⟩ := e6
      have hlxm := List.mem_of_getElem? hlx
      have hce2 : CellAt G' c (.ref kl) := (hce.mono le2).mono le
      clear hta
      repeat walk1
      refine R_newT (by first | assumption | exact Cx.toks (by assumption) _) (by simp) fun tq s5 G5 le5 ht5 C5 => ?_
      have hlv5 : LvAt G5 (.ref tq) (lx.1, !lx.2) := by
        rw [show (1 : Int) - oI lx.2 = oI (!lx.2) from by cases lx.2 <;> rfl] at ht5
        exact ⟨tq, _, _, rfl, ht5⟩
      have hce5 := hce2.mono le5
      clear ht5
      refine R_cell C5 (c := c) (by rfl) hce5 ?_ (by rfl) (by rfl) (by decide)
      refine R_inLf C5.wd hu (((hkl.mono le2).mono le).mono le5) (((hks.mono le2).mono le).mono le5) (fun k hk => .inr (hko k hk)) hlv5 (.inr (hko lx hlxm)) ?_
      refine ⟨G5, le5, ?_, Cx.sub (by assumption) fun _ _ h => (nomatch h)⟩
      rw [hj, List.take_add_one, hlx, List.map_append]
      rfl
    · intro s' G' ys n l' hj le C'
      have hj2 : ys = (ks.map fun x => decide ((x.1, !x.2) ∈ ks)).map Value.bool := by
        rw [hj, hks.len, List.take_length, List.map_map]
        rfl
      rw [hj2] at C'
      have hceN : CellAt G' c (.ref kl) := (hce.mono le2).mono le
      have hklN : ListIn G' kl out := (hkl.mono le2).mono le
      obtain ⟨nk, hnk⟩ := id hklN
      have hksN : LvsAt G' out ks := (hks.mono le2).mono le
      clear hce hkl hj hcl fr
      iterate 1 walk1
      refine R_any rm.1 (by assumption) (.head _) fun s6 C6 => ?_
      replace C6 := C6.pop
      have hany : (ks.map fun x => decide ((x.1, !x.2) ∈ ks)).any id = contrB ks := by
        unfold contrB
        rw [List.any_map]
        rfl
      rw [hany]
      by_cases h2 : contrB ks = true
      · rw [h2]
        repeat walk1
        refine R_pk (fun k => strC (!k)) (by first | assumption | exact Cx.toks (by assumption) _) (fun k => by cases k <;> exact ⟨_, rfl, by decide⟩) fun t9 s9 C9 => ?_
        rw [p1 (.inr h2)]
        repeat walk1
        rw [show ((strC !k) == strC !k) = true from beq_self_eq_true _]
        exact hR _ _ C9.wd C9.ps
      · rw [Bool.not_eq_true] at h2
        rw [h2]
        iterate 5 walk1
        exact law_i rm (by assumption) hlk hceN hnk hksN hko h8 hou hfo (p2 h1 h2) (p3 h1 h2) hR
end
-- part C53
section
def Bad (odd k : Bool) (S : List Leaf) : Prop := (Str.ofString "", (!k) != odd) ∈ S ∨ ∃ n ∈ nmL, (n, false) ∈ S ∧ (n, true) ∈ S
theorem Bad.mono {odd k : Bool} {S T : List Leaf} (h : Bad odd k S) (s : ∀ x ∈ S, x ∈ T) : Bad odd k T := h.elim (fun h => .inl (s _ h)) fun ⟨n, hn, a, b⟩ => .inr ⟨n, hn, s _ a, s _ b⟩
structure DRel (odd k : Bool) (D : Den) (S : List Leaf) : Prop where
  none_iff : D = none ↔ Bad odd k S
  mem : ∀ lits, D = some lits → ∀ l : Lit, l ∈ lits ↔ ((l.1, l.2 != odd) ∈ S ∧ l.1 ∈ nmL)
structure ARel (odd k : Bool) (xs : List Atm) (S : List Leaf) : Prop where
  ann : .ann ∈ xs → Bad odd k S
  cst : (Str.ofString "", (!k) != odd) ∈ S → .ann ∈ xs
  lit : ∀ l : Lit, .lit l ∈ xs → (l.1, l.2 != odd) ∈ S ∧ l.1 ∈ nmL
  all : .ann ∉ xs → ∀ l : Lit, (l.1, l.2 != odd) ∈ S → l.1 ∈ nmL → .lit l ∈ xs
theorem ARel.nil (odd k : Bool) : ARel odd k [] [] := ⟨fun h => (nomatch h), fun h => (nomatch h), fun l h => (nomatch h), fun _ l h => (nomatch h)⟩
theorem ARel.append {odd k : Bool} {xs ys : List Atm} {S T : List Leaf} (a : ARel odd k xs S) (b : ARel odd k ys T) : ARel odd k (xs ++ ys) (S ++ T) :=
  ⟨fun h => (List.mem_append.mp h).elim (fun h => (a.ann h).mono fun x hx => List.mem_append_left _ hx) fun h => (b.ann h).mono fun x hx => List.mem_append_right _ hx,
   fun h => (List.mem_append.mp h).elim (fun h => List.mem_append_left _ (a.cst h)) fun h => List.mem_append_right _ (b.cst h),
   fun l h => (List.mem_append.mp h).elim (fun h => ⟨List.mem_append_left _ (a.lit l h).1, (a.lit l h).2⟩) fun h => ⟨List.mem_append_right _ (b.lit l h).1, (b.lit l h).2⟩,
   fun hn l h hl => (List.mem_append.mp h).elim (fun h => List.mem_append_left _ (a.all (fun q => hn (List.mem_append_left _ q)) l h hl)) fun h => List.mem_append_right _ (b.all (fun q => hn (List.mem_append_right _ q)) l h hl)⟩
theorem DRel.atoms {odd k : Bool} {D : Den} {S : List Leaf} (d : DRel odd k D S) : ARel odd k (atomsOf D) S := by
  match D, d with
  | none, d => exact ⟨fun _ => d.none_iff.mp rfl, fun _ => .head _, fun l h => by simp [atomsOf] at h, fun hn => absurd (.head _) hn⟩
  | some [], d =>
    exact ⟨fun h => by simp [atomsOf] at h, fun h => (nomatch d.none_iff.mpr (.inl h)), fun l h => by simp [atomsOf] at h, fun _ l h hl => (nomatch (d.mem [] rfl l).mpr ⟨h, hl⟩)⟩
  | some (l0 :: ls), d =>
    exact ⟨fun h => by simp [atomsOf] at h, fun h => (nomatch d.none_iff.mpr (.inl h)), fun l h => (d.mem _ rfl l).mp (lit_mem.mp h), fun _ l h hl => lit_mem.mpr ((d.mem _ rfl l).mpr ⟨h, hl⟩)⟩
theorem ARel.nrm {odd k : Bool} {xs : List Atm} {S : List Leaf} (a : ARel odd k xs S) : DRel odd k (nrm xs) S := by
  have hc : Clash xs ↔ Bad odd k S := by
    constructor
    · rintro (h | ⟨l, hl, h1, h2⟩)
      · exact a.ann h
      · obtain ⟨n, b⟩ := l
        have e1 := (a.lit _ h1).1
        have e2 := (a.lit _ h2).1
        refine .inr ⟨n, (a.lit _ h1).2, ?_⟩
        cases b <;> cases odd <;> first | exact ⟨e1, e2⟩ | exact ⟨e2, e1⟩
    · rintro (h | ⟨n, hn, h1, h2⟩)
      · exact .inl (a.cst h)
      · by_cases q : Atm.ann ∈ xs
        · exact .inl q
        · refine .inr ⟨(n, odd), mem_allL hn, a.all q (n, odd) (by cases odd <;> exact h1) hn, a.all q (flipL (n, odd)) (by cases odd <;> exact h2) hn⟩
  unfold Mine.nrm
  by_cases h : Clash xs
  · rw [if_pos h]
    exact ⟨⟨fun _ => hc.mp h, fun _ => rfl⟩, fun lits e => (nomatch e)⟩
  · rw [if_neg h]
    refine ⟨⟨fun e => (nomatch e), fun q => absurd (hc.mpr q) h⟩, fun lits e l => ?_⟩
    cases e
    rw [List.mem_filter, decide_eq_true_eq]
    constructor
    · exact fun q => a.lit l q.2
    · exact fun q => ⟨mem_allL q.2, a.all (fun z => h (.inl z)) l q.1 q.2⟩
theorem DRel.flip {odd k : Bool} {D : Den} {S : List Leaf} (d : DRel (!odd) (!k) D S) : DRel odd k (flipD D) S := by
  have hb : Bad (!odd) (!k) S ↔ Bad odd k S := by
    unfold Bad
    rw [show ((!(!k)) != !odd) = ((!k) != odd) from by cases k <;> cases odd <;> rfl]
  refine ⟨?_, fun lits e l => ?_⟩
  · rw [← hb, ← d.none_iff]
    cases D with
    | none => exact ⟨fun _ => rfl, fun _ => rfl⟩
    | some x => exact ⟨fun e => (nomatch e), fun e => (nomatch e)⟩
  · cases D with
    | none => cases e
    | some x =>
      cases e
      obtain ⟨n, b⟩ := l
      have h1 := d.mem x rfl (n, !b)
      have h2 : ((n, b) : Lit) ∈ x.map flipL ↔ ((n, !b) : Lit) ∈ x := by
        rw [List.mem_map]
        constructor
        · rintro ⟨⟨n', b'⟩, h, e⟩
          simp only [flipL, Prod.mk.injEq] at e
          obtain ⟨rfl, rfl⟩ := e
          rwa [Bool.not_not]
        · intro h
          exact ⟨(n, !b), h, by simp [flipL]⟩
      rw [h2, h1]
      have h3 : ((!b) != !odd) = (b != odd) := by cases b <;> cases odd <;> rfl
      show ((n, (!b) != !odd) : Leaf) ∈ S ∧ n ∈ nmL ↔ _
      rw [h3]
mutual
theorem rel_tr : ∀ (t : Tr) (odd k : Bool), t.ok → DRel odd k (den k t) (lv odd t)
  | .sym n, odd, k, h => by
    unfold Tr.ok at h
    have hne : n ≠ Str.ofString "" := by rcases nm_cases h with rfl | rfl | rfl | rfl <;> decide
    unfold den lv
    refine ⟨⟨fun e => (nomatch e), fun b => ?_⟩, fun lits e l => ?_⟩
    · rcases b with b | ⟨n', _, b1, b2⟩
      · rw [List.mem_singleton, Prod.mk.injEq] at b
        exact absurd b.1.symm hne
      · rw [List.mem_singleton, Prod.mk.injEq] at b1 b2
        exact absurd (b1.2.trans b2.2.symm) (by decide)
    · cases e
      obtain ⟨n', b⟩ := l
      rw [List.mem_singleton, List.mem_singleton, Prod.mk.injEq, Prod.mk.injEq]
      constructor
      · rintro ⟨rfl, rfl⟩
        exact ⟨⟨rfl, by cases odd <;> rfl⟩, h⟩
      · rintro ⟨⟨rfl, e⟩, _⟩
        exact ⟨rfl, by cases b <;> cases odd <;> simp at e ⊢⟩
  | .cst b, odd, k, _ => by
    unfold den lv
    have hno : ∀ l : Lit, l.1 ∈ nmL → ∀ x, ((l.1, x) : Leaf) ∉ [(Str.ofString "", b != odd)] := fun l hl x hx => by
      rw [List.mem_singleton, Prod.mk.injEq] at hx
      rcases nm_cases hl with e | e | e | e <;> rw [e] at hx <;> exact absurd hx.1 (by decide)
    by_cases e : b = k
    · rw [if_pos e]
      refine ⟨⟨fun e => (nomatch e), fun q => ?_⟩, fun lits e l => ?_⟩
      · rcases q with q | ⟨n, hn, q, _⟩
        · rw [List.mem_singleton, Prod.mk.injEq] at q
          exact absurd q.2 (by subst e; cases b <;> cases odd <;> decide)
        · exact absurd q (hno (n, false) hn _)
      · cases e
        exact ⟨fun q => (nomatch q), fun q => absurd q.1 (hno l q.2 _)⟩
    · rw [if_neg e]
      refine ⟨⟨fun _ => .inl ?_, fun _ => rfl⟩, fun lits e => (nomatch e)⟩
      rw [show b = !k from by revert e; cases b <;> cases k <;> decide]
      exact .head _
  | .not t, odd, k, h => by
    unfold Tr.ok at h
    rw [den_not, lv]
    exact (rel_tr t (!odd) (!k) h).flip
  | .grp ts, odd, k, h => by
    unfold Tr.ok at h
    rw [den, lv]
    exact (rel_trs ts odd k h.2.2).nrm
theorem rel_trs : ∀ (ts : List Tr) (odd k : Bool), oks ts → ARel odd k (dens k ts) (lvs odd ts)
  | [], odd, k, _ => by rw [dens, lvs]; exact .nil odd k
  | t :: ts, odd, k, h => by
    unfold oks at h
    rw [dens, lvs]
    exact (rel_tr t odd k h.1).atoms.append (rel_trs ts odd k h.2)
end
theorem leaf_ok : ∀ (t : Tr) (odd : Bool), t.ok → ∀ x ∈ lv odd t, LvOk x
  | .sym n, odd, h, x, hx => by
    unfold Tr.ok at h
    rw [lv, List.mem_singleton] at hx
    subst hx
    exact .inr h
  | .cst b, odd, _, x, hx => by
    rw [lv, List.mem_singleton] at hx
    subst hx
    exact .inl rfl
  | .not t, odd, h, x, hx => by
    unfold Tr.ok at h
    rw [lv] at hx
    exact leaf_ok t _ h x hx
  | .grp ts, odd, h, x, hx => by
    unfold Tr.ok at h
    rw [lv] at hx
    exact leafs_ok ts _ h.2.2 x hx
where
  leafs_ok : ∀ (ts : List Tr) (odd : Bool), oks ts → ∀ x ∈ lvs odd ts, LvOk x
  | [], odd, _, x, hx => by rw [lvs] at hx; cases hx
  | t :: ts, odd, h, x, hx => by
    unfold oks at h
    rw [lvs] at hx
    rcases List.mem_append.mp hx with hx | hx
    · exact leaf_ok t odd h.1 x hx
    · exact leafs_ok ts odd h.2 x hx
-- the law's three answers
theorem contr_bad {k : Bool} {ls ks : List Leaf} (hm : ∀ x, x ∈ ks ↔ x ∈ ls ∧ LfOk x) : contrB ks = true ↔ ∃ n ∈ nmL, (n, false) ∈ ls ∧ (n, true) ∈ ls := by
  unfold contrB
  rw [List.any_eq_true]
  constructor
  · rintro ⟨⟨n, b⟩, h1, h2⟩
    have h2 := of_decide_eq_true h2
    have a := (hm _).mp h1
    have c := (hm _).mp h2
    refine ⟨n, a.2, ?_⟩
    cases b
    · exact ⟨a.1, c.1⟩
    · exact ⟨c.1, a.1⟩
  · rintro ⟨n, hn, h1, h2⟩
    exact ⟨(n, false), (hm _).mpr ⟨h1, hn⟩, decide_eq_true ((hm _).mpr ⟨h2, hn⟩)⟩
theorem law_plain {ts : List Tr} {k : Bool} {ks : List Leaf} (hok : oks ts) (hm : ∀ x, x ∈ ks ↔ x ∈ lvs false ts ∧ LfOk x) (hs : ks.Pairwise (fun a b => lvK a < lvK b)) :
    (((Str.ofString "", !k) ∈ lvs false ts ∨ contrB ks = true) → strD k (den k (.grp ts)) = strC (!k)) ∧
    ((Str.ofString "", !k) ∉ lvs false ts → contrB ks = false → ks = [] → strD k (den k (.grp ts)) = strC k) ∧
    ((Str.ofString "", !k) ∉ lvs false ts → contrB ks = false → ks ≠ [] → strD k (den k (.grp ts)) = Txt.join (opS k) (ks.map strL)) := by
  have a := rel_trs ts false k hok
  have d := a.nrm
  have hden : den k (.grp ts) = nrm (dens k ts) := by rw [den]
  rw [hden]
  have hb : Bad false k (lvs false ts) ↔ ((Str.ofString "", !k) ∈ lvs false ts ∨ contrB ks = true) := by
    rw [contr_bad (k := k) hm]
    unfold Bad
    rw [show ((!k) != false) = !k from by cases k <;> rfl]
  have main : (Str.ofString "", !k) ∉ lvs false ts → contrB ks = false → nrm (dens k ts) = some ks := fun h1 h2 => by
    have hnb : ¬ Bad false k (lvs false ts) := fun q => (hb.mp q).elim h1 fun q => by rw [h2] at q; cases q
    have hnc : ¬ Clash (dens k ts) := fun q => hnb (d.none_iff.mp (by unfold nrm; rw [if_pos q]))
    have hna : Atm.ann ∉ dens k ts := fun q => hnc (.inl q)
    refine nrm_lits (fun l hl => (a.lit l hl).2) hnc (fun l => ?_) ?_
    · rw [hm]
      have e : (l.1, l.2 != false) = l := by obtain ⟨n, b⟩ := l; cases b <;> rfl
      constructor
      · exact fun q => a.all hna l (by rw [e]; exact q.1) q.2
      · intro q
        have := a.lit l q
        rw [e] at this
        exact this
    · refine List.Pairwise.imp_of_mem (fun {x y} hx hy h => ?_) hs
      obtain ⟨n, b⟩ := x
      obtain ⟨n', b'⟩ := y
      have e1 : lvK (n, b) = 2 * nmR n + (if b then 1 else 0) := rfl
      have e2 : lvK (n', b') = 2 * nmR n' + (if b' then 1 else 0) := rfl
      rw [e1, e2] at h
      show nmR n < nmR n'
      have hne : nmR n ≠ nmR n' := fun q => by
        have en := nmR_inj ((hm _).mp hx).2 ((hm _).mp hy).2 q
        simp only at en
        subst en
        have : contrB ks = true := (contr_bad (k := k) hm).mpr ⟨n, ((hm _).mp hx).2, by
          cases b <;> cases b' <;> first | (simp at h; done) | exact ⟨((hm _).mp hx).1, ((hm _).mp hy).1⟩ | exact ⟨((hm _).mp hy).1, ((hm _).mp hx).1⟩⟩
        rw [h2] at this
        cases this
      cases b <;> cases b' <;> simp at h <;> omega
  refine ⟨fun h => ?_, fun h1 h2 h3 => ?_, fun h1 h2 h3 => ?_⟩
  · rw [d.none_iff.mpr (hb.mpr h)]
    rfl
  · rw [main h1 h2, h3]
    rfl
  · rw [main h1 h2]
    cases ks with
    | nil => exact absurd rfl h3
    | cons x xs => rfl
end
-- part C54
section
variable {X : List Addr} {w : World} {s₀ s s' : Shared} {G₀ G G' : Km} {L : Addr} {m m' : List (Str × Value)} {mu : List (Addr × Obj)} {A : Around} {E : Value → Shared → Prop} {R : Result → Shared → Prop}
theorem law_walk {sl : Addr} {vals : List Value} {ns : List Int} (W : Wd w G s) (rm : Rm A 140) (hs : ListIn G sl vals) (hi : IntsAre vals ns) (hz : ns.length ≤ 63)
   (hR : ∀ s' G', Wd w G' s' → Ps [] s G s' G' → R (.ok (.ret (.bool true))) s') : codeAny (MD w) A (.call (.ref 632) ⟨[.ref sl], []⟩) R s := by
  refine law_enter (k := 139) W rm fun L s1 c oc C hoc hlk rm' => ?_
  repeat walk1
  refine R_newL (by assumption) (by simp) fun la s3 n3 C3 => ?_
  repeat walk1
  refine wpAny_For ?_
  obtain ⟨nsl, hsl⟩ := hs
  refine R_sliceN (l := sl) (xs := vals) (n := nsl) (lo := none) (hi := some ((20 : Nat) : Int)) (by assumption) (by walk_at "m_lk") (fun s' C' => C'.get hsl) (by rw [hi.length]; omega) (fun s1 Q' C' h => wpAny_evalPart_none (h _ _ .none C')) (fun s1 Q' C' h => ?_) (fun lt s4 n4 C4 => ?_) (by rfl) (by rfl) (by decide)
  · refine wpAny_evalPart_some ?_
    repeat walk1
    exact h _ _ (.int _ _) (by assumption)
  rw [pick_up] at C4
  repeat walk1
  refine R_iterL (by assumption) (.head _) fun I s5 o5 ho5 C5 => ?_
  have hlt : (vals.take 20).length ≤ 20 := by rw [List.length_take]; omega
  refine R_forL (l := lt) (vs := vals.take 20) (n := n4) (fun i G' m' mu' => m'.lookup (Str.ofString "script") = some (.ref sl) ∧ ∃ sa stk ts n, m'.lookup (Str.ofString "stack") = some (.ref sa) ∧ mu' = [(sa, lstObj stk n), (lt, lstObj (vals.take 20) n4), (c, oc)] ∧ Stk G' ts stk i)
    rm'.1 (C5.swap3) ho5 (fun i G' m' mu' h => by obtain ⟨_, sa, stk, ts, n, _, e, _⟩ := h; rw [e]; exact .tail _ (.head _)) (by rfl) (by rfl) ⟨by walk_at "m_lk", la, [], [], n3, by walk_at "m_lk", rfl, ⟨by rw [PyTs], by rw [oks]; trivial, by rw [deps]; omega, by rw [wts]; exact Nat.le_refl _, Nat.le_refl _⟩⟩ ?_ ?_
  · intro i v G6 m6 mu6 s6 o6 E6 hv le6 ⟨k1, sa, stk, ts, n6, k2, e2, hS⟩ ho6 C6
    subst e2
    have hi20 : i < 20 := Nat.lt_of_lt_of_le (List.getElem?_eq_some_iff.mp hv).1 hlt
    obtain ⟨nv, tk, rfl⟩ : ∃ nv tk, v = .int nv tk := by
      exact ints_all hi v (List.mem_of_mem_take (List.mem_of_getElem? hv))
    refine law_turn (rm'.le (by decide)) C6 (by rfl) (by walk_at "m_lk") (by walk_at "m_lk") hS (by omega) fun s7 G7 m7 sb stk7 ts7 n7 le7 C7 q1 q2 q3 => ?_
    exact ⟨G7, m7, _, ⟨q2, sb, stk7, ts7, n7, q1, rfl, q3⟩, le7, C7⟩
  · intro G6 m6 mu6 s6 E6 ⟨k1, sa, stk, ts, n6, k2, e2, hS⟩ le6 C6
    subst e2
    walk1
    have C7 := C6.cut2
    have hS20 : Stk G6 ts stk 20 := ⟨hS.py, hS.ok, by have := hS.dep; omega, by have := hS.wt; omega, by have := hS.len; omega⟩
    have hlen63 : vals.length ≤ 63 := by rw [hi.length]; exact hz
    have rm9 : Rm _ 139 := rm'.le (by decide)
    refine law_b (vals := vals) (nsl := nsl) rm9 C7 k1 k2 hS20 fun sb2 stk2 ts2 n2 m2 s2 G2 le2 C2 a1 a2 hS2 h1 => ?_
    refine law_c (vals := vals) (nsl := nsl) rm9 C2 a1 a2 hS2 h1 fun sb3 stk3 ts3 n3 m3 s3 C3 a3 a4 py ok dp wt l2 l20 => ?_
    refine law_d rm9 C3 ((C3.ps.le) _ _ hsl) (ints_all hi) hlen63 a3 a4 fun k t m4 s4 C4 a5 a6 => ?_
    refine law_e rm9 C4 a6 a5 py ok dp l2 l20 fun tk G5 m5 s5 le5 C5 a7 a8 a9 => ?_
    refine law_f rm9 C5 a9 a8 a7 (py.mono le5) wt dp l2 l20 fun l vs G8 m8 s8 le8 C8 hl hvs b1 b2 b3 => ?_
    have hokl : ∀ x ∈ lvs false ts3, LvOk x := leaf_ok.leafs_ok ts3 false ok
    have hzl : (lvs false ts3).length ≤ 1000 := by
      have := lv_len false (.grp ts3)
      rw [lv, Tr.wt] at this
      omega
    refine law_g rm9 C8 hoc hlk hl hvs hokl hzl b1 b3 b2 fun kl out ks G9 m9 s9 le9 C9 hce hkl hks hmem hpw b4 b5 b6 => ?_
    obtain ⟨p1, p2, p3⟩ := law_plain (k := k) ok hmem hpw
    have hnd : ks.Nodup := hpw.imp fun h q => by rw [q] at h; exact Nat.lt_irrefl _ h
    exact law_h rm9 C9 hlk hce hkl hks (fun x hx => ((hmem x).mp hx).2) (leaf8 hnd fun x hx => ((hmem x).mp hx).2) (hl.mono le9) (hvs.mono le9) hokl hzl b4 b6 b5 p1 p2 p3 hR
end
-- part C55
theorem ns_some_of {K : Frag} {h : Heap} {N : Addr} {mg : Str → Option Value} {n : Str} {v : Value} (X : K.In h) (G : h.Ns N mg) (e : nsIn K N n = some (some v)) : mg n = some v := by
  obtain ⟨o, es, ep, ho, hd, _, hf⟩ := G
  unfold nsIn at e
  split at e
  · rename_i c d es' n' sl q
    have := X _ _ q
    rw [ho] at this
    cases this
    cases hd
    split at e
    · rename_i en he
      rw [← hf]
      unfold nsFind findBy
      rw [← Array.find?_toList, he]
      cases e
      rfl
    · split at e <;> cases e
  · cases e
def KmOf (P : Params) (X : List (Addr × Obj)) : Km := fun a => ((K0 P).lookup a).or (X.lookup a)
theorem items_int : ∀ {xs : List WData}, WShape.hasItems [] xs .int = true → ∃ ns : List Int, xs = ns.map WData.int
  | [], _ => ⟨[], rfl⟩
  | x :: xs, h => by
    rw [WShape.hasItems, Bool.and_eq_true] at h
    obtain ⟨ns, e⟩ := items_int h.2
    have h1 := h.1
    cases x <;> first | (rename_i n; exact ⟨n :: ns, by rw [e]; rfl⟩) | (simp [WShape.has, WShape.arms] at h1; done)
theorem law_args {args : List WData} (hpre : Challenge.rw_bp5003_02.row.claim.pre args = true) : ∃ ns : List Int, args = [.list (ns.map WData.int)] ∧ ns.length ≤ 63 := by
  have h := pre_splitW (r := Challenge.rw_bp5003_02.row.toRowW) hpre
  obtain ⟨h1, h2⟩ := h
  have h1' : WShape.hasAll [] args [.list .int] = true := h1
  cases args with
  | nil => simp [WShape.hasAll] at h1'
  | cons x xs =>
    rw [WShape.hasAll] at h1'
    simp only [Bool.and_eq_true] at h1'
    obtain ⟨a, b⟩ := h1'
    cases xs with
    | cons y ys => simp [WShape.hasAll] at b
    | nil =>
      cases x <;> try (simp [WShape.has, WShape.arms] at a; done)
      rename_i xs
      have hi : WShape.hasItems [] xs .int = true := by simpa [WShape.has, WShape.arms] using a
      obtain ⟨ns, rfl⟩ := items_int hi
      refine ⟨ns, rfl, ?_⟩
      have h2' : WTm.holds [] (.and (.not (.lt (.lit (.int 63)) (.len (.arg 0)))) (.lit (.bool true))) { args := [.list (ns.map WData.int)] } = true := h2
      refine Nat.le_of_not_lt fun hlt => ?_
      have hlt' : (63 : Int) < (ns.length : Int) := by omega
      simp [WTm.holds, WTm.value] at h2'
      have hle : less? (WData.int 63) (WData.int (ns.length : Int)) = some (decide ((63 : Int) < (ns.length : Int))) := rfl
      rw [hle, decide_eq_true hlt'] at h2'
      simp at h2'
theorem ints_of {P : Params} {h : Heap} : ∀ {vs : List Value} {ns : List Int}, WellAll P h vs (ns.map WData.int) → IntsAre vs ns
  | _, [], x => by cases x; exact .nil
  | _, n :: ns, x => by
    cases x with
    | cons a b =>
      cases a
      exact .cons _ _ (ints_of b)
theorem law_post (args : List WData) : Challenge.rw_bp5003_02.row.claim.post args (.bool true) args = true := by
  show (WShape.has [] (.bool true) .bool && WTm.holds [] (.eq .res (.lit (.bool true))) { args := args, res := some (.bool true), after := args }) = true
  have e1 : WShape.has [] (.bool true) .bool = true := by simp [WShape.has, WShape.arms]
  rw [e1]
  have e2 : same (WData.bool true) (WData.bool true) = true := by first | rfl | simp [same]
  simp [WTm.holds, WTm.value, e2]
theorem law_end {w : World} {s : Shared} {mg : Str → Option Value} {fa : Addr} {args : List WData} {vals : List Value} {cl : Str → Option Addr} {mean : ExcName → Option Value} (X : (K0t w.params).In s.heap) (hn : s.heap.Ns mainGlobals mg) (hmg : mg (Str.ofString "law") = some (.ref fa)) (hg : s.gens = #[])
    (hpre : Challenge.rw_bp5003_02.row.claim.pre args = true) (hwl : WellAll w.params s.heap vals args) :
    wpAny (model Challenge.rw_bp5003_02.row.prog w) callerA (call (.ref fa) vals) (fun v s' => GoodWG Challenge.rw_bp5003_02.row.claim cl mean args s (.ok (.ret v)) s') (fun e s' => GoodWG Challenge.rw_bp5003_02.row.claim cl mean args s (.error e) s') s := by
  obtain ⟨ns, rfl, hz⟩ := law_args hpre
  have Xk : (K0 w.params).In s.heap := fun a o h => X a o (by unfold K0t; rw [List.lookup_append, h]; rfl)
  have hfa : fa = 632 := by
    have := ns_some_of (n := Str.ofString "law") (v := .ref 632) Xk hn (by kernel_rfl)
    rw [hmg] at this
    cases this
    rfl
  subst hfa
  cases hwl with
  | cons a b =>
    cases b
    cases a with
    | @list sl vs xs hsl hws =>
      have hI := ints_of hws
      have htab : ∀ P ∈ tabL, s.heap.get? P = some (tabObj #[]) := fun P hP => by
        have : P = 51 ∨ P = 85 ∨ P = 357 := by simpa [tabL] using hP
        rcases this with rfl | rfl | rfl <;> exact X _ _ (by kernel_rfl)
      have hoff : ∀ P ∈ tabL, (K0 w.params).lookup P = none := fun P hP => by
        have : P = 51 ∨ P = 85 ∨ P = 357 := by simpa [tabL] using hP
        rcases this with rfl | rfl | rfl <;> kernel_rfl
      have hsl' : s.heap.get? sl = some (lstObj vs 0) := hsl
      let G : Km := fun a => ((K0 w.params).lookup a).or (if a = sl then some (lstObj vs 0) else none)
      have W : Wd w G s := by
        refine ⟨fun b o e => ?_, fun a o h => ?_, fun P hP => ⟨#[], htab P hP, ?_⟩, fun P hP => ?_, ?_⟩
        · cases h : (K0 w.params).lookup b with
          | some o' =>
            have e : ((K0 w.params).lookup b).or (if b = sl then some (lstObj vs 0) else none) = some o := e
            rw [h] at e
            cases e
            exact Xk _ _ h
          | none =>
            have e : ((K0 w.params).lookup b).or (if b = sl then some (lstObj vs 0) else none) = some o := e
            rw [h] at e
            by_cases q : b = sl
            · subst q
              have e : (if b = b then some (lstObj vs 0) else none) = some o := e
              rw [if_pos rfl] at e
              cases e
              exact hsl'
            · have e : (if b = sl then some (lstObj vs 0) else none) = some o := e
              rw [if_neg q] at e
              cases e
        · show ((K0 w.params).lookup a).or _ = some o
          rw [h]
          rfl
        · exact trivial
        · show ((K0 w.params).lookup P).or (if P = sl then some (lstObj vs 0) else none) = none
          rw [hoff P hP, if_neg (fun q => by
            have := htab P hP
            rw [q, hsl'] at this
            cases this)]
          rfl
        · exact AllBare.of_eq hg
      have hGs : ListIn G sl vs := by
        refine ⟨0, ?_⟩
        show ((K0 w.params).lookup sl).or (if sl = sl then some (lstObj vs 0) else none) = some (lstObj vs 0)
        cases h : (K0 w.params).lookup sl with
        | some o' =>
          have := Xk _ _ h
          rw [hsl'] at this
          cases this
          rfl
        | none => rw [if_pos rfl]; rfl
      have hcode : ∀ P ∈ tabL, isCodeTable s.heap P := fun P hP => by
        have : P = 51 ∨ P = 85 ∨ P = 357 := by simpa [tabL] using hP
        have key : ∀ c, codeTabOk (K0 w.params) c P = true → c ≠ P → isCodeTable s.heap P := fun c h1 h2 => (codeTab_of Xk h1 (htab P hP) trivial h2).2.isCodeTable
        rcases this with rfl | rfl | rfl
        · exact key 53 (by kernel_rfl) (by decide)
        · exact key 89 (by kernel_rfl) (by decide)
        · exact key 361 (by kernel_rfl) (by decide)
      refine wpAny_call (law_walk W ?_ hGs hI hz fun s' G' W' P' => ?_)
      · exact ⟨rfl, by decide, by decide, ⟨_, rfl⟩⟩
      · refine ⟨.inl ⟨.bool true, .bool true, [], rfl, fun cls => rfl, .bool true, law_post _, fun _ => ⟨List.Pairwise.nil, fun a ha => (nomatch ha)⟩⟩, ⟨fun b o e => ?_, fun b o e => ?_⟩, P'.ex.os, W'.bare⟩
        · by_cases hb : b ∈ tabL
          · have e0 := htab b hb
            rw [e] at e0
            cases e0
            obtain ⟨more, hm⟩ := P'.ex.grow b hb #[] e
            exact .inr (.inl ⟨hcode b hb, rfl, #[], more, rfl, hm⟩)
          · exact .inl (P'.ex.keep b o e hb (fun h => nomatch h))
        · by_cases hb : b ∈ tabL
          · have e0 := htab b hb
            rw [e] at e0
            cases e0
            obtain ⟨more, hm⟩ := P'.ex.grow b hb #[] e
            exact ⟨_, hm⟩
          · exact ⟨o, P'.ex.keep b o e hb (fun h => nomatch h)⟩
end Mine
open PySem PySem.W PyProof.Rows
set_option Elab.async false
set_option maxRecDepth 100000 in
set_option maxHeartbeats 8000000 in
theorem PySem.Challenge.cw_bp5003_02_holds : PySem.Challenge.rw_bp5003_02.Holds := by
  w_on
  o_law
  o_head (kHook Mine.K0t Mine.K0tas Mine.K0t_as)
  (case hw => w_witness2)
  w_strict (
    intro w s₀ s₁ mg mb G Y fa o pm cd doc dV kV ho hd hcd hD hmg hg args vals as hpre hlay hrd hwl hlo
    exact Mine.law_end (kIn_of Y) G.T.g hmg hg hpre hwl)
