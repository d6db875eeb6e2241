import PyProof.Rows.All
import Wide.All
import OpenK.AllK
import Wide.FinOn
import PySem.Challenge.RW_in0007_01

section
open PySem PySem.W PyProof.Rows
set_option Elab.async false
set_option maxRecDepth 100000
set_option maxHeartbeats 8000000
namespace Mine
def nth : List Stmt → Nat → Stmt
  | x :: _, 0 => x
  | _ :: r, n + 1 => nth r n
  | [], _ => .Pass ⟨0, 0, 0, 0⟩
def clsBody : Stmt → List Stmt
  | .ClassDef _ _ _ b _ _ _ _ _ _ _ => b
  | _ => []
def dArgs : Stmt → Arguments
  | .FunctionDef _ a _ _ _ _ _ _ _ _ => a
  | _ => ⟨[], [], none, [], [], none, []⟩
def dBody : Stmt → List Stmt
  | .FunctionDef _ _ b _ _ _ _ _ _ _ => b
  | _ => []
def dScope : Stmt → Scope
  | .FunctionDef _ _ _ _ _ _ s _ _ _ => s
  | _ => default
def docOf : List Stmt → Str
  | .Expr (.Constant (.str x) _ _) _ :: _ => x
  | _ => Str.empty
noncomputable def dTop (i : Nat) : Stmt := nth Challenge.pw_in0007_01.main.body i
noncomputable def dIn (i j : Nat) : Stmt := nth (clsBody (dTop i)) j
@[reducible] noncomputable def en (P : Params) (x : Str) (t : Tok) (v : Value) : DictEntry := ⟨PyData.keyHash P x, .str x t, v⟩
noncomputable def fn (d : Stmt) (name qual : Str) (cl : List (Str × Addr)) (dV kV doc pm : Value) (an : Option Addr) (cdv ct : Value) : FuncData :=
  { name, qualname := qual, params := dArgs d, body := .stmts (dBody d), scope := dScope d, globals := mainGlobals, closure := cl, defaults := dV, kwdefaults := kV, doc, pyModule := pm, annotations := an, code := cdv, closureTuple := ct, builtins := builtinsNs }
noncomputable def ob46 : Obj := (by
  refine (fun (k : Obj) (_ : (⟨.type "function", none, .func (fn (dTop 3) (Str.ofString "add_callers") (Str.ofString "add_callers") [] .none .none (.str (docOf (dBody (dTop 3))) 298) (.str (Str.ofString "cpy313.pstats") 286) none (.ref 45) .none), [].toArray⟩ : Obj) = k) => k) ?k ?h
  case h => dsimp only [fn, en, dTop, dIn, nth, clsBody, dArgs, dBody, dScope, docOf, Challenge.pw_in0007_01]; exact rfl)
noncomputable def ob53 : Obj := (by
  refine (fun (k : Obj) (_ : (⟨.type "function", none, .func (fn (dTop 4) (Str.ofString "count_calls") (Str.ofString "count_calls") [] .none .none (.str (docOf (dBody (dTop 4))) 308) (.str (Str.ofString "cpy313.pstats") 286) none (.ref 52) .none), [].toArray⟩ : Obj) = k) => k) ?k ?h
  case h => dsimp only [fn, en, dTop, dIn, nth, clsBody, dArgs, dBody, dScope, docOf, Challenge.pw_in0007_01]; exact rfl)
noncomputable def ob75 : Obj := (by
  refine (fun (k : Obj) (_ : (⟨.type "function", none, .func (fn (dIn 6 1) (Str.ofString "__get__") (Str.ofString "_tuplegetter.__get__") [] (.ref 68) .none .none (.str (Str.ofString "cpy313.importlib.metadata._collections") 310) none (.ref 74) .none), [].toArray⟩ : Obj) = k) => k) ?k ?h
  case h => dsimp only [fn, en, dTop, dIn, nth, clsBody, dArgs, dBody, dScope, docOf, Challenge.pw_in0007_01]; exact rfl)
noncomputable def ob112 : Obj := (by
  refine (fun (k : Obj) (_ : (⟨.type "function", none, .func (fn (dIn 7 1) (Str.ofString "__missing__") (Str.ofString "FreezableDefaultDict.__missing__") [((Str.ofString "__class__"), 100)] .none .none .none (.str (Str.ofString "cpy313.importlib.metadata._collections") 310) none (.ref 111) (.ref 105)), [].toArray⟩ : Obj) = k) => k) ?k ?h
  case h => dsimp only [fn, en, dTop, dIn, nth, clsBody, dArgs, dBody, dScope, docOf, Challenge.pw_in0007_01]; exact rfl)
noncomputable def ob119 : Obj := (by
  refine (fun (k : Obj) (_ : (⟨.type "function", none, .func (fn (dIn 7 2) (Str.ofString "freeze") (Str.ofString "FreezableDefaultDict.freeze") [] .none .none .none (.str (Str.ofString "cpy313.importlib.metadata._collections") 310) none (.ref 118) .none), [].toArray⟩ : Obj) = k) => k) ?k ?h
  case h => dsimp only [fn, en, dTop, dIn, nth, clsBody, dArgs, dBody, dScope, docOf, Challenge.pw_in0007_01]; exact rfl)
noncomputable def ob121 (P : Params) : Obj := (by
  refine (fun (k : Obj) (_ : (let P := P; ((⟨.type "dict", none, .dict [en P (Str.ofString "__module__") 376 (.str (Str.ofString "cpy313.importlib.metadata._collections") 310), en P (Str.ofString "__firstlineno__") 380 (.int 45 379), en P (Str.ofString "__doc__") 382 (.str (docOf (clsBody (dTop 7))) 381), en P (Str.ofString "__missing__") 392 (.ref 112), en P (Str.ofString "freeze") 400 (.ref 119), en P (Str.ofString "__static_attributes__") 402 (.ref 120), en P (Str.ofString "__dict__") 405 (.ref 123), en P (Str.ofString "__weakref__") 407 (.ref 124)].toArray 4, [].toArray⟩ : Obj))) = k) => k) ?k ?h
  case h => dsimp only [fn, en, dTop, dIn, nth, clsBody, dArgs, dBody, dScope, docOf, Challenge.pw_in0007_01]; exact rfl)
noncomputable def ob144 : Obj := (by
  refine (fun (k : Obj) (_ : (⟨.type "function", none, .func (fn (dIn 8 4) (Str.ofString "__new__") (Str.ofString "Pair.__new__") [] .none .none (.str (docOf (dBody (dIn 8 4))) 440) (.str (Str.ofString "cpy313.importlib.metadata._collections") 310) none (.ref 143) .none), [].toArray⟩ : Obj) = k) => k) ?k ?h
  case h => dsimp only [fn, en, dTop, dIn, nth, clsBody, dArgs, dBody, dScope, docOf, Challenge.pw_in0007_01]; exact rfl)
noncomputable def ob193 (P : Params) : Obj := (by
  refine (fun (k : Obj) (_ : (let P := P; ((⟨.type "dict", none, .dict [en P (Str.ofString "__module__") 419 (.str (Str.ofString "cpy313.importlib.metadata._collections") 310), en P (Str.ofString "__firstlineno__") 423 (.int 65 422), en P (Str.ofString "__doc__") 425 (.str (docOf (clsBody (dTop 8))) 424), en P (Str.ofString "__slots__") 427 (.ref 135), en P (Str.ofString "_fields") 430 (.ref 136), en P (Str.ofString "_field_defaults") 431 (.ref 137), en P (Str.ofString "__new__") 441 (.ref 195), en P (Str.ofString "_make") 463 (.ref 153), en P (Str.ofString "_replace") 474 (.ref 162), en P (Str.ofString "__replace__") 475 (.ref 162), en P (Str.ofString "__repr__") 483 (.ref 169), en P (Str.ofString "_asdict") 490 (.ref 176), en P (Str.ofString "__getnewargs__") 498 (.ref 183), en P (Str.ofString "__match_args__") 501 (.ref 184), en P (Str.ofString "name") 511 (.ref 186), en P (Str.ofString "value") 521 (.ref 189), en P (Str.ofString "__static_attributes__") 522 (.ref 191)].toArray 2, [].toArray⟩ : Obj))) = k) => k) ?k ?h
  case h => dsimp only [fn, en, dTop, dIn, nth, clsBody, dArgs, dBody, dScope, docOf, Challenge.pw_in0007_01]; exact rfl)
noncomputable def ob211 : Obj := (by
  refine (fun (k : Obj) (_ : (⟨.type "function", none, .func (fn (dIn 9 0) (Str.ofString "parse") (Str.ofString "Pair.parse") [] .none .none .none (.str (Str.ofString "cpy313.importlib.metadata._collections") 310) (some 214) (.ref 210) .none), [].toArray⟩ : Obj) = k) => k) ?k ?h
  case h => dsimp only [fn, en, dTop, dIn, nth, clsBody, dArgs, dBody, dScope, docOf, Challenge.pw_in0007_01]; exact rfl)
noncomputable def ob227 : Obj := (by
  refine (fun (k : Obj) (_ : (⟨.type "function", none, .func (fn (dTop 11) (Str.ofString "_law_nobody") (Str.ofString "_law_nobody") [] .none .none .none (.str (Str.ofString "law_in0007_01") 565) none (.ref 226) .none), [].toArray⟩ : Obj) = k) => k) ?k ?h
  case h => dsimp only [fn, en, dTop, dIn, nth, clsBody, dArgs, dBody, dScope, docOf, Challenge.pw_in0007_01]; exact rfl)
noncomputable def ob234 : Obj := (by
  refine (fun (k : Obj) (_ : (⟨.type "function", none, .func (fn (dTop 12) (Str.ofString "_law_book") (Str.ofString "_law_book") [] .none .none .none (.str (Str.ofString "law_in0007_01") 565) none (.ref 233) .none), [].toArray⟩ : Obj) = k) => k) ?k ?h
  case h => dsimp only [fn, en, dTop, dIn, nth, clsBody, dArgs, dBody, dScope, docOf, Challenge.pw_in0007_01]; exact rfl)
noncomputable def ob239 : Obj := (by
  refine (fun (k : Obj) (_ : (⟨.type "function", none, .func (fn (dTop 13) (Str.ofString "_law_climbed") (Str.ofString "_law_climbed") [] .none .none .none (.str (Str.ofString "law_in0007_01") 565) none (.ref 238) .none), [].toArray⟩ : Obj) = k) => k) ?k ?h
  case h => dsimp only [fn, en, dTop, dIn, nth, clsBody, dArgs, dBody, dScope, docOf, Challenge.pw_in0007_01]; exact rfl)
noncomputable def ob246 : Obj := (by
  refine (fun (k : Obj) (_ : (⟨.type "function", none, .func (fn (dTop 14) (Str.ofString "_law_sums") (Str.ofString "_law_sums") [] .none .none .none (.str (Str.ofString "law_in0007_01") 565) none (.ref 245) .none), [].toArray⟩ : Obj) = k) => k) ?k ?h
  case h => dsimp only [fn, en, dTop, dIn, nth, clsBody, dArgs, dBody, dScope, docOf, Challenge.pw_in0007_01]; exact rfl)
noncomputable def ob251 : Obj := (by
  refine (fun (k : Obj) (_ : (⟨.type "function", none, .func (fn (dTop 15) (Str.ofString "law") (Str.ofString "law") [] .none .none .none (.str (Str.ofString "law_in0007_01") 565) none (.ref 250) .none), [].toArray⟩ : Obj) = k) => k) ?k ?h
  case h => dsimp only [fn, en, dTop, dIn, nth, clsBody, dArgs, dBody, dScope, docOf, Challenge.pw_in0007_01]; exact rfl)
noncomputable def KF : Params → Frag := fun P =>
  (nat_lit 0, ⟨.type "dict", none, .dict [en P (Str.ofString "__name__") 1 (.str (Str.ofString "builtins") 160), en P (Str.ofString "__doc__") 2 (.builtin "builtins.__doc__:str#opaque"), en P (Str.ofString "__package__") 3 (.builtin "builtins.__package__:str#opaque"), en P (Str.ofString "__loader__") 4 (.builtin "builtins.__loader__:shared#opaque"), en P (Str.ofString "__spec__") 5 (.builtin "builtins.__spec__#opaque"), en P (Str.ofString "__build_class__") 6 (.builtin "__build_class__"), en P (Str.ofString "__import__") 7 (.builtin "__import__"), en P (Str.ofString "abs") 8 (.builtin "abs"), en P (Str.ofString "all") 9 (.builtin "all"), en P (Str.ofString "any") 10 (.builtin "any"), en P (Str.ofString "ascii") 11 (.builtin "ascii"), en P (Str.ofString "bin") 12 (.builtin "bin"), en P (Str.ofString "breakpoint") 13 (.builtin "breakpoint"), en P (Str.ofString "callable") 14 (.builtin "callable"), en P (Str.ofString "chr") 15 (.builtin "chr"), en P (Str.ofString "compile") 16 (.builtin "compile"), en P (Str.ofString "delattr") 17 (.builtin "delattr"), en P (Str.ofString "dir") 18 (.builtin "dir"), en P (Str.ofString "divmod") 19 (.builtin "divmod"), en P (Str.ofString "eval") 20 (.builtin "eval"), en P (Str.ofString "exec") 21 (.builtin "exec"), en P (Str.ofString "format") 22 (.builtin "format"), en P (Str.ofString "getattr") 23 (.builtin "getattr"), en P (Str.ofString "globals") 24 (.builtin "globals"), en P (Str.ofString "hasattr") 25 (.builtin "hasattr"), en P (Str.ofString "hash") 26 (.builtin "hash"), en P (Str.ofString "hex") 27 (.builtin "hex"), en P (Str.ofString "id") 28 (.builtin "id"), en P (Str.ofString "input") 29 (.builtin "input"), en P (Str.ofString "isinstance") 30 (.builtin "isinstance"), en P (Str.ofString "issubclass") 31 (.builtin "issubclass"), en P (Str.ofString "iter") 32 (.builtin "iter"), en P (Str.ofString "aiter") 33 (.builtin "aiter"), en P (Str.ofString "len") 34 (.builtin "len"), en P (Str.ofString "locals") 35 (.builtin "locals"), en P (Str.ofString "max") 36 (.builtin "max"), en P (Str.ofString "min") 37 (.builtin "min"), en P (Str.ofString "next") 38 (.builtin "next"), en P (Str.ofString "anext") 39 (.builtin "anext"), en P (Str.ofString "oct") 40 (.builtin "oct"), en P (Str.ofString "ord") 41 (.builtin "ord"), en P (Str.ofString "pow") 42 (.builtin "pow"), en P (Str.ofString "print") 43 (.builtin "print"), en P (Str.ofString "repr") 44 (.builtin "repr"), en P (Str.ofString "round") 45 (.builtin "round"), en P (Str.ofString "setattr") 46 (.builtin "setattr"), en P (Str.ofString "sorted") 47 (.builtin "sorted"), en P (Str.ofString "sum") 48 (.builtin "sum"), en P (Str.ofString "vars") 49 (.builtin "vars"), en P (Str.ofString "None") 50 .none, en P (Str.ofString "Ellipsis") 51 (.ellipsis), en P (Str.ofString "NotImplemented") 52 (.notImplemented), en P (Str.ofString "False") 53 (.bool false), en P (Str.ofString "True") 54 (.bool true), en P (Str.ofString "bool") 55 (.type "bool"), en P (Str.ofString "memoryview") 56 (.type "memoryview"), en P (Str.ofString "bytearray") 57 (.type "bytearray"), en P (Str.ofString "bytes") 58 (.type "bytes"), en P (Str.ofString "classmethod") 59 (.type "classmethod"), en P (Str.ofString "complex") 60 (.type "complex"), en P (Str.ofString "dict") 61 (.type "dict"), en P (Str.ofString "enumerate") 62 (.type "enumerate"), en P (Str.ofString "filter") 63 (.type "filter"), en P (Str.ofString "float") 64 (.type "float"), en P (Str.ofString "frozenset") 65 (.type "frozenset"), en P (Str.ofString "property") 66 (.type "property"), en P (Str.ofString "int") 67 (.type "int"), en P (Str.ofString "list") 68 (.type "list"), en P (Str.ofString "map") 69 (.type "map"), en P (Str.ofString "object") 70 (.type "object"), en P (Str.ofString "range") 71 (.type "range"), en P (Str.ofString "reversed") 72 (.type "reversed"), en P (Str.ofString "set") 73 (.type "set"), en P (Str.ofString "slice") 74 (.type "slice"), en P (Str.ofString "staticmethod") 75 (.type "staticmethod"), en P (Str.ofString "str") 76 (.type "str"), en P (Str.ofString "super") 77 (.type "super"), en P (Str.ofString "tuple") 78 (.type "tuple"), en P (Str.ofString "type") 79 (.type "type"), en P (Str.ofString "zip") 80 (.type "zip"), en P (Str.ofString "__debug__") 81 (.bool true), en P (Str.ofString "BaseException") 82 (.type "BaseException"), en P (Str.ofString "BaseExceptionGroup") 83 (.type "BaseExceptionGroup"), en P (Str.ofString "Exception") 84 (.type "Exception"), en P (Str.ofString "GeneratorExit") 85 (.type "GeneratorExit"), en P (Str.ofString "KeyboardInterrupt") 86 (.type "KeyboardInterrupt"), en P (Str.ofString "SystemExit") 87 (.type "SystemExit"), en P (Str.ofString "ArithmeticError") 88 (.type "ArithmeticError"), en P (Str.ofString "AssertionError") 89 (.type "AssertionError"), en P (Str.ofString "AttributeError") 90 (.type "AttributeError"), en P (Str.ofString "BufferError") 91 (.type "BufferError"), en P (Str.ofString "EOFError") 92 (.type "EOFError"), en P (Str.ofString "ImportError") 93 (.type "ImportError"), en P (Str.ofString "LookupError") 94 (.type "LookupError"), en P (Str.ofString "MemoryError") 95 (.type "MemoryError"), en P (Str.ofString "NameError") 96 (.type "NameError"), en P (Str.ofString "OSError") 97 (.type "OSError"), en P (Str.ofString "ReferenceError") 98 (.type "ReferenceError"), en P (Str.ofString "RuntimeError") 99 (.type "RuntimeError"), en P (Str.ofString "StopAsyncIteration") 100 (.type "StopAsyncIteration"), en P (Str.ofString "StopIteration") 101 (.type "StopIteration"), en P (Str.ofString "SyntaxError") 102 (.type "SyntaxError"), en P (Str.ofString "SystemError") 103 (.type "SystemError"), en P (Str.ofString "TypeError") 104 (.type "TypeError"), en P (Str.ofString "ValueError") 105 (.type "ValueError"), en P (Str.ofString "Warning") 106 (.type "Warning"), en P (Str.ofString "FloatingPointError") 107 (.type "FloatingPointError"), en P (Str.ofString "OverflowError") 108 (.type "OverflowError"), en P (Str.ofString "ZeroDivisionError") 109 (.type "ZeroDivisionError"), en P (Str.ofString "BytesWarning") 110 (.type "BytesWarning"), en P (Str.ofString "DeprecationWarning") 111 (.type "DeprecationWarning"), en P (Str.ofString "EncodingWarning") 112 (.type "EncodingWarning"), en P (Str.ofString "FutureWarning") 113 (.type "FutureWarning"), en P (Str.ofString "ImportWarning") 114 (.type "ImportWarning"), en P (Str.ofString "PendingDeprecationWarning") 115 (.type "PendingDeprecationWarning"), en P (Str.ofString "ResourceWarning") 116 (.type "ResourceWarning"), en P (Str.ofString "RuntimeWarning") 117 (.type "RuntimeWarning"), en P (Str.ofString "SyntaxWarning") 118 (.type "SyntaxWarning"), en P (Str.ofString "UnicodeWarning") 119 (.type "UnicodeWarning"), en P (Str.ofString "UserWarning") 120 (.type "UserWarning"), en P (Str.ofString "BlockingIOError") 121 (.type "BlockingIOError"), en P (Str.ofString "ChildProcessError") 122 (.type "ChildProcessError"), en P (Str.ofString "ConnectionError") 123 (.type "ConnectionError"), en P (Str.ofString "FileExistsError") 124 (.type "FileExistsError"), en P (Str.ofString "FileNotFoundError") 125 (.type "FileNotFoundError"), en P (Str.ofString "InterruptedError") 126 (.type "InterruptedError"), en P (Str.ofString "IsADirectoryError") 127 (.type "IsADirectoryError"), en P (Str.ofString "NotADirectoryError") 128 (.type "NotADirectoryError"), en P (Str.ofString "PermissionError") 129 (.type "PermissionError"), en P (Str.ofString "ProcessLookupError") 130 (.type "ProcessLookupError"), en P (Str.ofString "TimeoutError") 131 (.type "TimeoutError"), en P (Str.ofString "IndentationError") 132 (.type "IndentationError"), en P (Str.ofString "_IncompleteInputError") 133 (.type "_IncompleteInputError"), en P (Str.ofString "IndexError") 134 (.type "IndexError"), en P (Str.ofString "KeyError") 135 (.type "KeyError"), en P (Str.ofString "ModuleNotFoundError") 136 (.type "ModuleNotFoundError"), en P (Str.ofString "NotImplementedError") 137 (.type "NotImplementedError"), en P (Str.ofString "PythonFinalizationError") 138 (.type "PythonFinalizationError"), en P (Str.ofString "RecursionError") 139 (.type "RecursionError"), en P (Str.ofString "UnboundLocalError") 140 (.type "UnboundLocalError"), en P (Str.ofString "UnicodeError") 141 (.type "UnicodeError"), en P (Str.ofString "BrokenPipeError") 142 (.type "BrokenPipeError"), en P (Str.ofString "ConnectionAbortedError") 143 (.type "ConnectionAbortedError"), en P (Str.ofString "ConnectionRefusedError") 144 (.type "ConnectionRefusedError"), en P (Str.ofString "ConnectionResetError") 145 (.type "ConnectionResetError"), en P (Str.ofString "TabError") 146 (.type "TabError"), en P (Str.ofString "UnicodeDecodeError") 147 (.type "UnicodeDecodeError"), en P (Str.ofString "UnicodeEncodeError") 148 (.type "UnicodeEncodeError"), en P (Str.ofString "UnicodeTranslateError") 149 (.type "UnicodeTranslateError"), en P (Str.ofString "ExceptionGroup") 150 (.type "ExceptionGroup"), en P (Str.ofString "EnvironmentError") 151 (.type "OSError"), en P (Str.ofString "IOError") 152 (.type "OSError"), en P (Str.ofString "open") 153 (.builtin "open"), en P (Str.ofString "quit") 154 (.builtin "builtins.quit#opaque"), en P (Str.ofString "exit") 155 (.builtin "builtins.exit#opaque"), en P (Str.ofString "copyright") 156 (.builtin "builtins.copyright#opaque"), en P (Str.ofString "credits") 157 (.builtin "builtins.credits#opaque"), en P (Str.ofString "license") 158 (.builtin "builtins.license#opaque"), en P (Str.ofString "help") 159 (.builtin "builtins.help#opaque")].toArray 159, [].toArray⟩) ::
  (nat_lit 1, ⟨.type "dict", none, .dict [en P (Str.ofString "builtins") 162 (.ref 4), en P (Str.ofString "__main__") 163 (.ref 5), en P (Str.ofString "_collections") 246 (.ref 13)].toArray 3, [].toArray⟩) ::
  (nat_lit 2, ⟨.none, none, .dict [en P (Str.ofString "\x69mport.loaded._collections") 185 (.bool true), en P (Str.ofString "class._frozen_importlib.BuiltinImporter") 187 (.ref 15), en P (Str.ofString "watched.\x69mport") 208 (.ref 19), en P (Str.ofString "class._frozen_importlib.ModuleSpec") 218 (.ref 23), en P (Str.ofString "sys.modules.booked-epoch") 247 (.int 3 0), en P (Str.ofString "sys.modules.landed._collections") 248 (.bool true), en P (Str.ofString "\x69mport.later-laid._collections") 263 (.bool true), en P (Str.ofString "watched.library") 265 (.ref 28), en P (Str.ofString "watched.library-objects") 0 (.str (Str.ofString "\r") 0), en P (Str.ofString "watched.library-deep._collections") 266 (.str (Str.ofString "\u0004\u0000\u0000\u000c\u0004\u0000\u0000\u000c\u0004\u0000\u0000\u0003\u0004\u0000\u0000\u000c\u0008\u0004dict\u0002") 0), en P (Str.ofString "type.__subclasses__.collections.defaultdict.0") 408 (.int 122 0), en P (Str.ofString "type.__subclasses__.collections.defaultdict.n") 409 (.int 1 0)].toArray 12, [].toArray⟩) ::
  (nat_lit 3, ⟨.type "dict", none, .dict [en P (Str.ofString "__name__") 165 (.str (Str.ofString "law_in0007_01") 565), en P (Str.ofString "__doc__") 166 .none, en P (Str.ofString "__package__") 167 .none, en P (Str.ofString "__loader__") 168 (.builtin "__main__.__loader__#opaque"), en P (Str.ofString "__spec__") 169 .none, en P (Str.ofString "__annotations__") 170 (.ref 6), en P (Str.ofString "__builtins__") 171 (.ref 4), en P (Str.ofString "__file__") 173 (.str (Str.ofString "/claim/cut.py") 172), en P (Str.ofString "__cached__") 174 .none, en P (Str.ofString "defaultdict") 272 (.type "collections.defaultdict"), en P (Str.ofString "_wall") 285 (.ref 39), en P (Str.ofString "add_callers") 299 (.ref 46), en P (Str.ofString "count_calls") 309 (.ref 53), en P (Str.ofString "_tuplegetter") 368 (.ref 92), en P (Str.ofString "FreezableDefaultDict") 411 (.ref 122), en P (Str.ofString "Pair") 526 (.ref 217), en P (Str.ofString "_law_nobody") 572 (.ref 227), en P (Str.ofString "_law_book") 584 (.ref 234), en P (Str.ofString "_law_climbed") 590 (.ref 239), en P (Str.ofString "_law_sums") 601 (.ref 246), en P (Str.ofString "law") 607 (.ref 251)].toArray 21, [].toArray⟩) ::
  (nat_lit 45, ⟨.type "code", none, .fields [.str (Str.ofString "add_callers") 288, .str (Str.ofString "add_callers") 289, .str (Str.ofString "/claim/cut.py") 290, .int 6 0, .int 2 0, .int 0 0, .int 0 0, .int 3 0, .ref 40, .bool true, .int 273 0, .ref 41, .none, .ref 42, .ref 43, .ref 44, .int 296 0, .int 6 0, .str (Str.ofString "/claim/cut.py") 297].toArray, [].toArray⟩) ::
  (nat_lit 46, ob46) ::
  (nat_lit 52, ⟨.type "code", none, .fields [.str (Str.ofString "count_calls") 300, .str (Str.ofString "count_calls") 301, .str (Str.ofString "/claim/cut.py") 302, .int 20 0, .int 1 0, .int 0 0, .int 0 0, .int 3 0, .ref 47, .bool true, .int 273 0, .ref 48, .none, .ref 49, .ref 50, .ref 51, .int 306 0, .int 20 0, .str (Str.ofString "/claim/cut.py") 307].toArray, [].toArray⟩) ::
  (nat_lit 53, ob53) ::
  (nat_lit 68, ⟨.type "tuple", none, .seq [.none].toArray 0, [].toArray⟩) ::
  (nat_lit 74, ⟨.type "code", none, .fields [.str (Str.ofString "__get__") 333, .str (Str.ofString "_tuplegetter.__get__") 334, .str (Str.ofString "/claim/cut.py") 335, .int 33 0, .int 3 0, .int 0 0, .int 0 0, .int 3 0, .ref 69, .bool true, .int 273 0, .ref 70, .none, .ref 71, .ref 72, .ref 73, .int 339 0, .int 33 0, .str (Str.ofString "/claim/cut.py") 340].toArray, [].toArray⟩) ::
  (nat_lit 75, ob75) ::
  (nat_lit 91, ⟨.type "dict", none, .dict [en P (Str.ofString "__module__") 319 (.str (Str.ofString "cpy313.importlib.metadata._collections") 310), en P (Str.ofString "__firstlineno__") 323 (.int 27 322), en P (Str.ofString "__init__") 332 (.ref 67), en P (Str.ofString "__get__") 341 (.ref 75), en P (Str.ofString "__set__") 350 (.ref 82), en P (Str.ofString "__delete__") 358 (.ref 89), en P (Str.ofString "__static_attributes__") 361 (.ref 90), en P (Str.ofString "__dict__") 363 (.ref 93), en P (Str.ofString "__weakref__") 365 (.ref 94), en P (Str.ofString "__doc__") 366 .none].toArray 4, [].toArray⟩) ::
  (nat_lit 92, ⟨.type "type", none, .cls { name := (Str.ofString "_tuplegetter"), bases := [.type "object"], mro := [.ref 92, .type "object"], ns := 91, qualname := (Str.ofString "_tuplegetter"), hasDict := true, slotNames := [], subclasses := [], abstract := false, collection := none, hasDel := false }, [none, none, some (.str (Str.ofString "_tuplegetter") 312), some (.str (Str.ofString "_tuplegetter") 320), some (.builtin "object.__new__"), some (.bool true)].toArray⟩) ::
  (nat_lit 100, ⟨.type "cell", none, .cell (some (.ref 122)), [].toArray⟩) ::
  (nat_lit 111, ⟨.type "code", none, .fields [.str (Str.ofString "__missing__") 384, .str (Str.ofString "FreezableDefaultDict.__missing__") 385, .str (Str.ofString "/claim/cut.py") 386, .int 60 0, .int 2 0, .int 0 0, .int 0 0, .int 3 0, .ref 106, .bool true, .int 273 0, .ref 107, .none, .ref 108, .ref 109, .ref 110, .int 390 0, .int 60 0, .str (Str.ofString "/claim/cut.py") 391].toArray, [].toArray⟩) ::
  (nat_lit 112, ob112) ::
  (nat_lit 118, ⟨.type "code", none, .fields [.str (Str.ofString "freeze") 393, .str (Str.ofString "FreezableDefaultDict.freeze") 394, .str (Str.ofString "/claim/cut.py") 395, .int 63 0, .int 1 0, .int 0 0, .int 0 0, .int 3 0, .ref 113, .bool true, .int 273 0, .ref 114, .none, .ref 115, .ref 116, .ref 117, .int 398 0, .int 63 0, .str (Str.ofString "/claim/cut.py") 399].toArray, [].toArray⟩) ::
  (nat_lit 119, ob119) ::
  (nat_lit 121, ob121 P) ::
  (nat_lit 122, ⟨.type "type", none, .cls { name := (Str.ofString "FreezableDefaultDict"), bases := [.type "collections.defaultdict"], mro := [.ref 122, .type "collections.defaultdict", .type "dict", .type "object"], ns := 121, qualname := (Str.ofString "FreezableDefaultDict"), hasDict := true, slotNames := [(Str.ofString "")], subclasses := [], abstract := false, collection := none, hasDel := false }, [some (.ref 97), none, some (.str (Str.ofString "FreezableDefaultDict") 369), some (.str (Str.ofString "FreezableDefaultDict") 377), some (.builtin "dict.__new__"), some (.bool true)].toArray⟩) ::
  (nat_lit 143, ⟨.type "code", none, .fields [.str (Str.ofString "__new__") 432, .str (Str.ofString "Pair.__new__") 433, .str (Str.ofString "/claim/cut.py") 434, .int 71 0, .int 3 0, .int 0 0, .int 0 0, .int 3 0, .ref 138, .bool true, .int 273 0, .ref 139, .none, .ref 140, .ref 141, .ref 142, .int 438 0, .int 71 0, .str (Str.ofString "/claim/cut.py") 439].toArray, [].toArray⟩) ::
  (nat_lit 144, ob144) ::
  (nat_lit 185, ⟨.type "dict", none, .dict [en P (Str.ofString "index") 508 (.int 0 502), en P (Str.ofString "__doc__") 510 (.str (Str.ofString "Alias for field number 0") 503)].toArray 2, [].toArray⟩) ::
  (nat_lit 186, ⟨.ref 92, (some 185), .plain, [].toArray⟩) ::
  (nat_lit 188, ⟨.type "dict", none, .dict [en P (Str.ofString "index") 518 (.int 1 512), en P (Str.ofString "__doc__") 520 (.str (Str.ofString "Alias for field number 1") 513)].toArray 2, [].toArray⟩) ::
  (nat_lit 189, ⟨.ref 92, (some 188), .plain, [].toArray⟩) ::
  (nat_lit 193, ob193 P) ::
  (nat_lit 194, ⟨.type "type", none, .cls { name := (Str.ofString "Pair"), bases := [.type "tuple"], mro := [.ref 194, .type "tuple", .type "object"], ns := 193, qualname := (Str.ofString "Pair"), hasDict := false, slotNames := [], subclasses := [.ref 217], abstract := false, collection := none, hasDel := false }, [some (.ref 127), none, some (.str (Str.ofString "Pair") 412), some (.str (Str.ofString "Pair") 420), some (.none), some (.bool false)].toArray⟩) ::
  (nat_lit 195, ⟨.type "staticmethod", none, .fields [.ref 144].toArray, [].toArray⟩) ::
  (nat_lit 210, ⟨.type "code", none, .fields [.str (Str.ofString "parse") 539, .str (Str.ofString "Pair.parse") 540, .str (Str.ofString "/claim/cut.py") 541, .int 109 0, .int 2 0, .int 0 0, .int 0 0, .int 3 0, .ref 205, .bool true, .int 273 0, .ref 206, .none, .ref 207, .ref 208, .ref 209, .int 544 0, .int 109 0, .str (Str.ofString "/claim/cut.py") 545].toArray, [].toArray⟩) ::
  (nat_lit 211, ob211) ::
  (nat_lit 212, ⟨.type "dict", none, .dict [en P (Str.ofString "__module__") 547 (.str (Str.ofString "cpy313.importlib.metadata._collections") 310), en P (Str.ofString "__name__") 550 (.str (Str.ofString "parse") 549), en P (Str.ofString "__qualname__") 553 (.str (Str.ofString "Pair.parse") 552), en P (Str.ofString "__doc__") 555 .none, en P (Str.ofString "__annotations__") 557 (.ref 214)].toArray 5, [].toArray⟩) ::
  (nat_lit 213, ⟨.type "classmethod", (some 212), .fields [.ref 211, .bool false].toArray, [].toArray⟩) ::
  (nat_lit 216, ⟨.type "dict", none, .dict [en P (Str.ofString "__module__") 534 (.str (Str.ofString "cpy313.importlib.metadata._collections") 310), en P (Str.ofString "__firstlineno__") 538 (.int 107 537), en P (Str.ofString "parse") 558 (.ref 213), en P (Str.ofString "__static_attributes__") 559 (.ref 215), en P (Str.ofString "__dict__") 561 (.ref 218), en P (Str.ofString "__doc__") 562 .none].toArray 3, [].toArray⟩) ::
  (nat_lit 217, ⟨.type "type", none, .cls { name := (Str.ofString "Pair"), bases := [.ref 194], mro := [.ref 217, .ref 194, .type "tuple", .type "object"], ns := 216, qualname := (Str.ofString "Pair"), hasDict := true, slotNames := [], subclasses := [], abstract := false, collection := none, hasDel := false }, [some (.ref 198), none, some (.str (Str.ofString "Pair") 527), some (.str (Str.ofString "Pair") 535), some (.none), some (.bool false)].toArray⟩) ::
  (nat_lit 226, ⟨.type "code", none, .fields [.str (Str.ofString "_law_nobody") 567, .str (Str.ofString "_law_nobody") 568, .str (Str.ofString "/claim/cut.py") 569, .int 113 0, .int 0 0, .int 0 0, .int 0 0, .int 3 0, .ref 221, .bool true, .int 273 0, .ref 222, .none, .ref 223, .ref 224, .ref 225, .int 570 0, .int 113 0, .str (Str.ofString "/claim/cut.py") 571].toArray, [].toArray⟩) ::
  (nat_lit 227, ob227) ::
  (nat_lit 233, ⟨.type "code", none, .fields [.str (Str.ofString "_law_book") 573, .str (Str.ofString "_law_book") 574, .str (Str.ofString "/claim/cut.py") 575, .int 115 0, .int 1 0, .int 0 0, .int 0 0, .int 3 0, .ref 228, .bool true, .int 273 0, .ref 229, .none, .ref 230, .ref 231, .ref 232, .int 582 0, .int 115 0, .str (Str.ofString "/claim/cut.py") 583].toArray, [].toArray⟩) ::
  (nat_lit 234, ob234) ::
  (nat_lit 238, ⟨.type "code", none, .fields [.str (Str.ofString "_law_climbed") 585, .str (Str.ofString "_law_climbed") 586, .str (Str.ofString "/claim/cut.py") 587, .int 122 0, .int 2 0, .int 0 0, .int 0 0, .int 3 0, .ref 235, .bool true, .int 273 0, .ref 236, .none, .none, .none, .ref 237, .int 588 0, .int 122 0, .str (Str.ofString "/claim/cut.py") 589].toArray, [].toArray⟩) ::
  (nat_lit 239, ob239) ::
  (nat_lit 245, ⟨.type "code", none, .fields [.str (Str.ofString "_law_sums") 591, .str (Str.ofString "_law_sums") 592, .str (Str.ofString "/claim/cut.py") 593, .int 127 0, .int 1 0, .int 0 0, .int 0 0, .int 3 0, .ref 240, .bool true, .int 273 0, .ref 241, .none, .ref 242, .ref 243, .ref 244, .int 599 0, .int 127 0, .str (Str.ofString "/claim/cut.py") 600].toArray, [].toArray⟩) ::
  (nat_lit 246, ob246) ::
  (nat_lit 250, ⟨.type "code", none, .fields [.str (Str.ofString "law") 602, .str (Str.ofString "law") 603, .str (Str.ofString "/claim/cut.py") 604, .int 137 0, .int 1 0, .int 0 0, .int 0 0, .int 3 0, .ref 247, .bool true, .int 273 0, .ref 248, .none, .none, .none, .ref 249, .int 605 0, .int 137 0, .str (Str.ofString "/claim/cut.py") 606].toArray, [].toArray⟩) ::
  (nat_lit 251, ob251) :: []
noncomputable def view : Program := { Challenge.pw_in0007_01 with main := { Challenge.pw_in0007_01.main with body := Challenge.pw_in0007_01.main.body.take 6 ++ (Challenge.pw_in0007_01.main.body.drop 7).take 1 ++ Challenge.pw_in0007_01.main.body.drop 10 } }
def addrs : List Addr := [0, 1, 2, 3, 45, 46, 52, 53, 68, 74, 75, 91, 92, 100, 111, 112, 118, 119, 121, 122, 143, 144, 185, 186, 188, 189, 193, 194, 195, 210, 211, 212, 213, 216, 217, 226, 227, 233, 234, 238, 239, 245, 246, 250, 251]
end Mine
end
section
open PySem PySem.W PyProof.Rows
set_option Elab.async false
set_option maxRecDepth 100000
set_option maxHeartbeats 4000000
namespace Mine
abbrev pw := Challenge.pw_in0007_01
abbrev sk (w : World) := PySem.strKind pw w
theorem warm : (fun (_ : Params → Frag) (_ : OpenLaw) => True) KF Challenge.rw_in0007_01 := by
  k_fill
  trivial
section
variable {prog : Program} {w : World} {A : Around} {E : Value → Shared → Prop} {s : Shared} {env : Env} {h₀ : Heap} {target : Expr} {body : List Stmt} {Q : Flow → Shared → Prop}
/-- a loop by an invariant over what is left of it -/
theorem itemsInv {α : Type} {f : α → Itm} {ws : List (Addr × String)} {keep : List (Addr × Obj)} (J : List α → (Str → Option Value) → List (Addr × Obj) → Prop)
    (step : ∀ a r m n, J (a :: r) m n → ∀ v h tk, (f a).Is v h → Fr h₀ env.locals h m → AllObj ws (fun its => News h₀ env.locals h (its ++ n) →
      wpAny (model prog w) A (assign target env v) (fun _ s₂ => wpAny (model prog w) A (execs body env) (UnrPostW h₀ env.locals { s with heap := h, toks := tk } its (fun m' n' => SubL keep n' ∧ J r m' n') Q) E s₂) E { s with heap := h, toks := tk }))
    (done : ∀ m n, J [] m n → ∀ h tk, Fr h₀ env.locals h m → News h₀ env.locals h n → Q .next { s with heap := h, toks := tk }) :
    ∀ (xs : List α) (m : Str → Option Value) (n : List (Addr × Obj)), J xs m n → ItemsRest prog w A E h₀ env target body Q s ws keep (xs.map f) m n
  | [], m, n, j => done m n j
  | a :: r, m, n, j => by
    intro v h tk hv F
    have mono : ∀ (ws : List (Addr × String)) (k k' : List (Addr × Obj) → Prop), (∀ l, k l → k' l) → AllObj ws k → AllObj ws k' := by
      intro ws
      induction ws with
      | nil => exact fun k k' h x => h _ x
      | cons w r ih => exact fun k k' h x o e => ih _ _ (fun l y => h _ y) (x o e)
    refine mono ws _ _ (fun its x N => ?_) (step a r m n j v h tk hv F)
    refine wpAny_mono (x N) (fun _ s₂ y => wpAny_mono y (fun fl s₃ z => ?_) fun _ _ e => e) fun _ _ e => e
    have go : ∀ s₃, UnrEndW h₀ env.locals { s with heap := h, toks := tk } its (fun m' n' => SubL keep n' ∧ J r m' n') s₃ →
        UnrEndW h₀ env.locals { s with heap := h, toks := tk } its (fun m' n' => SubL keep n' ∧ ItemsRest prog w A E h₀ env target body Q s ws keep (r.map f) m' n') s₃ := by
      rintro s₃ ⟨h', tk', m', n', e, F', N', ho, hk, hj⟩
      exact ⟨h', tk', m', n', e, F', N', ho, hk, itemsInv J step done r m' n' hj⟩
    cases fl with
    | ret v => exact z
    | brk => exact z
    | next => exact go _ z
    | cont => exact go _ z
/-- a mark: the walk halts here -/
def Halt (P : Prop) : Prop := P
theorem Halt.at {P : Prop} (h : Halt P) : P := h
theorem Halt.go {P : Prop} (h : P) : Halt P := h
theorem putF {h₀ h : Heap} {L : Addr} {m : Str → Option Value} {x : Str} {v : Value} (F : Fr h₀ L h m) (e : m x = some v) : Fr h₀ L h (fun y => if y = x then some v else m y) := by
  have : (fun y => if y = x then some v else m y) = m := by
    funext y
    by_cases hy : y = x
    · simp [hy, e]
    · simp [hy]
  rw [this]; exact F
end
/-- what comes behind a turn, as a letter -/
theorem absG {α : Type} {M : Model} {A : Around} {t : Sem α} {t2 : Sem Flow} {G0 : Flow → Shared → Prop} {E : Value → Shared → Prop} {s : Shared} (h : ∀ (G : Flow → Shared → Prop) (E' : Value → Shared → Prop), (∀ s, G0 .next s → G .next s) → wpAny M A t (fun _ s₂ => wpAny M A t2 G E' s₂) E' s) :
    wpAny M A t (fun _ s₂ => wpAny M A t2 G0 E s₂) E s := h G0 E fun _ x => x
end Mine
end
section
open PySem PySem.W PyProof.Rows
namespace Mine
/-- a dict's pairs are texts with ints -/
def IntD : List (Str × Value) → List (Str × Int) → Prop
  | [], [] => True
  | p :: r, q :: t => p.1 = q.1 ∧ (∃ u, p.2 = .int q.2 u) ∧ IntD r t
  | _, _ => False
def add1 : List (Str × Int) → Str → Int → List (Str × Int)
  | [], k, i => [(k, i)]
  | q :: r, k, i => if q.1 = k then (q.1, q.2 + i) :: r else q :: add1 r k i
def addAll (D E : List (Str × Int)) : List (Str × Int) := E.foldl (fun a q => add1 a q.1 q.2) D
theorem IntD.keys : ∀ {kvs D}, IntD kvs D → kvs.map (·.1) = D.map (·.1)
  | [], [], _ => rfl
  | _ :: _, _ :: _, h => by rw [List.map_cons, List.map_cons, h.1, IntD.keys h.2.2]
  | [], _ :: _, h => h.elim
  | _ :: _, [], h => h.elim
theorem IntD.length {kvs D} (h : IntD kvs D) : kvs.length = D.length := by have := congrArg List.length h.keys; simpa using this
theorem IntD.append : ∀ {a b c d}, IntD a c → IntD b d → IntD (a ++ b) (c ++ d)
  | [], _, [], _, _, h => h
  | _ :: _, _, _ :: _, _, h, k => ⟨h.1, h.2.1, IntD.append h.2.2 k⟩
  | [], _, _ :: _, _, h, _ => h.elim
  | _ :: _, _, [], _, h, _ => h.elim
theorem IntD.one (k : Str) (i : Int) (t : Tok) : IntD [(k, .int i t)] [(k, i)] := ⟨rfl, ⟨t, rfl⟩, trivial⟩
theorem IntD.split : ∀ {a b D}, IntD (a ++ b) D → ∃ c d, D = c ++ d ∧ IntD a c ∧ IntD b d
  | [], _, D, h => ⟨[], D, rfl, trivial, h⟩
  | x :: a, b, [], h => h.elim
  | x :: a, b, q :: D, h => by
    obtain ⟨c, d, e, h1, h2⟩ := IntD.split (a := a) h.2.2
    exact ⟨q :: c, d, by rw [e]; rfl, ⟨h.1, h.2.1, h1⟩, h2⟩
theorem valueAt_cons {p : Str × Value} {r : List (Str × Value)} {k : Str} : valueAt (p :: r) k = if p.1 = k then some p.2 else valueAt r k := by
  unfold valueAt
  rw [List.find?_cons]
  by_cases h : p.1 = k <;> simp [h]
/-- not there: the pair goes to the end -/
theorem IntD.miss : ∀ {kvs D k}, IntD kvs D → valueAt kvs k = none → ∀ (i : Int) (t : Tok), IntD (stored kvs k (.int i t)) (add1 D k i) ∧ stored kvs k (.int i t) = kvs ++ [(k, .int i t)] ∧ add1 D k i = D ++ [(k, i)] := by
  intro kvs D k h hv i t
  have hn : (kvs.any fun kv => kv.1 = k) = false := by
    cases e : kvs.any fun kv => kv.1 = k with
    | false => rfl
    | true =>
      exfalso
      obtain ⟨x, hx, hk⟩ := List.any_eq_true.mp e
      unfold valueAt at hv
      rw [Option.map_eq_none_iff, List.find?_eq_none] at hv
      exact hv x hx hk
  have e1 : stored kvs k (.int i t) = kvs ++ [(k, .int i t)] := by unfold stored; rw [hn]; rfl
  have e2 : ∀ {kvs : List (Str × Value)} {D : List (Str × Int)}, IntD kvs D → valueAt kvs k = none → add1 D k i = D ++ [(k, i)] := by
    intro kvs
    induction kvs with
    | nil => intro D h _; cases D with
      | nil => rfl
      | cons q r => exact h.elim
    | cons p r ih =>
      intro D h hv
      cases D with
      | nil => exact h.elim
      | cons q D =>
        rw [valueAt_cons] at hv
        by_cases hp : p.1 = k
        · rw [if_pos hp] at hv; cases hv
        · rw [if_neg hp] at hv
          show (if q.1 = k then _ else _) = _
          rw [if_neg (by rw [← h.1]; exact hp), ih h.2.2 hv]; rfl
  refine ⟨?_, e1, e2 h hv⟩
  rw [e1, e2 h hv]
  exact h.append (IntD.one k i t)
/-- there: the sum takes its place -/
theorem IntD.hit : ∀ {kvs D k}, IntD kvs D → (kvs.map (·.1)).Nodup → ∀ {v}, valueAt kvs k = some v → ∃ n u, v = .int n u ∧ ∀ (i : Int) (t : Tok), IntD (stored kvs k (.int (n + i) t)) (add1 D k i) := by
  intro kvs
  induction kvs with
  | nil => intro D k _ _ v hv; cases hv
  | cons p r ih =>
    intro D k h hn v hv
    cases D with
    | nil => exact h.elim
    | cons q D =>
      rw [valueAt_cons] at hv
      rw [List.map_cons, List.nodup_cons] at hn
      by_cases hp : p.1 = k
      · rw [if_pos hp] at hv
        cases hv
        obtain ⟨u, hu⟩ := h.2.1
        refine ⟨q.2, u, hu, fun i t => ?_⟩
        have hr : r.map (fun kv => if kv.1 = k then (kv.1, Value.int (q.2 + i) t) else kv) = r := by
          have : ∀ x ∈ r, (fun kv : Str × Value => if kv.1 = k then (kv.1, Value.int (q.2 + i) t) else kv) x = id x := by
            intro x hx
            have : x.1 ≠ k := fun e => hn.1 (by rw [hp, ← e]; exact List.mem_map_of_mem hx)
            simp [this]
          rw [List.map_congr_left this, List.map_id]
        have e1 : stored (p :: r) k (.int (q.2 + i) t) = (p.1, .int (q.2 + i) t) :: r := by
          unfold stored
          rw [if_pos (by simp [hp]), List.map_cons, if_pos hp, hr]
        have e2 : add1 (q :: D) k i = (q.1, q.2 + i) :: D := by
          show (if q.1 = k then _ else _) = _
          rw [if_pos (by rw [← h.1]; exact hp)]
        rw [e1, e2]
        exact ⟨h.1, ⟨t, rfl⟩, h.2.2⟩
      · rw [if_neg hp] at hv
        obtain ⟨n, u, e, hs⟩ := ih h.2.2 hn.2 hv
        refine ⟨n, u, e, fun i t => ?_⟩
        have ha : (r.any fun kv => kv.1 = k) = true := by
          cases e : r.any fun kv => kv.1 = k with
          | true => rfl
          | false =>
            exfalso
            unfold valueAt at hv
            have : r.find? (fun kv => kv.1 = k) = none := by
              rw [List.find?_eq_none]
              intro x hx hk
              have := List.any_eq_true (p := fun kv : Str × Value => decide (kv.1 = k)) |>.mpr ⟨x, hx, hk⟩
              rw [e] at this; cases this
            rw [this] at hv; cases hv
        have e1 : stored (p :: r) k (.int (n + i) t) = p :: stored r k (.int (n + i) t) := by
          unfold stored
          rw [if_pos (by simp [ha]), if_pos ha, List.map_cons, if_neg hp]
        have e2 : add1 (q :: D) k i = q :: add1 D k i := by
          show (if q.1 = k then _ else _) = _
          rw [if_neg (by rw [← h.1]; exact hp)]
        rw [e1, e2]
        exact ⟨h.1, h.2.1, hs i t⟩
theorem add1_length (D : List (Str × Int)) (k : Str) (i : Int) : (add1 D k i).length ≤ D.length + 1 := by
  induction D with
  | nil => exact Nat.le_refl _
  | cons q r ih =>
    show (if q.1 = k then (q.1, q.2 + i) :: r else q :: add1 r k i).length ≤ _
    split
    · simp
    · simp only [List.length_cons]; omega
theorem addAll_length (D E : List (Str × Int)) : (addAll D E).length ≤ D.length + E.length := by
  induction E generalizing D with
  | nil => exact Nat.le_refl _
  | cons q r ih =>
    have := ih (add1 D q.1 q.2)
    have := add1_length D q.1 q.2
    show (addAll (add1 D q.1 q.2) r).length ≤ _
    simp only [List.length_cons]; omega
theorem valueAt_none_of {kvs : List (Str × Value)} {k : Str} (h : k ∉ kvs.map (·.1)) : valueAt kvs k = none := by
  unfold valueAt
  rw [Option.map_eq_none_iff, List.find?_eq_none]
  intro x hx hk
  exact h (by simp only [decide_eq_true_eq] at hk; rw [← hk]; exact List.mem_map_of_mem hx)
theorem stored_new {kvs : List (Str × Value)} {k : Str} {v : Value} (h : k ∉ kvs.map (·.1)) : stored kvs k v = kvs ++ [(k, v)] := by
  unfold stored
  rw [if_neg]
  intro e
  obtain ⟨x, hx, hk⟩ := List.any_eq_true.mp e
  exact h (by simp only [decide_eq_true_eq] at hk; rw [← hk]; exact List.mem_map_of_mem hx)
end Mine
end
section
open PySem PySem.W PyProof.Rows
set_option Elab.async false
set_option maxRecDepth 100000
set_option maxHeartbeats 4000000
namespace Mine
theorem warm2 : (fun (_ : Params → Frag) (_ : OpenLaw) => True) KF Challenge.rw_in0007_01 := by
  k_fill
  trivial
local macro_rules | `(tactic| k_room) => `(tactic| ktr_room)
local macro_rules | `(tactic| k_units) => `(tactic| ktr_units)
theorem addc {w : World} {p : Program} {loose : List Str} {mean : ExcName → Option Value} {mg mb : Str → Option Value} {dp un : Nat} {gd : Option (List Code)} {cn : Str} {cs : Scope} {a : Addr} {ccd : Value} {cl : List (Str × Addr)} {outer : List Env} {A₀ : Around} {base h₀ : Heap} {L : Addr} {m : Str → Option Value} {news : List (Addr × Obj)} {s : Shared} {t u : Addr} {ot ou : Obj} {kt ku : List (Str × Value)} {Q E : Value → Shared → Prop}
    (B : Below A₀ base outer h₀) (F : Fr h₀ L s.heap m) (X : (KF w.params).In h₀) (N : News h₀ L s.heap news) (T : Top p loose mean mg mb h₀) (hk : cs.kind = .function)
    (ht : (t, ot) ∈ news) (dt : ot.IsDictOf (sk w) kt) (lt : (t == sysModules) = false)
    (hu : (u, ou) ∈ news) (du : ou.IsDictOf (sk w) ku) (lu : (u == sysModules) = false)
    {Dt Du : List (Str × Int)} (it : IntD kt Dt) (iu : IntD ku Du) (bt : Dt.length ≤ 1000) (bu : Du.length ≤ 1000)
    (hd : dp + 5 < recursionLimit) (hun : un + 60 < cLine)
    (ret : ∀ r o kr h' tk', Fr h₀ L h' m → News h₀ L h' ((r, o) :: news) → (∀ q ∈ news, q.1 < r) → (r == sysModules) = false → o.IsDictOf (sk w) kr → IntD kr (addAll Dt Du) → Q (.ref r) { s with heap := h', toks := tk' }) :
    wpAny (model pw w) (ktrTop dp un gd cn cs L a ccd cl outer) (call (.ref 46) [.ref t, .ref u]) Q E s := by
  w_on
  refine wpAny_call ?_
  k_dflt ktr_enter
  k_steps
  rename_i g1 L1 h1' FG1 B1 X1 T1 d h1'' o1 l1 lo1 hs1 fs1 hi1 fi1 h1 F1 N1
  clear fs1 hi1 fi1
  with_unfolding_all refine' For_turns F1 ?_
  k_whole
  with_unfolding_all ((refine MethodCall_ ?_); (refine ld F1 (by rfl) ?_); (refine kdl_method (knd := sk w) PySem.F.slot_dict_items PySem.F.type_dict_items N1 (List.mem_cons_of_mem _ ht) dt ?_); (refine callWith_method0 ?_); (refine kta_callItems (knd := sk w) F1 N1 (List.mem_cons_of_mem _ ht) dt lt ?_))
  intro h2 hv2 F2 N2
  with_unfolding_all refine kta_items (knd := sk w) (enc := PyData.str) (xs := kt.map (fun p => Itm.pair (fun t => Value.str p.1 t) p.2)) (by rfl) F2 N2 hv2 (List.mem_cons_of_mem _ ht) dt (fun _ _ h => Value.isStrOf_shape h) rfl ?_
  intro I hI
  refine itemsInv (α := Str × Value) (fun r m n => ∃ o kd, n = (d, o) :: news ∧ o.IsDictOf (sk w) kd ∧ kd ++ r = kt ∧ m (Str.ofString "new_callers") = some (.ref d) ∧ m (Str.ofString "source") = some (.ref u)) ?step ?done kt _ _ ⟨_, [], rfl, hs1, rfl, rfl, rfl⟩
  case step =>
    clear F1 N1 F2 N2 hv2
    rintro ⟨k, x⟩ r mm n ⟨o, kd, rfl, do1, hkd, m1, m2⟩ v h tk ⟨T2, t2, rfl, hT2⟩ F
    refine AllObj.cons fun oI cI => AllObj.nil fun N => ?_
    refine absG fun G E9 hG => ?_
    have F := putF F m1
    k_steps
    rename_i h3 F3 N3
    have hdI : I ≠ d := Nat.ne_of_gt (hI _ (.head _))
    have hnd : ∀ p ∈ news, p.1 ≠ d := fun p hp => Nat.ne_of_lt (l1 p hp)
    have hsz : kd.length ≤ sizeLine := by
      have h9 := it.length
      rw [← hkd, List.length_append] at h9
      rw [sizeLine_eq]; omega
    refine kda_set (knd := sk w) F3 N3 (UpdF.tail hdI (UpdF.head hnd)) do1 (strKind_is _ _ _ _) hsz ?_
    intro h4 o4 F4 N4 do4
    have hk' : k ∉ kd.map (·.1) := by
      have hn := keysNodup_of_isDictOf dt
      rw [← hkd, List.map_append, List.map_cons, List.nodup_append] at hn
      intro hm
      exact hn.2.2 k hm k (.head _) rfl
    rw [stored_new hk'] at do4
    refine wpAny_execs_nil ?_
    exact hG _ ⟨h4, _, _, (d, o4) :: news, rfl, F4, N4, (by
      intro p hp q hq
      rw [List.mem_singleton.mp hq]
      exact Nat.ne_of_lt (by rcases List.mem_cons.mp hp with rfl | hp; exact hI (d, o1) (.head _); exact hI _ (.tail _ hp))), ⟨List.mem_cons_of_mem _ ht, trivial⟩, o4, _, rfl, do4, by rw [List.append_assoc]; exact hkd, by with_unfolding_all rfl, by with_unfolding_all exact m2⟩
  case done =>
    rintro mm n ⟨o, kd, rfl, do1, hkd, m1, m2⟩ h3 tk3 F3 N3
    rw [List.append_nil] at hkd
    subst hkd
    have F3 := putF (x := Str.ofString "source") (v := .ref u) (putF F3 m1) (by with_unfolding_all exact m2)
    clear F1 N1 F2 N2 hv2
    dsimp only
    k_steps
    with_unfolding_all refine' For_turns F3 ?_
    k_whole
    with_unfolding_all ((refine MethodCall_ ?_); (refine ld F3 (by rfl) ?_); (refine kdl_method (knd := sk w) PySem.F.slot_dict_items PySem.F.type_dict_items N3 (List.mem_cons_of_mem _ hu) du ?_); (refine callWith_method0 ?_); (refine kta_callItems (knd := sk w) F3 N3 (List.mem_cons_of_mem _ hu) du lu ?_))
    intro h4 hv4 F4 N4
    with_unfolding_all refine kta_items (knd := sk w) (enc := PyData.str) (xs := ku.map (fun p => Itm.pair (fun t => Value.str p.1 t) p.2)) (by rfl) F4 N4 hv4 (List.mem_cons_of_mem _ hu) du (fun _ _ h => Value.isStrOf_shape h) rfl ?_
    intro I2 hI2
    have hdI2 : d < I2 := hI2 _ (.head _)
    have hnI2 : ∀ p ∈ news, p.1 < I2 := fun p hp => hI2 _ (.tail _ hp)
    refine itemsInv (α := Str × Value) (fun r m n => ∃ o kd Dd, n = (d, o) :: news ∧ o.IsDictOf (sk w) kd ∧ IntD kd (addAll Dt Dd) ∧ (∃ Dr, Du = Dd ++ Dr ∧ IntD r Dr) ∧ m (Str.ofString "new_callers") = some (.ref d)) ?step ?done ku _ _ ⟨_, _, [], rfl, do1, it, ⟨Du, rfl, iu⟩, by with_unfolding_all rfl⟩
    case step =>
      clear F3 N3 F4 N4 hv4
      rintro ⟨k, x⟩ r mm n ⟨o, kd, Dd, rfl, do1, hkd, ⟨Dr, hDr, ir⟩, m1⟩ v h tk ⟨T2, t2, rfl, hT2⟩ F
      refine AllObj.cons fun oI cI => AllObj.nil fun N => ?_
      refine absG fun G E9 hG => ?_
      have F := putF F m1
      cases Dr with
      | nil => exact ir.elim
      | cons q Dr =>
        obtain ⟨hq1, ⟨ux, hx⟩, ir⟩ := ir
        dsimp only at hq1 hx
        subst hq1 hx
        k_steps
        rename_i h5 F5 N5
        have hdI : I2 ≠ d := Nat.ne_of_gt hdI2
        have hnd : ∀ p ∈ news, p.1 ≠ d := fun p hp => Nat.ne_of_lt (l1 p hp)
        have hsz : kd.length ≤ sizeLine := by
          have h9 := hkd.length
          have h8 := addAll_length Dt Dd
          rw [hDr, List.length_append] at bu
          rw [sizeLine_eq]; omega
        have hne : ∀ o4 : Obj, ∀ p ∈ (d, o4) :: news, ∀ q ∈ [(I2, oI)], p.1 ≠ q.1 := by
          intro o4 p hp q hq
          rw [List.mem_singleton.mp hq]
          exact Nat.ne_of_lt (by rcases List.mem_cons.mp hp with rfl | hp; exact hdI2; exact hnI2 _ hp)
        have fin1 : ∀ k4 : List (Str × Value), IntD k4 (add1 (addAll Dt Dd) q.1 q.2) → IntD k4 (addAll Dt (Dd ++ [q])) := by
          intro k4 e3
          show IntD k4 ((Dd ++ [q]).foldl _ Dt)
          rw [List.foldl_append]; exact e3
        have fin2 : Du = (Dd ++ [q]) ++ Dr := by rw [hDr, List.append_assoc]; rfl
        refine kda_in (knd := sk w) N5 (.tail _ (.head _)) do1 lo1 (strKind_is _ _ _ _) _ rfl ?_
        cases hva : valueAt kd q.1 with
        | none =>
          dsimp only [Option.isSome]
          k_steps
          obtain ⟨ha, hb, hc⟩ := hkd.miss hva q.2 ux
          refine kda_set (knd := sk w) F5 N5 (UpdF.tail hdI (UpdF.head hnd)) do1 (strKind_is _ _ _ _) hsz ?_
          intro h6 o6 F6 N6 do6
          refine wpAny_execs_nil ?_
          refine wpAny_execs_nil ?_
          exact hG _ ⟨h6, _, _, (d, o6) :: news, rfl, F6, N6, hne o6, ⟨List.mem_cons_of_mem _ hu, trivial⟩, o6, _, Dd ++ [q], rfl, do6, fin1 _ ha, ⟨Dr, fin2, ir⟩, by with_unfolding_all rfl⟩
        | some v0 =>
          dsimp only [Option.isSome]
          k_steps
          obtain ⟨n0, u0, rfl, hst⟩ := hkd.hit (keysNodup_of_isDictOf do1) hva
          refine kdt_getItem (knd := sk w) N5 (.tail _ (.head _)) do1 (strKind_is _ _ _ _) hva ?_
          k_steps
          refine kda_set (knd := sk w) F5 N5 (UpdF.tail hdI (UpdF.head hnd)) do1 (strKind_is _ _ _ _) hsz ?_
          intro h6 o6 F6 N6 do6
          refine wpAny_execs_nil ?_
          refine wpAny_execs_nil ?_
          refine wpAny_execs_nil ?_
          exact hG _ ⟨h6, _, _, (d, o6) :: news, rfl, F6, N6, hne o6, ⟨List.mem_cons_of_mem _ hu, trivial⟩, o6, _, Dd ++ [q], rfl, do6, fin1 _ (hst _ _), ⟨Dr, fin2, ir⟩, by with_unfolding_all rfl⟩
    case done =>
      rintro mm n ⟨o, kd, Dd, rfl, do1, hkd, ⟨Dr, hDr, ir⟩, m1⟩ h3 tk3 F3 N3
      cases Dr with
      | cons q r => exact ir.elim
      | nil =>
        rw [List.append_nil] at hDr
        subst hDr
        have F3 := putF F3 m1
        dsimp only
        k_steps
        exact ret d _ _ _ _ (by assumption) (by assumption) l1 lo1 do1 hkd
end Mine
end
section
open PySem PySem.W PyProof.Rows
set_option Elab.async false
set_option maxRecDepth 100000
set_option maxHeartbeats 4000000
namespace Mine
theorem warm3 : (fun (_ : Params → Frag) (_ : OpenLaw) => True) KF Challenge.rw_in0007_01 := by
  k_fill
  trivial
local macro_rules | `(tactic| k_room) => `(tactic| ktr_room)
local macro_rules | `(tactic| k_units) => `(tactic| ktr_units)
local macro_rules | `(tactic| walk_at "exec For Name Call cons nil") => `(tactic| refine Halt.at ?_)
def sumD (D : List (Str × Int)) : Int := (D.map (·.2)).sum
theorem countc {w : World} {p : Program} {loose : List Str} {mean : ExcName → Option Value} {mg mb : Str → Option Value} {dp un : Nat} {gd : Option (List Code)} {cn : Str} {cs : Scope} {a : Addr} {ccd : Value} {cl : List (Str × Addr)} {outer : List Env} {A₀ : Around} {base h₀ : Heap} {L : Addr} {m : Str → Option Value} {news : List (Addr × Obj)} {s : Shared} {t : Addr} {ot : Obj} {kt : List (Str × Value)} {Q E : Value → Shared → Prop}
    (B : Below A₀ base outer h₀) (F : Fr h₀ L s.heap m) (X : (KF w.params).In h₀) (N : News h₀ L s.heap news) (T : Top p loose mean mg mb h₀) (hk : cs.kind = .function)
    (ht : (t, ot) ∈ news) (dt : ot.IsDictOf (sk w) kt) (lt : (t == sysModules) = false)
    {Dt : List (Str × Int)} (it : IntD kt Dt)
    (hd : dp + 5 < recursionLimit) (hun : un + 60 < cLine)
    (ret : ∀ h' tk' tt, Fr h₀ L h' m → News h₀ L h' news → Q (.int (sumD Dt) tt) { s with heap := h', toks := tk' }) :
    wpAny (model pw w) (ktrTop dp un gd cn cs L a ccd cl outer) (call (.ref 53) [.ref t]) Q E s := by
  w_on
  refine wpAny_call ?_
  k_dflt ktr_enter
  k_steps
  rename Fr _ _ _ _ => F1
  rename News _ _ _ _ => N1
  refine Halt.go ?_
  with_unfolding_all refine' For_turns F1 ?_
  k_whole
  with_unfolding_all ((refine MethodCall_ ?_); (refine ld F1 (by rfl) ?_); (refine kdl_method (knd := sk w) PySem.F.slot_dict_values PySem.F.type_dict_values N1 ht dt ?_); (refine callWith_method0 ?_); (refine kta_callValues (knd := sk w) F1 N1 ht dt lt ?_))
  intro h2 hv2 F2 N2
  with_unfolding_all refine kta_vals (knd := sk w) (xs := kt.map (fun p => Itm.val p.2)) (by rfl) F2 N2 hv2 ht dt rfl ?_
  intro I hI
  refine itemsInv (α := Str × Value) (fun r m n => ∃ Dd Dr c tt, n = news ∧ Dt = Dd ++ Dr ∧ IntD r Dr ∧ c = sumD Dd ∧ m (Str.ofString "nc") = some (.int c tt)) ?step ?done kt _ _ ⟨[], Dt, 0, _, rfl, rfl, it, rfl, by with_unfolding_all rfl⟩
  case step =>
    clear F1 N1 F2 N2 hv2
    rintro ⟨k, x⟩ r mm n ⟨Dd, Dr, c, tt, rfl, hDr, ir, hc, m1⟩ v h tk rfl F
    refine AllObj.cons fun oI cI => AllObj.nil fun N => ?_
    refine absG fun G E9 hG => ?_
    have F := putF F m1
    cases Dr with
    | nil => exact ir.elim
    | cons q Dr =>
      obtain ⟨hq1, ⟨ux, hx⟩, ir⟩ := ir
      dsimp only at hq1 hx
      subst hq1 hx
      k_steps
      refine hG _ ⟨_, _, _, n, rfl, by assumption, by assumption, ?_, ⟨ht, trivial⟩, Dd ++ [q], Dr, _, _, rfl, by rw [hDr, List.append_assoc]; rfl, ir, ?_, by with_unfolding_all rfl⟩
      · intro p hp q hq
        rw [List.mem_singleton.mp hq]
        exact Nat.ne_of_lt (hI p hp)
      · rw [hc, sumD, sumD, List.map_append, List.sum_append]; simp
  case done =>
    rintro mm n ⟨Dd, Dr, c, tt, rfl, hDr, ir, hc, m1⟩ h3 tk3 F3 N3
    cases Dr with
    | cons q r => exact ir.elim
    | nil =>
      rw [List.append_nil] at hDr
      subst hDr
      have F3 := putF F3 m1
      dsimp only
      k_steps
      rw [hc]
      exact ret _ _ _ (by assumption) (by assumption)
end Mine
end
section
open PySem PySem.W PyProof.Rows PySem.Calls
set_option Elab.async false
set_option maxRecDepth 100000
set_option maxHeartbeats 4000000
namespace Mine
section
variable {prog : Program} {w : World} {A : Around} {E : Value → Shared → Prop} {s : Shared} {env : Env} {Q : Fin → Shared → Prop}
/-- what comes behind a turn's store: the test, if there is one; then `more` -/
def afterTests (prog : Program) (w : World) (A : Around) (ifs : List Expr) (env : Env) (more : Shared → Prop) (G : Shared → Prop) (E : Value → Shared → Prop) (s : Shared) : Prop :=
  match ifs with
  | [] => more s
  | c :: _ => wpAny (model prog w) A (isTrue c env (eval c env)) (fun ok s₁ => if ok = true then more s₁ else G s₁) E s
/-- the next clause, entered -/
def nextClause (prog : Program) (w : World) (A : Around) (e iter : Expr) (depth : Nat) (acc : Value) (env : Env) (G : Shared → Prop) (E : Value → Shared → Prop) (s : Shared) : Prop :=
  wpAny (model prog w) A (eval iter env) (fun x s₁ => wpAny (model prog w) A (pyIter x) (fun i s₂ => wpAny (model prog w) A (runOwn (.compStart e (depth + 1) i acc env) env) (fun _ s₃ => G s₃) E s₂) E s₁) E s
theorem tests_wp {ifs : List Expr} (hi : ifs.length ≤ 1) {more G : Shared → Prop} {T : Bool → Sem Fin} (h : afterTests prog w A ifs env more G E s) (h1 : ∀ s, more s → wpAny (model prog w) A (T true) Q E s) (h2 : ∀ s, G s → wpAny (model prog w) A (T false) Q E s) :
    wpAny (model prog w) A ((forIn ifs true fun c r => if r = true then do let ok ← isTrue c env (eval c env); pure (ForInStep.yield ok) else pure (ForInStep.yield r)) >>= T) Q E s := by
  match ifs, hi, h with
  | [], _, h => exact wpAny_bind (wpAny_tests_nil (h1 _ h))
  | [c], _, h =>
    refine wpAny_bind (wpAny_tests_one (wpAny_mono h (fun ok s₁ x => ?_) fun _ _ e => e))
    cases ok with
    | true => exact h1 _ x
    | false => exact h2 _ x
theorem turnList {elt target iter : Expr} {ifs : List Expr} {gens : List Comprehension} {scope : Scope} {pos : Pos} {depth : Nat} {it acc : Value} (hg : gens[depth]? = some ⟨target, iter, ifs, 0⟩)
    (hn : gens[depth + 1]? = none) (hi : ifs.length ≤ 1)
    (h : wpAny (model prog w) A (pyNext it) (fun r s₁ => match r with
      | none => Q (.done .next) s₁
      | some v => wpAny (model prog w) A (letOwnedTupleGo target it v) (fun _ s₂ => wpAny (model prog w) A (assign target env v) (fun _ s₃ =>
          afterTests prog w A ifs env (fun s₄ => wpAny (model prog w) A (eval elt env) (fun x s₅ => wpAny (model prog w) A (call (.builtin "list.append") [acc, x]) (fun _ s₆ => Q (.again (.compLoop (.ListComp elt gens scope pos) depth it acc env)) s₆) E s₅) E s₄)
            (fun s₄ => Q (.again (.compLoop (.ListComp elt gens scope pos) depth it acc env)) s₄) E s₃) E s₂) E s₁) E s) :
    wpAny (model prog w) A (compTurn (.ListComp elt gens scope pos) depth it acc env) Q E s := by
  unfold compTurn
  simp only [hg, hn]
  refine wpAny_bind (wpAny_standAt ?_)
  refine wpAny_bind (wpAny_mono h (fun r s₁ h₁ => ?_) fun _ _ e => e)
  cases r with
  | none => exact wpAny_pure h₁
  | some v =>
    refine wpAny_bind (wpAny_mono h₁ (fun _ s₂ h₂ => wpAny_bind (wpAny_mono h₂ (fun _ s₃ h₃ => ?_) fun _ _ e => e)) fun _ _ e => e)
    refine tests_wp hi h₃ (fun s₄ h₄ => ?_) fun s₄ h₄ => ?_
    · simp only [if_true]
      exact wpAny_bind (wpAny_bind (wpAny_mono h₄ (fun x s₅ h₅ => wpAny_bind (wpAny_mono h₅ (fun _ s₆ h₆ => wpAny_pure (wpAny_pure h₆)) fun _ _ e => e)) fun _ _ e => e))
    · exact wpAny_pure h₄
theorem turnNest {elt target iter target' iter' : Expr} {ifs ifs' : List Expr} {gens : List Comprehension} {scope : Scope} {pos : Pos} {depth : Nat} {it acc : Value} (hg : gens[depth]? = some ⟨target, iter, ifs, 0⟩)
    (hn : gens[depth + 1]? = some ⟨target', iter', ifs', 0⟩) (hi : ifs.length ≤ 1) (hs : ∀ x, foldedSetIterable iter' env x = pure x)
    (h : wpAny (model prog w) A (pyNext it) (fun r s₁ => match r with
      | none => Q (.done .next) s₁
      | some v => wpAny (model prog w) A (letOwnedTupleGo target it v) (fun _ s₂ => wpAny (model prog w) A (assign target env v) (fun _ s₃ =>
          afterTests prog w A ifs env (nextClause prog w A (.ListComp elt gens scope pos) iter' depth acc env (fun s₆ => Q (.again (.compLoop (.ListComp elt gens scope pos) depth it acc env)) s₆) E)
            (fun s₄ => Q (.again (.compLoop (.ListComp elt gens scope pos) depth it acc env)) s₄) E s₃) E s₂) E s₁) E s) :
    wpAny (model prog w) A (compTurn (.ListComp elt gens scope pos) depth it acc env) Q E s := by
  unfold compTurn
  simp only [hg, hn]
  refine wpAny_bind (wpAny_standAt ?_)
  refine wpAny_bind (wpAny_mono h (fun r s₁ h₁ => ?_) fun _ _ e => e)
  cases r with
  | none => exact wpAny_pure h₁
  | some v =>
    refine wpAny_bind (wpAny_mono h₁ (fun _ s₂ h₂ => wpAny_bind (wpAny_mono h₂ (fun _ s₃ h₃ => ?_) fun _ _ e => e)) fun _ _ e => e)
    refine tests_wp hi h₃ (fun s₄ h₄ => ?_) fun s₄ h₄ => ?_
    · simp only [if_true, hs]
      refine wpAny_bind (wpAny_mono h₄ (fun x s₅ h₅ => wpAny_bind (wpAny_standAt ?_)) fun _ _ e => e)
      refine wpAny_bind (wpAny_pure ?_)
      refine wpAny_bind (wpAny_holding (wpAny_mono h₅ (fun i s₆ h₆ => ?_) fun _ _ e => e))
      exact wpAny_bind (wpAny_mono h₆ (fun _ s₇ h₇ => wpAny_pure h₇) fun _ _ e => e)
    · exact wpAny_pure h₄
theorem turnDict {kx vx target iter : Expr} {ifs : List Expr} {gens : List Comprehension} {scope : Scope} {pos : Pos} {depth : Nat} {it : Value} {D : Addr} (hg : gens[depth]? = some ⟨target, iter, ifs, 0⟩)
    (hn : gens[depth + 1]? = none) (hi : ifs.length ≤ 1)
    (h : wpAny (model prog w) A (pyNext it) (fun r s₁ => match r with
      | none => Q (.done .next) s₁
      | some v => wpAny (model prog w) A (letOwnedTupleGo target it v) (fun _ s₂ => wpAny (model prog w) A (assign target env v) (fun _ s₃ =>
          afterTests prog w A ifs env (fun s₄ => wpAny (model prog w) A (eval kx env) (fun k s₅ => wpAny (model prog w) A (eval vx env) (fun v s₆ => wpAny (model prog w) A (dictSet D k v) (fun _ s₇ => Q (.again (.compLoop (.DictComp kx vx gens scope pos) depth it (.ref D) env)) s₇) E s₆) E s₅) E s₄)
            (fun s₄ => Q (.again (.compLoop (.DictComp kx vx gens scope pos) depth it (.ref D) env)) s₄) E s₃) E s₂) E s₁) E s) :
    wpAny (model prog w) A (compTurn (.DictComp kx vx gens scope pos) depth it (.ref D) env) Q E s := by
  unfold compTurn
  simp only [hg, hn]
  refine wpAny_bind (wpAny_standAt ?_)
  refine wpAny_bind (wpAny_mono h (fun r s₁ h₁ => ?_) fun _ _ e => e)
  cases r with
  | none => exact wpAny_pure h₁
  | some v =>
    refine wpAny_bind (wpAny_mono h₁ (fun _ s₂ h₂ => wpAny_bind (wpAny_mono h₂ (fun _ s₃ h₃ => ?_) fun _ _ e => e)) fun _ _ e => e)
    refine tests_wp hi h₃ (fun s₄ h₄ => ?_) fun s₄ h₄ => ?_
    · simp only [if_true]
      exact wpAny_bind (wpAny_bind (wpAny_mono h₄ (fun x s₅ h₅ => wpAny_bind (wpAny_holding (wpAny_mono h₅ (fun _ s₆ h₆ => wpAny_bind (wpAny_standAt (wpAny_holding (wpAny_mono h₆ (fun _ _ q => wpAny_pure q) fun _ _ e => e)))) fun _ _ e => e))) fun _ _ e => e))
    · exact wpAny_pure h₄
end
end Mine
end
section
open PySem PySem.W PyProof.Rows PySem.Calls PyProof.Rows.LCg
set_option Elab.async false
set_option maxRecDepth 100000
set_option maxHeartbeats 4000000
namespace Mine
/-- a source of a block: the iterator I, the cells it reads, its class and its items -/
def Src (prog : Program) (w : World) (A : Around) (target : Expr) (I : Addr) (fp : List Addr) (cls : String) (xs : List Itm) (h : Heap) : Prop :=
  ∃ n P Md St, n = xs.length ∧ KTurns prog w A target I fp [I] n P Md St ∧ (∀ i v h, P i v h → ∃ a, xs[i]? = some a ∧ a.Is v h) ∧ (∀ i h, St i h → ∃ o, h.get? I = some o ∧ o.cls = .type cls) ∧ St 0 h ∧
    (∀ (s : Shared) (Q : Value → Shared → Prop) (E : Value → Shared → Prop), St 0 s.heap → Q (.ref I) s → wpAny (model prog w) A (pyIter (.ref I)) Q E s)
section
variable {prog : Program} {w : World} {A : Around} {E : Value → Shared → Prop} {s : Shared} {env : Env} {h₀ : Heap} {target : Expr} {I : Addr} {fp : List Addr} {cls : String} {xs : List Itm}
theorem Src.keeps {h h' : Heap} (S : Src prog w A target I fp cls xs h) (k : ∀ b o, h.get? b = some o → h'.get? b = some o) : Src prog w A target I fp cls xs h' := by
  obtain ⟨n, P, Md, St, hn, W, a, b, c, d⟩ := S
  exact ⟨n, P, Md, St, hn, W, a, b, W.frame _ _ _ c fun b _ o e => k b o e, d⟩
theorem Src.list (hh : A.handled = none) {ax : Addr} (hne : ax ≠ I) {vs : List Value} {h : Heap} (hi : h.IsListIter I ax 0) (hl : h.IsList ax vs.toArray) : Src prog w A target I [I, ax] "list_iterator" (vs.map .val) h := by
  refine ⟨_, _, _, _, ?_, KTurns.ofWalks (Walks.list hh I ax hne vs.toArray) fun i v s Q E st q => letGo_listiter st.1 q, ?_, ?_, ⟨hi, hl⟩, fun s Q E st q => wpAny_pyIter_listiter st.1 q⟩
  · simp
  · intro i v h hp
    have hp' : vs.toArray[i]? = some v := hp
    exact ⟨.val v, by simpa using hp', rfl⟩
  · intro i h st
    obtain ⟨it, hit, hic, _⟩ := st.1
    exact ⟨it, hit, hic⟩
theorem Src.items {K : Type} [DecidableEq K] {knd : KeyKind prog w K} {elts : List Expr} {kk : Nat} {pos : Pos} (hh : A.handled = none) {d : Addr} (hne : d ≠ I) {kvs : List (K × Value)} {ep : Nat} {h : Heap} (f : K → Tok → Value) (hf : ∀ k v, knd.is k v = true → ∃ t, v = f k t)
    (hi : ∃ ok ov, IsItemIter h I d 0 kvs.length ep ok ov) (hd : h.DictAt knd d kvs ep) :
    Src prog w A (.Tuple elts kk pos) I [I, d] "dict_itemiterator" (kvs.map fun p => Itm.pair (f p.1) p.2) h := by
  refine ⟨_, _, _, _, ?_, kti_itemsTurns (knd := knd) hh I d hne kvs ep, ?_, ?_, ⟨hi, hd⟩, fun s Q E st q => ?_⟩
  · simp
  · rintro i v h ⟨T, key, k, x, rfl, hx, hk, hT⟩
    obtain ⟨t, rfl⟩ := hf k key hk
    exact ⟨.pair (f k) x, by rw [List.getElem?_map, hx]; rfl, T, t, rfl, hT⟩
  · rintro i h ⟨⟨ok, ov, he⟩, _⟩
    exact ⟨_, he, rfl⟩
  · obtain ⟨⟨ok, ov, he⟩, _⟩ := st
    exact kcp_self he q
/-- the end of a turn -/
def CEnd (h₀ : Heap) (C I : Addr) (oI : Obj) (keep : List (Addr × Obj)) (s₁ : Shared) (J : (Str → Option Value) → List (Addr × Obj) → Prop) (s₂ : Shared) : Prop :=
  ∃ h' tk m' n', s₂ = { s₁ with heap := h', toks := tk } ∧ Fr h₀ C h' m' ∧ News h₀ C h' ((I, oI) :: n') ∧ (∀ p ∈ n', p.1 ≠ I) ∧ (∀ p ∈ keep, p ∈ n') ∧ J m' n'
/-- a block's loop by an invariant over what is left of it -/
theorem compInv {α : Type} {f : α → Itm} {e : Expr} {depth : Nat} {acc : Value} {R : Result → Shared → Prop} {keep : List (Addr × Obj)} (B : (Shared → Prop) → Shared → Prop)
    (hB : ∀ G G' : Shared → Prop, ∀ s, (∀ s, G s → G' s) → B G s → B G' s)
    (T : ∀ (s : Shared) (Q : Fin → Shared → Prop), wpAny (model prog w) A (pyNext (.ref I)) (fun r s₁ => match r with
      | none => Q (.done .next) s₁
      | some v => wpAny (model prog w) A (letOwnedTupleGo target (.ref I) v) (fun _ s₂ => wpAny (model prog w) A (assign target env v) (fun _ s₃ => B (fun s₄ => Q (.again (.compLoop e depth (.ref I) acc env)) s₄) s₃) (notedBy (model prog w) A env fun e s' => R (.error e) s') s₂) (notedBy (model prog w) A env fun e s' => R (.error e) s') s₁) (notedBy (model prog w) A env fun e s' => R (.error e) s') s →
        wpAny (model prog w) A (compTurn e depth (.ref I) acc env) Q (notedBy (model prog w) A env fun e s' => R (.error e) s') s)
    (J : List α → (Str → Option Value) → List (Addr × Obj) → Prop)
    (step : ∀ a r m n, J (a :: r) m n → (∀ p ∈ n, p.1 ≠ I) → ∀ v h tk oI, oI.cls = .type cls → (f a).Is v h → Fr h₀ env.locals h m → News h₀ env.locals h ((I, oI) :: n) →
      wpAny (model prog w) A (assign target env v) (fun _ s₃ => B (CEnd h₀ env.locals I oI keep { s with heap := h, toks := tk } (J r)) s₃) (notedBy (model prog w) A env fun e s' => R (.error e) s') { s with heap := h, toks := tk })
    (done : ∀ m n, J [] m n → (∀ p ∈ n, p.1 ≠ I) → ∀ h tk, Fr h₀ env.locals h m → News h₀ env.locals h n → R (.ok .next) { s with heap := h, toks := tk })
    (xs : List α) (S : Src prog w A target I fp cls (xs.map f) s.heap) {m : Str → Option Value} {n : List (Addr × Obj)} (F : Fr h₀ env.locals s.heap m) (N : News h₀ env.locals s.heap n) (hnI : ∀ p ∈ n, p.1 ≠ I) (hk : ∀ p ∈ keep, p ∈ n) (hJ : J xs m n)
    (hI₀ : h₀.get? I = none) (hIC : I ≠ env.locals) (hfp : ∀ b ∈ fp, b = I ∨ (∃ o, (b, o) ∈ keep) ∨ ∃ o, h₀.get? b = some o)
    (hu : A.under (.compLoop e depth (.ref I) acc env) = A := by rfl)
    (hden : (model prog w).den (.compLoop e depth (.ref I) acc env) = (compTurn e depth (.ref I) acc env).onRaise (fun x => do noteFrame x env; theTreesLotGoes x) := by rfl) :
    codeAny (model prog w) A (.compLoop e depth (.ref I) acc env) R s := by
  obtain ⟨nn, P, Md, St, hnn, W, hP, hSt, h0, hself⟩ := S
  rw [List.length_map] at hnn
  subst hnn
  refine codeAny_loop rfl (fun k s' => ∃ h' tk m' n' i, s' = { s with heap := h', toks := tk } ∧ St i h' ∧ Fr h₀ env.locals h' m' ∧ News h₀ env.locals h' n' ∧ (∀ p ∈ n', p.1 ≠ I) ∧ (∀ p ∈ keep, p ∈ n') ∧ J (xs.drop i) m' n' ∧ i ≤ xs.length ∧ k = xs.length + 1 - i)
    (fun k s' hI => ?_) (xs.length + 1) ⟨s.heap, s.toks, m, n, 0, rfl, h0, F, N, hnI, hk, hJ, Nat.zero_le _, rfl⟩
  obtain ⟨h', tk, m', n', i, rfl, st, F', N', hnI', hk', hJ', hi, rfl⟩ := hI
  rw [hu, hden]
  refine wpAny_noted (T _ _ ?_)
  have next : ∀ h₁ : Heap, (∀ b o, b ∉ [I] → h'.get? b = some o → h₁.get? b = some o) → Fr h₀ env.locals h₁ m' ∧ News h₀ env.locals h₁ n' := fun h₁ hk₁ =>
    ⟨fr_but F' hk₁ (Ne.symm hIC) hI₀, news_but N' hk₁ hnI'⟩
  by_cases hlt : i < xs.length
  · refine W.item i _ _ _ hlt st fun v h₁ tk₁ hMd hk₁ => ?_
    refine W.go i v _ _ _ hMd fun h₂ hPv hst₂ hk₂ => ?_
    obtain ⟨F₂, N₂⟩ := next h₂ fun b o hb x => hk₂ b o hb (hk₁ b o hb x)
    obtain ⟨oI, hoI, hcI⟩ := hSt _ _ hst₂
    obtain ⟨a, ha, hav⟩ := hP _ _ _ hPv
    rw [List.getElem?_map] at ha
    obtain ⟨x, hx, rfl⟩ := Option.map_eq_some_iff.mp ha
    have hd : xs.drop i = x :: xs.drop (i + 1) := by
      rw [List.drop_eq_getElem_cons hlt]
      rw [List.getElem?_eq_getElem hlt] at hx
      rw [Option.some.inj hx]
    rw [hd] at hJ'
    have NI : News h₀ env.locals h₂ ((I, oI) :: n') := fun p hp => by
      rcases List.mem_cons.mp hp with rfl | hp
      · exact ⟨hoI, hIC, hI₀⟩
      · exact N₂ p hp
    refine wpAny_mono (step x _ m' n' hJ' hnI' v h₂ tk₁ oI hcI hav F₂ NI) (fun _ s₃ h₃ => hB _ _ _ (fun s₄ h₄ => ?_) h₃) fun _ _ e => e
    obtain ⟨h₄', tk₄, m₄, n₄, rfl, F₄, N₄, ho, hk₄, hJ₄⟩ := h₄
    refine ⟨rfl, xs.length + 1 - (i + 1), by omega, h₄', tk₄, m₄, n₄, i + 1, rfl, ?_, F₄, fun p hp => N₄ p (.tail _ hp), ho, hk₄, hJ₄, hlt, rfl⟩
    refine W.frame _ _ _ hst₂ fun b hb o e => ?_
    rcases hfp b hb with rfl | ⟨o', hm⟩ | ⟨o', hm⟩
    · rw [hoI] at e
      cases e
      exact (N₄ _ (.head _)).1
    · have e1 := (N₂ _ (hk' _ hm)).1
      have e2 := (N₄ _ (.tail _ (hk₄ _ hm))).1
      dsimp only at e1 e2
      rw [e1] at e
      rw [e2, e]
    · have e1 := F₂.keep b o' hm
      have e2 := F₄.keep b o' hm
      rw [e1] at e
      rw [e2, e]
  · have hin : i = xs.length := by omega
    subst hin
    refine W.done _ _ _ st fun h₁ tk₁ hk₁ => ?_
    obtain ⟨F₁, N₁⟩ := next h₁ hk₁
    rw [List.drop_length] at hJ'
    exact done m' n' hJ' hnI' h₁ tk₁ F₁ N₁
/-- what is left of a turn of a block of a list -/
def bodyL (prog : Program) (w : World) (A : Around) (E : Value → Shared → Prop) (env : Env) (elt : Expr) (ifs : List Expr) (acc : Value) (G : Shared → Prop) (s : Shared) : Prop :=
  afterTests prog w A ifs env (fun s₄ => wpAny (model prog w) A (eval elt env) (fun x s₅ => wpAny (model prog w) A (call (.builtin "list.append") [acc, x]) (fun _ s₆ => G s₆) E s₅) E s₄) G E s
def bodyN (prog : Program) (w : World) (A : Around) (E : Value → Shared → Prop) (env : Env) (e iter' : Expr) (depth : Nat) (ifs : List Expr) (acc : Value) (G : Shared → Prop) (s : Shared) : Prop :=
  afterTests prog w A ifs env (nextClause prog w A e iter' depth acc env G E) G E s
def bodyD (prog : Program) (w : World) (A : Around) (E : Value → Shared → Prop) (env : Env) (kx vx : Expr) (ifs : List Expr) (D : Addr) (G : Shared → Prop) (s : Shared) : Prop :=
  afterTests prog w A ifs env (fun s₄ => wpAny (model prog w) A (eval kx env) (fun k s₅ => wpAny (model prog w) A (eval vx env) (fun v s₆ => wpAny (model prog w) A (dictSet D k v) (fun _ s₇ => G s₇) E s₆) E s₅) E s₄) G E s
theorem afterTests_mono {ifs : List Expr} {more more' G G' : Shared → Prop} (h : afterTests prog w A ifs env more G E s) (h1 : ∀ s, more s → more' s) (h2 : ∀ s, G s → G' s) : afterTests prog w A ifs env more' G' E s := by
  cases ifs with
  | nil => exact h1 _ h
  | cons c r =>
    refine wpAny_mono (M := model prog w) h (fun ok s₁ x => ?_) fun _ _ e => e
    cases ok with
    | true => exact h1 _ x
    | false => exact h2 _ x
theorem bodyL_mono {elt : Expr} {ifs : List Expr} {acc : Value} (G G' : Shared → Prop) (s : Shared) (k : ∀ s, G s → G' s) (h : bodyL prog w A E env elt ifs acc G s) : bodyL prog w A E env elt ifs acc G' s :=
  afterTests_mono h (fun _ x => wpAny_mono x (fun _ _ y => wpAny_mono y (fun _ _ z => k _ z) fun _ _ e => e) fun _ _ e => e) k
theorem bodyN_mono {e iter' : Expr} {depth : Nat} {ifs : List Expr} {acc : Value} (G G' : Shared → Prop) (s : Shared) (k : ∀ s, G s → G' s) (h : bodyN prog w A E env e iter' depth ifs acc G s) : bodyN prog w A E env e iter' depth ifs acc G' s :=
  afterTests_mono h (fun _ x => wpAny_mono (M := model prog w) x (fun _ _ y => wpAny_mono y (fun _ _ z => wpAny_mono z (fun _ _ t => k _ t) fun _ _ e => e) fun _ _ e => e) fun _ _ e => e) k
theorem bodyD_mono {kx vx : Expr} {ifs : List Expr} {D : Addr} (G G' : Shared → Prop) (s : Shared) (k : ∀ s, G s → G' s) (h : bodyD prog w A E env kx vx ifs D G s) : bodyD prog w A E env kx vx ifs D G' s :=
  afterTests_mono h (fun _ x => wpAny_mono x (fun _ _ y => wpAny_mono y (fun _ _ z => wpAny_mono z (fun _ _ t => k _ t) fun _ _ e => e) fun _ _ e => e) fun _ _ e => e) k
end
end Mine
end
section
open PySem PySem.W PyProof.Rows PySem.Calls PyProof.Rows.LCg
set_option Elab.async false
set_option maxRecDepth 100000
set_option maxHeartbeats 4000000
namespace Mine
section
variable {prog : Program} {w : World} {A : Around} {E : Value → Shared → Prop} {s : Shared} {env : Env} {h₀ : Heap}
theorem cn_own {C : Addr} {m : Str → Option Value} {scope : Scope} {cl : List (Str × Addr)} {x : Str} {pos : Pos} {v : Value} {Q : Value → Shared → Prop} (F : Fr h₀ C s.heap m) (hx : m x = some v) (h : Q v s)
    (hk : (compEnvC scope cl C env).scope.kind = .function := by rfl) (hl : (compEnvC scope cl C env).kindOf x = some .local := by rfl) (hd : (x == ("__debug__" : Str)) = false := by decide) :
    wpAny (model prog w) A (eval (.Name x pos) (compEnvC scope cl C env)) Q E s := ldVarK F.ns hx h hk hl hd
theorem frOf {h h' : Heap} {L : Addr} {m m' : Str → Option Value} (F : Fr h₀ L h m) (hn : h'.Ns L m') (k : ∀ c o, c ≠ L → h.get? c = some o → h'.get? c = some o) : Fr h₀ L h' m' :=
  ⟨hn, fun b o e => k b o (fun q => by have := Heap.lt_size e; rw [q] at this; exact absurd this (Nat.not_lt.mpr F.above)) (F.keep b o e), F.above⟩
theorem newsOf {h h' : Heap} {L : Addr} {n : List (Addr × Obj)} (N : News h₀ L h n) (k : ∀ c o, c ≠ L → h.get? c = some o → h'.get? c = some o) : News h₀ L h' n :=
  fun p hp => ⟨k _ _ (N p hp).2.1 (N p hp).1, (N p hp).2⟩
theorem asg1 {a : Str} {pa : Pos} {x : Value} {m : Str → Option Value} {n : List (Addr × Obj)} {Q : Unit → Shared → Prop} (F : Fr h₀ env.locals s.heap m) (N : News h₀ env.locals s.heap n)
    (ha : env.kindOf a = some .local) (hp : (env.scope.kind == .class || (env.scope.kind == .module && env.locals != env.globals)) = false)
    (h : ∀ (h' : Heap) (tk : Nat), Fr h₀ env.locals h' (fun z => if z = a then some x else m z) → News h₀ env.locals h' n → Q () { s with heap := h', toks := tk }) :
    wpAny (model prog w) A (assign (.Name a pa) env x) Q E s := by
  refine wpAny_assign_Name (wpAny_storeName_local ha F.ns (fun h₂ hn₂ hs₂ => ?_) hp)
  have k : ∀ c o, c ≠ env.locals → s.heap.get? c = some o → h₂.get? c = some o := fun c o hc e => hs₂.extBut c o hc e
  exact h h₂ _ (frOf F hn₂ k) (newsOf N k)
theorem asg2 {a b : Str} {pa pb tp : Pos} {kk : Nat} {T : Addr} {x y : Value} {m : Str → Option Value} {n : List (Addr × Obj)} {Q : Unit → Shared → Prop} (hh : A.handled = none) (F : Fr h₀ env.locals s.heap m) (N : News h₀ env.locals s.heap n) (ht : IsTup s.heap T #[x, y])
    (ha : env.kindOf a = some .local) (hb : env.kindOf b = some .local) (hp : (env.scope.kind == .class || (env.scope.kind == .module && env.locals != env.globals)) = false)
    (h : ∀ (h' : Heap) (tk : Nat), Fr h₀ env.locals h' (fun z => if z = b then some y else if z = a then some x else m z) → News h₀ env.locals h' n → Q () { s with heap := h', toks := tk }) :
    wpAny (model prog w) A (assign (.Tuple [.Name a pa, .Name b pb] kk tp) env (.ref T)) Q E s := by
  refine assign_Tuple_tuple hh ht rfl rfl fun h₁ he₁ => ?_
  have hn := F.ns
  have hL : env.locals ≠ s.heap.objs.size := Nat.ne_of_lt hn.lt
  have hn₁ : h₁.Ns env.locals m := hn.at' fun o e => he₁ _ o hL e
  have up₁ : ∀ c o, s.heap.get? c = some o → h₁.get? c = some o := fun c o e => he₁ c o (Nat.ne_of_lt (Heap.lt_size e)) e
  show wpAny _ _ (assignInOrder [assign (.Name a pa) env, assign (.Name b pb) env] [x, y]) _ _ _
  refine assignInOrder_cons ?_
  refine wpAny_assign_Name (wpAny_storeName_local ha hn₁ (fun h₂ hn₂ hs₂ => ?_) hp)
  refine assignInOrder_cons ?_
  refine wpAny_assign_Name (wpAny_storeName_local hb hn₂ (fun h₃ hn₃ hs₃ => ?_) hp)
  refine assignInOrder_nil ?_
  have k : ∀ c o, c ≠ env.locals → s.heap.get? c = some o → h₃.get? c = some o := fun c o hc e => hs₃.extBut c o hc (hs₂.extBut c o hc (up₁ c o e))
  exact h h₃ _ (frOf F hn₃ k) (newsOf N k)
theorem asg3 {a b c : Str} {pa pb pc tp : Pos} {kk : Nat} {T : Addr} {x y z : Value} {m : Str → Option Value} {n : List (Addr × Obj)} {Q : Unit → Shared → Prop} (hh : A.handled = none) (F : Fr h₀ env.locals s.heap m) (N : News h₀ env.locals s.heap n) (ht : IsTup s.heap T #[x, y, z])
    (ha : env.kindOf a = some .local) (hb : env.kindOf b = some .local) (hc : env.kindOf c = some .local) (hp : (env.scope.kind == .class || (env.scope.kind == .module && env.locals != env.globals)) = false)
    (h : ∀ (h' : Heap) (tk : Nat), Fr h₀ env.locals h' (fun i => if i = c then some z else if i = b then some y else if i = a then some x else m i) → News h₀ env.locals h' n → Q () { s with heap := h', toks := tk }) :
    wpAny (model prog w) A (assign (.Tuple [.Name a pa, .Name b pb, .Name c pc] kk tp) env (.ref T)) Q E s := by
  refine assign_Tuple_tuple hh ht rfl rfl fun h₁ he₁ => ?_
  have hn := F.ns
  have hL : env.locals ≠ s.heap.objs.size := Nat.ne_of_lt hn.lt
  have hn₁ : h₁.Ns env.locals m := hn.at' fun o e => he₁ _ o hL e
  have up₁ : ∀ c o, s.heap.get? c = some o → h₁.get? c = some o := fun c o e => he₁ c o (Nat.ne_of_lt (Heap.lt_size e)) e
  show wpAny _ _ (assignInOrder [assign (.Name a pa) env, assign (.Name b pb) env, assign (.Name c pc) env] [x, y, z]) _ _ _
  refine assignInOrder_cons ?_
  refine wpAny_assign_Name (wpAny_storeName_local ha hn₁ (fun h₂ hn₂ hs₂ => ?_) hp)
  refine assignInOrder_cons ?_
  refine wpAny_assign_Name (wpAny_storeName_local hb hn₂ (fun h₃ hn₃ hs₃ => ?_) hp)
  refine assignInOrder_cons ?_
  refine wpAny_assign_Name (wpAny_storeName_local hc hn₃ (fun h₄ hn₄ hs₄ => ?_) hp)
  refine assignInOrder_nil ?_
  have k : ∀ c o, c ≠ env.locals → s.heap.get? c = some o → h₄.get? c = some o := fun c o hc e => hs₄.extBut c o hc (hs₃.extBut c o hc (hs₂.extBut c o hc (up₁ c o e)))
  exact h h₄ _ (frOf F hn₄ k) (newsOf N k)
theorem appL {L D : Addr} {m : Str → Option Value} {ys : List Value} {x : Value} {n : List (Addr × Obj)} {g : Obj → List (Addr × Obj)} {Q : Value → Shared → Prop} (F : Fr h₀ L s.heap m) (N : News h₀ L s.heap n) (U : UpdF D (lst ys) n g) (hsz : ys.length ≤ sizeLine)
    (h : ∀ h', Fr h₀ L h' m → News h₀ L h' (g (lst (ys ++ [x]))) → Q .none { s with heap := h' }) :
    wpAny (model prog w) A (call (.builtin "list.append") [.ref D, x]) Q E s := by
  obtain ⟨pre, post, rfl, hg, a, b⟩ := U.split
  have hm := N (D, lst ys) (List.mem_append_right _ (.head _))
  refine wpAny_call_entry slot_list_append ⟨_, hm.1, rfl⟩ entry_list_append ?_ (args_list_append _ _)
  show wpAny _ _ (updateSeq D (·.push x) >>= fun _ => ret .none) _ _ s
  refine wpAny_bind ?_
  refine wpAny_updateSeq (f := (·.push x)) hm.1 rfl (hz := by simpa using hsz) (_hz' := by simpa using Nat.succ_le_succ hsz) (wpAny_pure ⟨.none, rfl, h _ (F.change (Heap.SameBut.update ..) hm.2.1 hm.2.2) ?_⟩)
  rw [hg]
  refine N.setIn a b (Heap.SameBut.update ..) ?_
  rw [Heap.get?_update_self _ hm.1 (by rw [Obj.mapSeq_push_plain]; rfl), Obj.mapSeq_push_plain, lst_snoc]
/-- the clause's loop begins -/
theorem startL {elt target iter : Expr} {ifs : List Expr} {rest : List Comprehension} {scope : Scope} {cl : List (Str × Addr)} {pos : Pos} {I : Addr} {fp : List Addr} {cls : String} {xs : List Itm} {m : Str → Option Value} {n : List (Addr × Obj)} {RR : Value → Addr → Result → Shared → Prop}
    (hcell : ∀ y ∈ scope.names, y.2 ≠ .cell) (hkind : scope.kind = .function) (F : Fr h₀ env.locals s.heap m) (N : News h₀ env.locals s.heap n) (S : Src prog w A target I fp cls xs s.heap)
    (k : ∀ D C oL h₁ tk, Fr h₀ C h₁ (fun _ => none) → News h₀ C h₁ ((D, lst []) :: (env.locals, oL) :: n) → NsObj oL m → Src prog w A target I fp cls xs h₁ → env.locals < D → D < C → (∀ p ∈ n, p.1 < D) → (∀ b o, s.heap.get? b = some o → h₁.get? b = some o ∧ b < D) →
      codeAny (model prog w) A (.compLoop (.ListComp elt (⟨target, iter, ifs, 0⟩ :: rest) scope pos) 0 (.ref I) (.ref D) (compEnvC scope cl C env)) (RR (.ref D) C) { s with heap := h₁, toks := tk }) :
    wpAny (model prog w) A (newList []) (fun acc s₃ => wpAny (model prog w) A (newFunctionEnv scope env.globals cl [] env.qual none .none (some env)) (fun cenv s₄ =>
      codeAny (model prog w) A (.compStart (.ListComp elt (⟨target, iter, ifs, 0⟩ :: rest) scope pos) 0 (.ref I) acc { cenv with scope := relabel scope env }) (RR acc cenv.locals) s₄) E s₃) E s := by
  refine wpAny_newObj_type (wpAny_newFunctionEnv hcell (by intro y hy; simp at hy) (fun h₁ hns₁ hsb₁ => ?_) hkind)
  dsimp only at hns₁ hsb₁ ⊢
  generalize hH2 : s.heap.push { cls := .type "list", dict := none, data := .seq ([] : List Value).toArray } = H2 at hns₁ hsb₁ ⊢
  have hC : H2.objs.size = s.heap.objs.size + 1 := by rw [← hH2, Heap.size_push]
  have old : ∀ b o, s.heap.get? b = some o → h₁.get? b = some o := fun b o e => hsb₁.extBut b o (by rw [hC]; exact Nat.ne_of_lt (Nat.lt_succ_of_lt (Heap.lt_size e))) (Heap.get?_push_of_some _ (hH2 ▸ Heap.get?_push_of_some _ e))
  have hacc : h₁.get? s.heap.objs.size = some (lst []) := hsb₁.extBut _ _ (by rw [hC]; exact Nat.ne_of_lt (Nat.lt_succ_self _)) (Heap.get?_push_of_some _ (hH2 ▸ Heap.get?_push_size _ rfl))
  obtain ⟨oL, hoL, hNs⟩ := ns_obj F.ns
  have fresh₀ : ∀ a, s.heap.objs.size ≤ a → h₀.get? a = none := fun a ha => by
    cases e : h₀.get? a with
    | none => rfl
    | some o' => exact absurd (Heap.lt_size (F.keep a o' e)) (Nat.not_lt.mpr ha)
  have hLlt : env.locals < s.heap.objs.size := F.ns.lt
  have F1 : Fr h₀ H2.objs.size h₁ (fun _ => none) := ⟨hns₁, fun b o e => old b o (F.keep b o e), by rw [hC]; exact Nat.le_trans F.above (Nat.le_of_lt (Nat.lt_succ_of_lt hLlt))⟩
  have N1 : News h₀ H2.objs.size h₁ ((s.heap.objs.size, lst []) :: (env.locals, oL) :: n) := by
    intro p hp
    rcases List.mem_cons.mp hp with rfl | hp
    · exact ⟨hacc, by rw [hC]; exact Nat.ne_of_lt (Nat.lt_succ_self _), fresh₀ _ (Nat.le_refl _)⟩
    · rcases List.mem_cons.mp hp with rfl | hp
      · exact ⟨old _ _ hoL, by rw [hC]; exact Nat.ne_of_lt (Nat.lt_succ_of_lt hLlt), Heap.get?_none_of_le F.above⟩
      · exact ⟨old _ _ (N p hp).1, by rw [hC]; exact Nat.ne_of_lt (Nat.lt_succ_of_lt (Heap.lt_size (N p hp).1)), (N p hp).2.2⟩
  have S1 := S.keeps old
  have loop := fun tk => k s.heap.objs.size H2.objs.size oL h₁ tk F1 N1 hNs S1 hLlt (by rw [hC]; exact Nat.lt_succ_self _) (fun p hp => Heap.lt_size (N p hp).1) (fun b o e => ⟨old b o e, Heap.lt_size e⟩)
  obtain ⟨nn, P, Md, St, hn, W, hP, hSt, h0, hself⟩ := S1
  exact codeAny_compStart_list (loop _) (hself _ _ _ h0 (loop _))
/-- the end of a block: back to the frame that it stands in -/
def COut (h₀ : Heap) (L : Addr) (m : Str → Option Value) (C D : Addr) (oL : Obj) (s₂ : Shared) (Q : Value → Shared → Prop) (r : Result) (s' : Shared) : Prop :=
  r = .ok .next ∧ ∃ o n' h' tk' mC, s' = { s₂ with heap := h', toks := tk' } ∧ Fr h₀ C h' mC ∧ News h₀ C h' ((D, o) :: (L, oL) :: n') ∧ (∀ p ∈ n', p.1 ≠ L) ∧
    ∀ h'' tk'', Fr h₀ L h'' m → News h₀ L h'' ((D, o) :: n') → Q (.ref D) { s₂ with heap := h'', toks := tk'' }
theorem cBack {h : Heap} {C D L : Addr} {oL o : Obj} {m mC : Str → Option Value} {n : List (Addr × Obj)} (F : Fr h₀ C h mC) (N : News h₀ C h ((D, o) :: (L, oL) :: n)) (hNs : NsObj oL m) (hL : h₀.objs.size ≤ L) (hDL : D ≠ L) (hn : ∀ p ∈ n, p.1 ≠ L) :
    ∀ h', Heap.SameBut C h h' → Fr h₀ L h' m ∧ News h₀ L h' ((D, o) :: n) := by
  intro h' hs
  have k : ∀ c o, c ≠ C → h.get? c = some o → h'.get? c = some o := fun c o hc e => hs.extBut c o hc e
  have NL := N (L, oL) (.tail _ (.head _))
  refine ⟨⟨hNs.ns (k _ _ NL.2.1 NL.1), fun b o e => k b o (fun q => by have := Heap.lt_size e; rw [q] at this; exact absurd this (Nat.not_lt.mpr F.above)) (F.keep b o e), hL⟩, fun p hp => ?_⟩
  rcases List.mem_cons.mp hp with rfl | hp
  · have := N _ (.head _)
    exact ⟨k _ _ this.2.1 this.1, hDL, this.2.2⟩
  · have := N p (.tail _ (.tail _ hp))
    exact ⟨k _ _ this.2.1 this.1, hn p hp, this.2.2⟩
theorem compList {elt target iter : Expr} {ifs : List Expr} {rest : List Comprehension} {scope : Scope} {cl : List (Str × Addr)} {pos : Pos} {Q : Value → Shared → Prop}
    (hclos : closureFor scope env = pure cl) (hcell : ∀ y ∈ scope.names, y.2 ≠ .cell) (hkind : scope.kind = .function) (hnames : ∀ y ∈ scope.names, y.2 = .local → scope.names.lookup y.1 = some .local)
    (h : wpAny (model prog w) A (eval iter env) (fun xv s₁ => wpAny (model prog w) A (pyIter xv) (fun it s₂ => ∃ I fp cls xs m n, it = .ref I ∧ Src prog w A target I fp cls xs s₂.heap ∧ Fr h₀ env.locals s₂.heap m ∧ News h₀ env.locals s₂.heap n ∧
      ∀ D C oL h₁ tk, Fr h₀ C h₁ (fun _ => none) → News h₀ C h₁ ((D, lst []) :: (env.locals, oL) :: n) → NsObj oL m → Src prog w A target I fp cls xs h₁ → env.locals < D → D < C → (∀ p ∈ n, p.1 < D) → (∀ b o, s₂.heap.get? b = some o → h₁.get? b = some o ∧ b < D) →
        codeAny (model prog w) A (.compLoop (.ListComp elt (⟨target, iter, ifs, 0⟩ :: rest) scope pos) 0 (.ref I) (.ref D) (compEnvC scope cl C env)) (COut h₀ env.locals m C D oL s₂ Q) { s₂ with heap := h₁, toks := tk }) E s₁) E s)
    (hs : ∀ x, foldedSetIterable iter env x = pure x := by intro _; rfl) :
    wpAny (model prog w) A (eval (.ListComp elt (⟨target, iter, ifs, 0⟩ :: rest) scope pos) env) Q E s := by
  rw [eval_ListComp]
  refine wpAny_comprehension_free (use := none) rfl hs hclos hkind hnames (wpAny_mono h (fun xv s₁ h₁ => wpAny_mono h₁ (fun it s₂ h₂ => ?_) fun _ _ e => e) fun _ _ e => e)
  obtain ⟨I, fp, cls, xs, m, n, rfl, S, F, N, k⟩ := h₂
  refine startL (RR := fun acc C => compPost (model prog w) A E none Q acc C) hcell hkind F N S fun D C oL h₁ tk F1 N1 hNs S1 l1 l2 l3 old => codeAny_mono (k D C oL h₁ tk F1 N1 hNs S1 l1 l2 l3 old) fun r s' hr => ?_
  obtain ⟨rfl, o, n', h', tk', mC, rfl, F', N', hn', fin⟩ := hr
  exact ⟨mC, F'.ns, fun h'' hs'' => by obtain ⟨x, y⟩ := cBack F' N' hNs F.above (Nat.ne_of_gt l1) hn' h'' hs''; exact fin h'' _ x y⟩
/-- the end of a block whose value goes to a name at once -/
def CUse (prog : Program) (w : World) (A : Around) (E : Value → Shared → Prop) (env : Env) (h₀ : Heap) (L : Addr) (m : Str → Option Value) (C D : Addr) (oL : Obj) (s₂ : Shared) (y : Str) (py : Pos) (Q : Flow → Shared → Prop) (r : Result) (s' : Shared) : Prop :=
  r = .ok .next ∧ ∃ o n' h' tk' mC, s' = { s₂ with heap := h', toks := tk' } ∧ Fr h₀ C h' mC ∧ News h₀ C h' ((D, o) :: (L, oL) :: n') ∧ (∀ p ∈ n', p.1 ≠ L) ∧
    ∀ oC h'' tk'', Fr h₀ L h'' m → News h₀ L h'' ((C, oC) :: (D, o) :: n') → wpAny (model prog w) A (assign (.Name y py) env (.ref D)) (fun _ s₃ => ∃ h₃ tk₃ m₃ n₃, s₃ = { s₂ with heap := h₃, toks := tk₃ } ∧ Fr h₀ L h₃ m₃ ∧ News h₀ L h₃ ((C, oC) :: n₃) ∧ (∀ p ∈ n₃, p.1 ≠ C) ∧
      ∀ h₄ tk₄, Fr h₀ L h₄ m₃ → News h₀ L h₄ n₃ → Q .next { s₂ with heap := h₄, toks := tk₄ }) E { s₂ with heap := h'', toks := tk'' }
theorem compUse {elt target iter : Expr} {ifs : List Expr} {rest : List Comprehension} {scope : Scope} {cl : List (Str × Addr)} {pos spos py : Pos} {y : Str} {Q : Flow → Shared → Prop}
    (hsw : swapsWith (.ListComp elt (⟨target, iter, ifs, 0⟩ :: rest) scope pos) (some (.Name y py)) spos.line env = pure true)
    (hclos : closureFor scope env = pure cl) (hcell : ∀ y ∈ scope.names, y.2 ≠ .cell) (hkind : scope.kind = .function) (hnames : ∀ y ∈ scope.names, y.2 = .local → scope.names.lookup y.1 = some .local)
    (h : wpAny (model prog w) A (eval iter env) (fun xv s₁ => wpAny (model prog w) A (pyIter xv) (fun it s₂ => ∃ I fp cls xs m n, it = .ref I ∧ Src prog w A target I fp cls xs s₂.heap ∧ Fr h₀ env.locals s₂.heap m ∧ News h₀ env.locals s₂.heap n ∧
      ∀ D C oL h₁ tk, Fr h₀ C h₁ (fun _ => none) → News h₀ C h₁ ((D, lst []) :: (env.locals, oL) :: n) → NsObj oL m → Src prog w A target I fp cls xs h₁ → env.locals < D → D < C → (∀ p ∈ n, p.1 < D) → (∀ b o, s₂.heap.get? b = some o → h₁.get? b = some o ∧ b < D) →
        codeAny (model prog w) A (.compLoop (.ListComp elt (⟨target, iter, ifs, 0⟩ :: rest) scope pos) 0 (.ref I) (.ref D) (compEnvC scope cl C env)) (CUse prog w A E env h₀ env.locals m C D oL s₂ y py Q) { s₂ with heap := h₁, toks := tk }) E s₁) E s)
    (hs : ∀ x, foldedSetIterable iter env x = pure x := by intro _; rfl) :
    wpAny (model prog w) A (exec (.Assign [.Name y py] (.ListComp elt (⟨target, iter, ifs, 0⟩ :: rest) scope pos) spos) env) Q E s := by
  rw [exec_Assign_Name_used _ _ _ _ hsw]
  refine wpAny_bind (wpAny_standAt (wpAny_bind ?_))
  show wpAny _ A (do let _ ← comprehension (.ListComp elt (⟨target, iter, ifs, 0⟩ :: rest) scope pos) scope env _ (newList []) false (eval iter env) (some (assign (.Name y py) env))) _ _ s
  refine wpAny_bind (wpAny_mono (wpAny_comprehension_free (use := some (assign (.Name y py) env)) (Q := fun _ s' => Q .next s') rfl hs hclos hkind hnames
    (wpAny_mono h (fun xv s₁ h₁ => wpAny_mono h₁ (fun it s₂ h₂ => ?_) fun _ _ e => e) fun _ _ e => e)) (fun _ s' hq => wpAny_pure (wpAny_pure hq)) fun _ _ e => e)
  obtain ⟨I, fp, cls, xs, m, n, rfl, S, F, N, k⟩ := h₂
  refine startL (RR := fun acc C => compPost (model prog w) A E (some (assign (.Name y py) env)) (fun _ s' => Q .next s') acc C) hcell hkind F N S fun D C oL h₁ tk F1 N1 hNs S1 l1 l2 l3 old => codeAny_mono (k D C oL h₁ tk F1 N1 hNs S1 l1 l2 l3 old) fun r s' hr => ?_
  obtain ⟨rfl, o, n', h', tk', mC, rfl, F', N', hn', fin⟩ := hr
  have hLC : env.locals ≠ C := Nat.ne_of_lt (Nat.lt_trans l1 l2)
  obtain ⟨oC, hoC, hNC⟩ := ns_obj F'.ns
  have hC₀ : h₀.get? C = none := Heap.get?_none_of_le F'.above
  have NL := N' (env.locals, oL) (.tail _ (.head _))
  have F2 : Fr h₀ env.locals h' m := ⟨hNs.ns NL.1, F'.keep, F.above⟩
  have N2 : News h₀ env.locals h' ((C, oC) :: (D, o) :: n') := by
    intro p hp
    rcases List.mem_cons.mp hp with rfl | hp
    · exact ⟨hoC, Ne.symm hLC, hC₀⟩
    · rcases List.mem_cons.mp hp with rfl | hp
      · have := N' _ (.head _)
        exact ⟨this.1, Nat.ne_of_gt l1, this.2.2⟩
      · have := N' p (.tail _ (.tail _ hp))
        exact ⟨this.1, hn' p hp, this.2.2⟩
  show wpAny _ A (assign (.Name y py) env (.ref D)) _ _ _
  refine wpAny_mono (fin oC h' _ F2 N2) (fun _ s₃ x => ?_) fun _ _ e => e
  obtain ⟨h₃, tk₃, m₃, n₃, rfl, F3, N3, ho, fin⟩ := x
  refine ⟨_, hNC.ns (N3 _ (.head _)).1, fun h₄ hs₄ => ?_⟩
  have kk : ∀ c o, c ≠ C → h₃.get? c = some o → h₄.get? c = some o := fun c o hc e => hs₄.extBut c o hc e
  exact fin h₄ _ (F3.change hs₄ (Ne.symm hLC) hC₀) fun p hp => ⟨kk _ _ (ho p hp) (N3 p (.tail _ hp)).1, (N3 p (.tail _ hp)).2⟩
/-- the clause's loop begins, a dict's block -/
theorem startD {kx vx target iter : Expr} {ifs : List Expr} {rest : List Comprehension} {scope : Scope} {cl : List (Str × Addr)} {pos : Pos} {I : Addr} {fp : List Addr} {cls : String} {xs : List Itm} {m : Str → Option Value} {n : List (Addr × Obj)} {RR : Value → Addr → Result → Shared → Prop}
    (hcell : ∀ y ∈ scope.names, y.2 ≠ .cell) (hkind : scope.kind = .function) (F : Fr h₀ env.locals s.heap m) (N : News h₀ env.locals s.heap n) (S : Src prog w A target I fp cls xs s.heap)
    (k : ∀ D C oL h₁ tk, Fr h₀ C h₁ (fun _ => none) → News h₀ C h₁ ((D, { cls := .type "dict", data := .dict #[] }) :: (env.locals, oL) :: n) → NsObj oL m → Src prog w A target I fp cls xs h₁ → env.locals < D → D < C → (∀ p ∈ n, p.1 < D) → (∀ b o, s.heap.get? b = some o → h₁.get? b = some o ∧ b < D) →
      codeAny (model prog w) A (.compLoop (.DictComp kx vx (⟨target, iter, ifs, 0⟩ :: rest) scope pos) 0 (.ref I) (.ref D) (compEnvC scope cl C env)) (RR (.ref D) C) { s with heap := h₁, toks := tk }) :
    wpAny (model prog w) A (newDict) (fun acc s₃ => wpAny (model prog w) A (newFunctionEnv scope env.globals cl [] env.qual none .none (some env)) (fun cenv s₄ =>
      codeAny (model prog w) A (.compStart (.DictComp kx vx (⟨target, iter, ifs, 0⟩ :: rest) scope pos) 0 (.ref I) acc { cenv with scope := relabel scope env }) (RR acc cenv.locals) s₄) E s₃) E s := by
  refine wpAny_newObj_type (wpAny_newFunctionEnv hcell (by intro y hy; simp at hy) (fun h₁ hns₁ hsb₁ => ?_) hkind)
  dsimp only at hns₁ hsb₁ ⊢
  generalize hH2 : s.heap.push { cls := .type "dict", dict := none, data := .dict #[] } = H2 at hns₁ hsb₁ ⊢
  have hC : H2.objs.size = s.heap.objs.size + 1 := by rw [← hH2, Heap.size_push]
  have old : ∀ b o, s.heap.get? b = some o → h₁.get? b = some o := fun b o e => hsb₁.extBut b o (by rw [hC]; exact Nat.ne_of_lt (Nat.lt_succ_of_lt (Heap.lt_size e))) (Heap.get?_push_of_some _ (hH2 ▸ Heap.get?_push_of_some _ e))
  have hacc : h₁.get? s.heap.objs.size = some { cls := .type "dict", dict := none, data := .dict #[] } := hsb₁.extBut _ _ (by rw [hC]; exact Nat.ne_of_lt (Nat.lt_succ_self _)) (Heap.get?_push_of_some _ (hH2 ▸ Heap.get?_push_size _ rfl))
  obtain ⟨oL, hoL, hNs⟩ := ns_obj F.ns
  have fresh₀ : ∀ a, s.heap.objs.size ≤ a → h₀.get? a = none := fun a ha => by
    cases e : h₀.get? a with
    | none => rfl
    | some o' => exact absurd (Heap.lt_size (F.keep a o' e)) (Nat.not_lt.mpr ha)
  have hLlt : env.locals < s.heap.objs.size := F.ns.lt
  have F1 : Fr h₀ H2.objs.size h₁ (fun _ => none) := ⟨hns₁, fun b o e => old b o (F.keep b o e), by rw [hC]; exact Nat.le_trans F.above (Nat.le_of_lt (Nat.lt_succ_of_lt hLlt))⟩
  have N1 : News h₀ H2.objs.size h₁ ((s.heap.objs.size, { cls := .type "dict", dict := none, data := .dict #[] }) :: (env.locals, oL) :: n) := by
    intro p hp
    rcases List.mem_cons.mp hp with rfl | hp
    · exact ⟨hacc, by rw [hC]; exact Nat.ne_of_lt (Nat.lt_succ_self _), fresh₀ _ (Nat.le_refl _)⟩
    · rcases List.mem_cons.mp hp with rfl | hp
      · exact ⟨old _ _ hoL, by rw [hC]; exact Nat.ne_of_lt (Nat.lt_succ_of_lt hLlt), Heap.get?_none_of_le F.above⟩
      · exact ⟨old _ _ (N p hp).1, by rw [hC]; exact Nat.ne_of_lt (Nat.lt_succ_of_lt (Heap.lt_size (N p hp).1)), (N p hp).2.2⟩
  have S1 := S.keeps old
  have loop := fun tk => k s.heap.objs.size H2.objs.size oL h₁ tk F1 N1 hNs S1 hLlt (by rw [hC]; exact Nat.lt_succ_self _) (fun p hp => Heap.lt_size (N p hp).1) (fun b o e => ⟨old b o e, Heap.lt_size e⟩)
  obtain ⟨nn, P, Md, St, hn, W, hP, hSt, h0, hself⟩ := S1
  exact codeAny_compStart_dict (loop _) (hself _ _ _ h0 (loop _))
theorem compDict {kx vx target iter : Expr} {ifs : List Expr} {rest : List Comprehension} {scope : Scope} {cl : List (Str × Addr)} {pos : Pos} {Q : Value → Shared → Prop}
    (hclos : closureFor scope env = pure cl) (hcell : ∀ y ∈ scope.names, y.2 ≠ .cell) (hkind : scope.kind = .function) (hnames : ∀ y ∈ scope.names, y.2 = .local → scope.names.lookup y.1 = some .local)
    (h : wpAny (model prog w) A (eval iter env) (fun xv s₁ => wpAny (model prog w) A (pyIter xv) (fun it s₂ => ∃ I fp cls xs m n, it = .ref I ∧ Src prog w A target I fp cls xs s₂.heap ∧ Fr h₀ env.locals s₂.heap m ∧ News h₀ env.locals s₂.heap n ∧
      ∀ D C oL h₁ tk, Fr h₀ C h₁ (fun _ => none) → News h₀ C h₁ ((D, { cls := .type "dict", data := .dict #[] }) :: (env.locals, oL) :: n) → NsObj oL m → Src prog w A target I fp cls xs h₁ → env.locals < D → D < C → (∀ p ∈ n, p.1 < D) → (∀ b o, s₂.heap.get? b = some o → h₁.get? b = some o ∧ b < D) →
        codeAny (model prog w) A (.compLoop (.DictComp kx vx (⟨target, iter, ifs, 0⟩ :: rest) scope pos) 0 (.ref I) (.ref D) (compEnvC scope cl C env)) (COut h₀ env.locals m C D oL s₂ Q) { s₂ with heap := h₁, toks := tk }) E s₁) E s)
    (hs : ∀ x, foldedSetIterable iter env x = pure x := by intro _; rfl) :
    wpAny (model prog w) A (eval (.DictComp kx vx (⟨target, iter, ifs, 0⟩ :: rest) scope pos) env) Q E s := by
  rw [arm_eval_DictComp]
  refine wpAny_comprehension_free (use := none) rfl hs hclos hkind hnames (wpAny_mono h (fun xv s₁ h₁ => wpAny_mono h₁ (fun it s₂ h₂ => ?_) fun _ _ e => e) fun _ _ e => e)
  obtain ⟨I, fp, cls, xs, m, n, rfl, S, F, N, k⟩ := h₂
  refine startD (RR := fun acc C => compPost (model prog w) A E none Q acc C) hcell hkind F N S fun D C oL h₁ tk F1 N1 hNs S1 l1 l2 l3 old => codeAny_mono (k D C oL h₁ tk F1 N1 hNs S1 l1 l2 l3 old) fun r s' hr => ?_
  obtain ⟨rfl, o, n', h', tk', mC, rfl, F', N', hn', fin⟩ := hr
  exact ⟨mC, F'.ns, fun h'' hs'' => by obtain ⟨x, y⟩ := cBack F' N' hNs F.above (Nat.ne_of_gt l1) hn' h'' hs''; exact fin h'' _ x y⟩
/-- the next clause's loop -/
theorem nextC {elt target iter iter' : Expr} {ifs : List Expr} {gens : List Comprehension} {scope : Scope} {pos : Pos} {depth : Nat} {acc : Value} {G : Shared → Prop}
    (hg : gens[depth + 1]? = some ⟨target, iter, ifs, 0⟩)
    (h : wpAny (model prog w) A (eval iter' env) (fun xv s₁ => wpAny (model prog w) A (pyIter xv) (fun it s₂ => ∃ I fp cls xs, it = .ref I ∧ Src prog w A target I fp cls xs s₂.heap ∧
      ∀ tk, codeAny (model prog w) A (.compLoop (.ListComp elt gens scope pos) (depth + 1) (.ref I) acc env) (fun r s' => r = .ok .next ∧ G s') { s₂ with toks := tk }) E s₁) E s) :
    nextClause prog w A (.ListComp elt gens scope pos) iter' depth acc env G E s := by
  unfold nextClause
  refine wpAny_mono h (fun x s₁ h₁ => wpAny_mono h₁ (fun it s₂ h₂ => ?_) fun _ _ e => e) fun _ _ e => e
  obtain ⟨I, fp, cls, xs, rfl, S, k⟩ := h₂
  refine wpAny_runOwn ?_
  have loop : codeAny (model prog w) A (.compLoop (.ListComp elt gens scope pos) (depth + 1) (.ref I) acc env) (fun r s' => match r with | .ok _ => G s' | .error e => cameBackBy (model prog w) A env E e s') s₂ := codeAny_mono (k s₂.toks) fun r s' hr => by
    obtain ⟨rfl, hG⟩ := hr
    exact hG
  obtain ⟨nn, P, Md, St, hn, W, hP, hSt, h0, hself⟩ := S
  refine codeAny_of_tree ?_
  show wpAny _ _ ((compStart (.ListComp elt gens scope pos) (depth + 1) (.ref I) acc env).onRaise (fun x => do noteFrame x env; standAt theWindowsPlace)) _ _ s₂
  refine wpAny_notedAt ?_
  have hc : clausesOf (.ListComp elt gens scope pos) = gens := rfl
  unfold compStart
  simp only [hc, hg]
  show wpAny _ _ (ask >>= _) _ _ s₂
  refine wpAny_bind (wpAny_askSetting (wpAny_ite ?_))
  split
  · first
      | exact wpAny_bind (wpAny_pure (wpAny_pure (And.intro rfl loop)))
      | exact wpAny_pure (And.intro rfl loop)
  · refine wpAny_bind (wpAny_rule ?_)
    first
      | exact wpAny_bind (wpAny_standAt (wpAny_bind (hself _ _ _ h0 (wpAny_pure (And.intro rfl loop)))))
      | (show wpAny _ _ (standAt iter.pos >>= _) _ _ s₂; exact wpAny_bind (wpAny_standAt (wpAny_bind (hself _ _ _ h0 (wpAny_pure (And.intro rfl loop))))))
end
end Mine
end
section
open PySem PySem.W PyProof.Rows PySem.Calls PyProof.Rows.LCg
set_option Elab.async false
set_option maxRecDepth 100000
set_option maxHeartbeats 400000
namespace Mine
section
variable {prog : Program} {w : World} {A : Around} {E : Value → Shared → Prop} {s : Shared} {h₀ : Heap} {L : Addr} {m : Str → Option Value} {news : List (Addr × Obj)} {K : Type} [DecidableEq K] {knd : KeyKind prog w K}
theorem Src.at {target : Expr} {I : Addr} {fp : List Addr} {cls : String} {xs : List Itm} {h : Heap} (S : Src prog w A target I fp cls xs h) : ∃ o, h.get? I = some o := by
  obtain ⟨n, P, Md, St, hn, W, a, b, c, d⟩ := S
  obtain ⟨o, ho, _⟩ := b _ _ c
  exact ⟨o, ho⟩
theorem srcItems {vw u : Addr} {ou : Obj} {kvs : List (K × Value)} {Q : Value → Shared → Prop} (hh : A.handled = none) (F : Fr h₀ L s.heap m) (N : News h₀ L s.heap news) (hv : s.heap.IsItemsView vw u) (hm : (u, ou) ∈ news) (hd : ou.IsDictOf knd kvs)
    (f : K → Tok → Value) (hf : ∀ k v, knd.is k v = true → ∃ t, v = f k t)
    (k : ∀ I h', Fr h₀ L h' m → News h₀ L h' news → (∀ p ∈ news, p.1 < I) → L < I → h₀.get? I = none → (∀ elts kk pos, Src prog w A (.Tuple elts kk pos) I [I, u] "dict_itemiterator" (kvs.map fun p => Itm.pair (f p.1) p.2) h') → Q (.ref I) { s with heap := h' }) :
    wpAny (model prog w) A (pyIter (.ref vw)) Q E s := by
  obtain ⟨ep, hat⟩ := KdkAt.of hd
  have hda := hat.dictAt (N _ hm).1
  refine wpAny_pyIter_items hv hda ?_
  refine k _ _ (F.push _) (fun p hp => ⟨Heap.get?_push_of_some _ (N p hp).1, (N p hp).2⟩) (fun p hp => Heap.lt_size (N p hp).1) F.ns.lt (next_is_new F) ?_
  exact fun elts kk pos => Src.items (knd := knd) (ep := ep) hh (Nat.ne_of_lt (Heap.lt_size (N _ hm).1)) f hf ⟨.none, .none, Heap.get?_push_size _ rfl⟩ (hda.push _)
theorem srcList {l : Addr} {ol : Obj} {vs : List Value} {n : Nat} {Q : Value → Shared → Prop} (hh : A.handled = none) (F : Fr h₀ L s.heap m) (N : News h₀ L s.heap news) (hm : (l, ol) ∈ news) (hc : ol.cls = .type "list") (hd : ol.data = .seq vs.toArray n)
    (k : ∀ I h', Fr h₀ L h' m → News h₀ L h' news → (∀ p ∈ news, p.1 < I) → L < I → h₀.get? I = none → (∀ target, Src prog w A target I [I, l] "list_iterator" (vs.map .val) h') → Q (.ref I) { s with heap := h' }) :
    wpAny (model prog w) A (pyIter (.ref l)) Q E s := by
  have hl : s.heap.IsList l vs.toArray := ⟨ol, (N _ hm).1, hc, n, hd⟩
  refine wpAny_pyIter_list hl ?_
  refine k _ _ (F.push _) (fun p hp => ⟨Heap.get?_push_of_some _ (N p hp).1, (N p hp).2⟩) (fun p hp => Heap.lt_size (N p hp).1) F.ns.lt (next_is_new F) ?_
  exact fun target => Src.list hh (Nat.ne_of_lt (Heap.lt_size (N _ hm).1)) ⟨_, Heap.get?_push_size _ rfl, rfl, rfl⟩ (hl.push _)
theorem dictSetN {d : Addr} {o : Obj} {g : Obj → List (Addr × Obj)} {kvs : List (K × Value)} {k : K} {key v : Value} {Q : Unit → Shared → Prop} (F : Fr h₀ L s.heap m) (N : News h₀ L s.heap news) (U : UpdF d o news g) (hd : o.IsDictOf knd kvs) (hkey : knd.is k key = true) (hsz : kvs.length ≤ sizeLine)
    (h : ∀ h' o', Fr h₀ L h' m → News h₀ L h' (g o') → o'.IsDictOf knd (stored kvs k v) → Q () { s with heap := h', toks := s.toks + 1 }) : wpAny (model prog w) A (dictSet d key v) Q E s := by
  obtain ⟨pre, post, rfl, hg, a, b⟩ := U.split
  have hm := N (d, o) (List.mem_append_right _ (.head _))
  refine wpAny_dictSet_pairs (hsz := hsz) hkey (Heap.dictOf_iff.mpr ⟨o, hm.1, hd⟩) fun h' hmm hs => ?_
  obtain ⟨o', ho', hd'⟩ := Heap.dictOf_iff.mp hmm
  exact h h' o' (F.change hs hm.2.1 hm.2.2) (hg o' ▸ N.setIn a b hs ho') hd'
end
end Mine
end
section
open PySem PySem.W PyProof.Rows
set_option Elab.async false
set_option maxRecDepth 100000
set_option maxHeartbeats 4000000
namespace Mine
theorem warmX4 : (fun (_ : Params → Frag) (_ : OpenLaw) => True) KF Challenge.rw_in0007_01 := by
  k_fill
  trivial
theorem ty_miss : typeOf (.builtin "collections.defaultdict.__missing__") = pure (.type "method_descriptor") := by show builtinType _ = _; rw [builtinType_eq_fast]; kernel_rfl
theorem lk_get : typeLookup (.type "method_descriptor") "__get__" = pure (some (.builtin "method_descriptor.__get__")) := by rw [typeLookup_type, builtinLookup_eq_fast]; kernel_rfl
theorem own_miss : fastBuiltinOwn "collections.defaultdict" (Str.ofString "__missing__") = some (.builtin "collections.defaultdict.__missing__") := by kernel_rfl
/-- what a run's end hands on -/
def RetX (h : Heap) (P : Value → List (Addr × Obj) → Nat → Prop) (Q : Value → Shared → Prop) (g : Array GenState) (dr : Drawn) (os : OsState) : Prop := ∀ v h' t' news, W.X.Mem h h' [] news → P v news t' → Q v ⟨h', g, dr, t', os⟩
theorem RetX.use {h h' : Heap} {P : Value → List (Addr × Obj) → Nat → Prop} {Q : Value → Shared → Prop} {g : Array GenState} {dr : Drawn} {os : OsState} {v : Value} {t : Nat} {news : List (Addr × Obj)} (r : RetX h P Q g dr os) (D : W.X.Mem h h' [] news) (p : P v news t) : Q v ⟨h', g, dr, t, os⟩ := r _ _ _ _ D p
local macro_rules | `(tactic| x_close) => `(tactic| (refine RetX.use (by assumption) (by assumption) ?_; first | exact ⟨_, rfl, rfl⟩ | exact ⟨_, _, rfl, rfl⟩))
abbrev boundMiss (d : Addr) : Obj := ⟨.type "builtin_function_or_method", none, .fields #[.builtin "collections.defaultdict.__missing__", .ref d], #[]⟩
theorem bind_miss {w : World} {A : Around} {Q E : Value → Shared → Prop} {h : Heap} {g : Array GenState} {dr : Drawn} {t : Nat} {os : OsState} {d dx : Addr} {es : Array DictEntry} {ep : Nat}
    (X : (KF w.params).In h) (hd : h.get? d = some ⟨.ref (nat_lit 122), some dx, .dict es ep, #[some (.ref (nat_lit 227))]⟩)
    (ret : RetX h (fun v news _ => ∃ a, v = .ref a ∧ news = [(a, boundMiss d)]) Q g dr os) :
    wpAny (model pw w) A (call (.builtin "method_descriptor.__get__") [.builtin "collections.defaultdict.__missing__", .ref d, .ref (nat_lit 122)]) Q E ⟨h, g, dr, t, os⟩ := by
  x_run
end Mine
end
section
open PySem PySem.W PyProof.Rows
set_option Elab.async false
set_option maxRecDepth 100000
set_option maxHeartbeats 400000
namespace Mine
theorem warmMiss : (fun (_ : Params → Frag) (_ : OpenLaw) => True) KF Challenge.rw_in0007_01 := by
  k_fill
  trivial
theorem ne_cls {K : Frag} {h : Heap} {x C : Addr} {cd : ClassData} {ox : Obj} (X : K.In h) (hc : clsIn K C = some cd) (hx : h.get? x = some ox) (hn : notCls ox = true) : x ≠ C := by
  rintro rfl
  unfold clsIn at hc
  split at hc
  · rename_i c d cd' sl ho
    have e := X _ _ ho
    rw [hx] at e
    cases e
    exact Bool.noConfusion hn
  · cases hc
section
variable {w : World} {A : Around} {E : Value → Shared → Prop} {h : Heap} {g : Array GenState} {dr : Drawn} {t : Nat} {os : OsState} {d dx so : Addr} {es : Array DictEntry} {ep : Nat}
theorem sup_ga {tk : Tok} {Q : Fin → Shared → Prop} (X : (KF w.params).In h)
    (hd : h.get? d = some ⟨.ref (nat_lit 122), some dx, .dict es ep, #[some (.ref (nat_lit 227))]⟩)
    (hso : h.get? so = some ⟨.type "super", none, .fields #[.ref (nat_lit 122), .ref d, .ref (nat_lit 122)], #[]⟩)
    (ret : RetX h (fun v news _ => ∃ a, v = .ref a ∧ news = [(a, boundMiss d)]) (fun v s' => Q (.done (.ret v)) s') g dr os) :
    wpAny (model pw w) A (Builtin.«super.__getattribute__» ⟨[.ref so, .str (Str.ofString "__missing__") tk], []⟩) Q E ⟨h, g, dr, t, os⟩ := by
  have hno : Looks (model pw w) h (opaqueClassAbove (.ref (nat_lit 122))) none := looks_opaque X (by k_is)
  have hm0 : (clsIn (KF w.params) (nat_lit 122)).map (·.mro) = some [.ref (nat_lit 122), .type "collections.defaultdict", .type "dict", .type "object"] := by kernel_rfl
  obtain ⟨cd, hcd, hmro⟩ := Option.map_eq_some_iff.mp hm0
  have hC : Looks (model pw w) h (mroOf (.ref (nat_lit 122))) [.ref (nat_lit 122), .type "collections.defaultdict", .type "dict", .type "object"] := hmro ▸ (looks_clsIn X hcd).andThen .now
  have hl : (([.ref (nat_lit 122), .type "collections.defaultdict", .type "dict", .type "object"] : List Value).dropWhile (· != .ref (nat_lit 122))).drop 1 = [.type "collections.defaultdict", .type "dict", .type "object"] := by decide
  have own1 : classOwn (.type "collections.defaultdict") (Str.ofString "__missing__") = pure (some (.builtin "collections.defaultdict.__missing__")) := by
    show pure (builtinOwn _ _) = _
    rw [builtinOwn_eq_fast, own_miss]
  have hn : ((Str.ofString "__missing__") == ("__class__" : Str)) = false := by decide
  have hxC : d ≠ (nat_lit 122) := ne_cls X hcd hd rfl
  have hne : (Value.ref d == Value.ref (nat_lit 122)) = false := by simp [hxC]
  have hdt : ({ cls := .type "super", dict := none, data := .fields #[.ref (nat_lit 122), .ref d, .ref (nat_lit 122)], slots := #[] } : Obj).data = .fields #[.ref (nat_lit 122), .ref d, .ref (nat_lit 122)] := rfl
  have f0 : (#[.ref (nat_lit 122), .ref d, .ref (nat_lit 122)] : Array Value)[0]? = some (.ref (nat_lit 122)) := rfl
  have f1 : (#[.ref (nat_lit 122), .ref d, .ref (nat_lit 122)] : Array Value)[1]? = some (.ref d) := rfl
  have f2 : (#[.ref (nat_lit 122), .ref d, .ref (nat_lit 122)] : Array Value)[2]? = some (.ref (nat_lit 122)) := rfl
  unfold Builtin.«super.__getattribute__»
  repeat (first
    | (with_reducible refine wpAny_field hso hdt f0 ?_) | (with_reducible refine wpAny_field hso hdt f1 ?_) | (with_reducible refine wpAny_field hso hdt f2 ?_)
    | (with_reducible refine ks_wpAny_notOpaque hno ?_)
    | (with_reducible refine Looks.at hC ?_; rw [hl])
    | ((with_reducible show wpAny _ _ (forIn _ _ _) _ _ _); rw [List.forIn_cons]; with_reducible refine wpAny_bind (wpAny_bind (wpAny_of_eq own1 ?_)))
    | (with_reducible refine wpAny_of_eq ty_miss ?_)
    | (with_reducible refine wpAny_of_eq lk_get ?_)
    | (simp only [hn, hne, Bool.or_false, Bool.false_eq_true, if_false])
    | (with_reducible refine bind_miss (dx := dx) (es := es) (ep := ep) X hd ?_)
    | wp_step
    | dsimp only)
  intro v h' t' news D hv
  obtain ⟨a, rfl, rfl⟩ := hv
  exact wpAny_pure (wpAny_pure (wpAny_pure (ret _ _ _ _ D ⟨a, rfl, rfl⟩)))
theorem sup_get {Q : Value → Shared → Prop} (X : (KF w.params).In h)
    (hd : h.get? d = some ⟨.ref (nat_lit 122), some dx, .dict es ep, #[some (.ref (nat_lit 227))]⟩)
    (hso : h.get? so = some ⟨.type "super", none, .fields #[.ref (nat_lit 122), .ref d, .ref (nat_lit 122)], #[]⟩)
    (ret : RetX h (fun v news _ => ∃ a, v = .ref a ∧ news = [(a, boundMiss d)]) Q g dr os) :
    wpAny (model pw w) A (getAttr (.ref so) (Str.ofString "__missing__") true) Q E ⟨h, g, dr, t, os⟩ := by
  have hlk := F.ks_slot_super_ga.lookup
  have hT : ∀ t', (⟨h, g, dr, t', os⟩ : Shared).TypeIs (.ref so) "super" := fun _ => ⟨_, hso, rfl⟩
  unfold getAttr getAttrBy
  refine wpAny_bind (wpAny_mkText (wpAny_holding (wpAny_bind (wpAny_typeOf (hT _) (wpAny_bind (wpAny_of_eq hlk ?_))))))
  show wpAny _ _ (getAttrByItsOwn (.ref so) (.str (Str.ofString "__missing__") t) (.type "super") (.builtin "super.__getattribute__") true true) _ _ _
  unfold getAttrByItsOwn hookBefore callGetattribute boundAndCalled
  refine wpAny_bind (wpAny_of_eq (show (if onTheHeap (.type "super") then typeLookup (.type "super") "__getattr__" else pure none) = pure none from rfl) ?_)
  refine wpAny_bind (wpAny_attempt (wpAny_holding ?_))
  show wpAny _ _ (bindSpecial (.builtin "super.__getattribute__") (.ref so) >>= _) _ _ _
  refine wpAny_bind (wpAny_of_eq (F.ks_slot_super_ga.bind _) ?_)
  refine wpAny_call_entry F.ks_slot_super_ga (hT _) F.ks_entry_super_ga (sup_ga X hd hso ?_) (F.ks_gaArgs_super _ _)
  intro v h' t' news D hv
  obtain ⟨a, rfl, rfl⟩ := hv
  exact ⟨_, rfl, handed_on rfl (ret _ _ _ _ D ⟨a, rfl, rfl⟩)⟩
end
end Mine
end
section
open PySem PySem.W PyProof.Rows
set_option Elab.async false
set_option maxRecDepth 100000
set_option maxHeartbeats 400000
namespace Mine
abbrev bookObj (dx : Addr) (es : Array DictEntry) (ep : Nat) : Obj := ⟨.ref (nat_lit 122), some dx, .dict es ep, #[some (.ref (nat_lit 227))]⟩
section
variable {prog : Program} {w : World} {K : Type} [DecidableEq K] {A : Around} {E : Value → Shared → Prop} {s : Shared}
def BookDat (knd : KeyKind prog w K) (es : Array DictEntry) (kvs : List (K × Value)) : Prop := KeysOf knd es ∧ Pairs knd es.toList kvs ∧ (kvs.map (·.1)).Nodup
variable {knd : KeyKind prog w K} {d dx : Addr} {es : Array DictEntry} {ep : Nat} {kvs : List (K × Value)} {k : K} {key v : Value}
theorem BookDat.idx (B : BookDat knd es kvs) (k : K) : (es.findIdx? fun e => knd.is k e.key) = kvs.findIdx? fun kv => decide (kv.1 = k) := by
  rw [← B.2.1.findIdx k]; obtain ⟨l⟩ := es; simp
theorem BookDat.size (B : BookDat knd es kvs) : es.size = kvs.length := by
  have e1 := B.2.1.length
  have e2 : es.toList.length = es.size := by simp
  omega
theorem BookDat.find (B : BookDat knd es kvs) (k : K) : (match (es.findIdx? fun e => knd.is k e.key) with | some i => (es[i]?).map (·.val) | none => none) = valueAt kvs k := by
  have e := findBy_of_findIdx? (P := knd.is) (k := k) (es := es)
  have e2 : findBy knd.is es k = valueAt kvs k := by
    rw [← B.2.1.find k]
    obtain ⟨l⟩ := es
    simp [findBy]
  rw [← e2, e]
  cases es.findIdx? fun e => knd.is k e.key <;> rfl
theorem bk_get {o : Obj} {Q : Option Value → Shared → Prop} (hkey : knd.is k key = true) (ho : s.heap.get? d = some o) (hd : o.data = .dict es ep) (B : BookDat knd es kvs)
    (h : Q (valueAt kvs k) { s with toks := s.toks + 1 }) : wpAny (model prog w) A (dictGet d key) Q E s := by
  unfold dictGet
  try with_reducible refine wpAny_holding ?_
  refine wpAny_bind (knd.pyHash hkey (wpAny_bind (wpAny_dictFind_of (s := { s with toks := s.toks + 1 }) hkey ho hd B.1 ?_)))
  rw [← B.find k] at h
  cases hi : es.findIdx? fun e => knd.is k e.key with
  | none => rw [hi] at h; exact wpAny_pure h
  | some i => rw [hi] at h; exact wpAny_bind (wpAny_dictEntries (s := { s with toks := s.toks + 1 }) ho hd (wpAny_pure h))
theorem BookDat.put (B : BookDat knd es kvs) {i : Nat} (hi : (es.findIdx? fun e => knd.is k e.key) = some i) : BookDat knd (es.modify i fun e => { e with val := v }) (stored kvs k v) := by
  have hidx := B.idx k
  refine ⟨B.1.modify _ _, ?_, ?_⟩
  · rw [stored, if_pos (any_of_findIdx_some (hidx ▸ hi))]
    have hl : (es.toList.findIdx? fun e => knd.is k e.key) = some i := by rw [← hi]; obtain ⟨l⟩ := es; simp
    have := B.2.1.modify B.2.2 hl v
    obtain ⟨l⟩ := es
    simpa using this
  · rw [stored, if_pos (any_of_findIdx_some (hidx ▸ hi)), keys_map_store]; exact B.2.2
theorem BookDat.new (B : BookDat knd es kvs) (hkey : knd.is k key = true) (hi : (es.findIdx? fun e => knd.is k e.key) = none) : BookDat knd (es.push ⟨knd.hash k, key, v⟩) (stored kvs k v) := by
  have hidx := B.idx k
  have hnot : k ∉ kvs.map (·.1) := not_mem_of_findIdx_none (hidx ▸ hi)
  have hany : ¬ (kvs.any fun kv => decide (kv.1 = k)) = true := by
    rw [List.any_eq_true]; rintro ⟨kv, hkv, he⟩
    exact hnot (List.mem_map.mpr ⟨kv, hkv, of_decide_eq_true he⟩)
  refine ⟨B.1.push hkey _, ?_, ?_⟩
  · rw [stored, if_neg hany]
    have := B.2.1.append hkey (knd.hash k) v
    obtain ⟨l⟩ := es
    simpa using this
  · rw [stored, if_neg hany, List.map_append, List.nodup_append]
    refine ⟨B.2.2, by simp, ?_⟩
    intro a ha b hb
    simp only [List.map_cons, List.map_nil, List.mem_singleton] at hb
    subst hb
    exact fun e => hnot (e ▸ ha)
theorem bk_set {Q : Unit → Shared → Prop} (hkey : knd.is k key = true) (ho : s.heap.get? d = some (bookObj dx es ep)) (B : BookDat knd es kvs) (hsz : kvs.length ≤ sizeLine)
    (hQ : ∀ h' es' ep', h'.get? d = some (bookObj dx es' ep') → BookDat knd es' (stored kvs k v) → Heap.SameBut d s.heap h' → Q () { s with heap := h', toks := s.toks + 1 }) :
    wpAny (model prog w) A (dictSet d key v) Q E s := by
  have hes : es.size ≤ sizeLine := by rw [B.size]; exact hsz
  unfold dictSet
  try with_reducible refine wpAny_holding ?_
  refine wpAny_bind (knd.pyHash hkey ?_)
  unfold dictSetHashed
  try with_reducible refine wpAny_holding ?_
  refine wpAny_bind (wpAny_dictFind_of (s := { s with toks := s.toks + 1 }) hkey ho rfl B.1 ?_)
  cases hi : es.findIdx? fun e => knd.is k e.key with
  | some i =>
    exact wpAny_bind (wpAny_rule (wpAny_bind (wpAny_updateDict (s := { s with toks := s.toks + 1 }) ho rfl (wpAny_point (hQ _ _ _ (Heap.get?_update_self _ ho rfl) (B.put hi) (Heap.SameBut.update ..))))))
  | none =>
    exact wpAny_bind (wpAny_rule (wpAny_updateDictKeys (hz := hes) (s := { s with toks := s.toks + 1 }) ho rfl (hQ _ _ _ (Heap.get?_update_self _ ho rfl) (B.new hkey hi) (Heap.SameBut.update ..))))
theorem bk_default {Q : Value → Shared → Prop} (hkey : knd.is k key = true) (ho : s.heap.get? d = some (bookObj dx es ep)) (B : BookDat knd es kvs) (hsz : kvs.length ≤ sizeLine) (hn : valueAt kvs k = none)
    (hQ : ∀ h' es' ep', h'.get? d = some (bookObj dx es' ep') → BookDat knd es' (stored kvs k v) → Heap.SameBut d s.heap h' → Q v { s with heap := h', toks := s.toks + 1 }) :
    wpAny (model prog w) A (dictSetDefault d key v) Q E s := by
  have hes : es.size ≤ sizeLine := by rw [B.size]; exact hsz
  unfold dictSetDefault
  try with_reducible refine wpAny_holding ?_
  refine wpAny_bind (knd.pyHash hkey ?_)
  refine wpAny_bind (wpAny_dictFind_of (s := { s with toks := s.toks + 1 }) hkey ho rfl B.1 ?_)
  cases hi : es.findIdx? fun e => knd.is k e.key with
  | some i =>
    exfalso
    have h1 := B.find k
    rw [hi, hn] at h1
    have := Array.findIdx?_eq_some_iff_findIdx_eq.mp hi
    have hlt : i < es.size := this.1
    dsimp only at h1
    rw [Array.getElem?_eq_getElem hlt] at h1
    cases h1
  | none =>
    exact wpAny_bind (wpAny_rule (wpAny_bind (wpAny_updateDictKeys (hz := hes) (s := { s with toks := s.toks + 1 }) ho rfl (wpAny_pure (hQ _ _ _ (Heap.get?_update_self _ ho rfl) (B.new hkey hi) (Heap.SameBut.update ..))))))
end
end Mine
end
section
open PySem PySem.W PyProof.Rows
set_option Elab.async false
set_option maxRecDepth 100000
set_option maxHeartbeats 400000
namespace Mine
theorem warmMiss3 : (fun (_ : Params → Frag) (_ : OpenLaw) => True) KF Challenge.rw_in0007_01 := by
  k_fill
  trivial
theorem wpAny_borrowed {M : Model} {A : Around} {E : Value → Shared → Prop} {s : Shared} {f : Value} {pos : List Value} {Q : Value → Shared → Prop} (h : wpAny M A (call f pos) Q E s) : wpAny M A (callBorrowed f pos) Q E s := fun Γ p hΓ => by
  have h1 := h Γ p hΓ
  rw [Sem.wp_cmd_call] at h1
  unfold callBorrowed
  rw [Sem.wp_call]
  refine cast (congrArg (fun P => wpCode M (Γ.enter (.call f ⟨pos, []⟩) none p) P p s) ?_) h1
  funext r s'
  cases r with
  | error e => rfl
  | ok f => cases f <;> rfl
theorem entry_ddmiss : entryFor table "collections.defaultdict.__missing__" = some Builtin.«collections.defaultdict.__missing__» := entryFor_of_tree (by kernel_rfl)
theorem plain_ddmiss : plainId "collections.defaultdict.__missing__" = true := by decide +kernel
theorem sig_ddmiss : Manifest.signature? "collections.defaultdict.__missing__" = some ⟨.oneArg, "defaultdict.__missing__", "__missing__", .self, [⟨"object", .posOnly, true⟩]⟩ := by kernel_rfl
theorem kind_ddmiss : builtinKind "collections.defaultdict.__missing__" = some .method := by kernel_rfl
theorem va_ddmiss : Manifest.varargsMethods.contains "collections.defaultdict.__missing__" = false := by decide +kernel
theorem args_ddmiss (a b : Value) : Bind.checkArgs "collections.defaultdict.__missing__" ⟨.oneArg, toString (Str.ofString "FreezableDefaultDict").toString ++ toString "." ++ toString (Bind.lastOf "collections.defaultdict.__missing__"), "__missing__", .self, [⟨"object", .posOnly, true⟩]⟩ ⟨[a, b], []⟩ = pure () := by kernel_rfl
section
variable {w : World} {A : Around} {E : Value → Shared → Prop} {s : Shared} {d dx bm : Addr} {od : Obj} {es : Array DictEntry} {ep : Nat} {k : Str} {t : Tok} {kvs : List (Str × Value)}
theorem dd_call {Q : Value → Shared → Prop} (X : (KF w.params).In s.heap) (hbm : s.heap.get? bm = some (boundMiss d)) (I : InstAt s.heap d (bookObj dx es ep) (nat_lit 122) (some od))
    (h : wpAny (model pw w) A.in1 (Builtin.«collections.defaultdict.__missing__» ⟨[.ref d, .str k t], []⟩) (fun fin s' => match fin with | .done (.ret v) => Q v s' | .done _ => False | .again c' => c'.quiet = true ∧ codeAny (model pw w) A c' (fun r s' => match r with | .ok (.ret v) => Q v s' | .ok _ => False | .error e => E e s') s') E s) :
    wpAny (model pw w) A (call (.ref bm) [.str k t]) Q E s := by
  refine wpAny_call (codeAny_of_tree ?_)
  show wpAny _ A.in1 (callAny (.ref bm) _) _ _ _
  unfold callAny
  refine wpAny_bind (wpAny_load hbm ?_)
  show wpAny _ _ (checkBoundCall "collections.defaultdict.__missing__" ⟨[.ref d, .str k t], []⟩ >>= fun _ => again (.builtin "collections.defaultdict.__missing__" ⟨[.ref d, .str k t], []⟩)) _ _ _
  refine wpAny_bind ?_
  have fin : wpAny (model pw w) A.in1 (again (.builtin "collections.defaultdict.__missing__" ⟨[.ref d, .str k t], []⟩)) (fun fin s' => match fin with
      | .done f => (match (Except.ok f : Result) with | .ok (.ret v) => Q v s' | .ok _ => False | .error e => E e s')
      | .again c' => c'.quiet = true ∧ codeAny (model pw w) A c' (fun r s' => match r with | .ok (.ret v) => Q v s' | .ok _ => False | .error e => E e s') s') E s := by
    refine wpAny_pure ⟨plainId_quiet plain_ddmiss _, codeAny_builtin entry_ddmiss ?_⟩
    rw [Around.under_plainId plain_ddmiss _]
    refine wpAny_mono h (fun fin s' q => ?_) fun _ _ e => e
    cases fin with
    | done f => cases f <;> exact q
    | again c' => exact q
  have hm : Looks (model pw w) s.heap (isInstance (.ref d) (.type "module")) false := I.type.andThen (looks_subIn X (by kernel_rfl))
  have hc0 : (clsIn (KF w.params) (nat_lit 122)).map (·.qualname) = some (Str.ofString "FreezableDefaultDict") := by kernel_rfl
  obtain ⟨cd, hcd, hq⟩ := Option.map_eq_some_iff.mp hc0
  have ht : Looks (model pw w) s.heap (typeOf (.ref (nat_lit 122))) (.type "type") := looks_typeIn X (by kernel_rfl)
  obtain ⟨hh, g, dr, tk, os⟩ := s
  unfold checkBoundCall
  rw [sig_ddmiss, kind_ddmiss]
  dsimp only
  rw [if_neg (by decide), va_ddmiss]
  refine wpAny_bind (Looks.at hm ?_)
  rw [if_neg (by decide)]
  refine wpAny_bind (ks_wpAny_isType_inst I.at_ (fun _ e => by cases e) ?_)
  rw [if_neg (by decide)]
  refine wpAny_bind (Looks.at I.type ?_)
  refine wpAny_bind (Looks.at (looks_clsIn X hcd) ?_)
  refine wpAny_bind (Looks.at ht ?_)
  rw [if_pos (by decide)]
  rw [hq]
  exact wpAny_of_eq (args_ddmiss _ _) fin
theorem notOrd {name : String} {r : List Value} {kw : List (Str × Value)} {Q : Unit → Shared → Prop} (X : (KF w.params).In s.heap) (I : InstAt s.heap d (bookObj dx es ep) (nat_lit 122) (some od)) (h : Q () s) :
    wpAny (model pw w) A (Builtin.Dict.notOrdered name ⟨.ref d :: r, kw⟩) Q E s := by
  have hm : Looks (model pw w) s.heap (isInstance (.ref d) (.type "collections.OrderedDict")) false := I.type.andThen (looks_subIn X (by kernel_rfl))
  obtain ⟨hh, g, dr, tk, os⟩ := s
  unfold Builtin.Dict.notOrdered
  split
  · refine wpAny_bind (Looks.at I.type ?_)
    rw [if_pos (by decide)]
    refine wpAny_bind (Looks.at hm ?_)
    rw [if_neg (by decide)]
    exact wpAny_pure h
  · exact wpAny_pure h
theorem fn_of {K : Frag} {f : Addr} (e : fnIn K f = true) : ∃ oc od fd sl, K.lookup f = some ⟨oc, od, .func fd, sl⟩ := by
  unfold fnIn at e
  split at e
  · rename_i oc od fd sl ho
    exact ⟨oc, od, fd, sl, ho⟩
  · cases e
theorem dd_body {fin : Fin → Shared → Prop} (X : (KF w.params).In s.heap) (ho : s.heap.get? d = some (bookObj dx es ep)) 
    (h : wpAny (model pw w) A (call (.ref (nat_lit 227)) []) (fun v s₁ => fin (Fin.again (.builtin "dict.setdefault" ⟨[.ref d, .str k t, v], []⟩)) s₁) E s) :
    wpAny (model pw w) A (Builtin.«collections.defaultdict.__missing__» ⟨[.ref d, .str k t], []⟩) fin E s := by
  unfold Builtin.«collections.defaultdict.__missing__»
  refine wpAny_bind (wpAny_of_eq (show selfAndOne _ ⟨[.ref d, .str k t], []⟩ = pure (.ref d, .str k t) from rfl) ?_)
  refine wpAny_bind ?_
  unfold Builtin.Collections_defaultdict.factory? slotAt
  refine wpAny_bind (wpAny_bind (wpAny_loadPart ho (wpAny_pure (wpAny_pure ?_))))
  show wpAny _ _ (callOutOfASlot (.ref (nat_lit 227)) [] >>= fun value => again (.builtin "dict.setdefault" ⟨[.ref d, .str k t, value], []⟩)) _ _ _
  refine wpAny_bind ?_
  unfold callOutOfASlot
  obtain ⟨oc, od, fd, sl, hf⟩ := fn_of (K := KF w.params) (f := nat_lit 227) (by kernel_rfl)
  refine wpAny_bind ?_
  unfold borrowsExactly
  refine wpAny_bind (wpAny_load (X _ _ hf) (wpAny_pure ?_))
  rw [if_pos rfl]
  exact wpAny_borrowed (wpAny_mono h (fun _ _ q => wpAny_pure q) fun _ _ e => e)
theorem entry_sd : entryFor table "dict.setdefault" = some Builtin.«dict.setdefault» := PySem.F.entry_dict_setdefault
theorem plain_sd : plainId "dict.setdefault" = true := by decide +kernel
theorem sd_code {R : Result → Shared → Prop} {v : Value} (X : (KF w.params).In s.heap) (I : InstAt s.heap d (bookObj dx es ep) (nat_lit 122) (some od)) (hds : (d == sysModules) = false) (B : BookDat (sk w) es kvs) (hsz : kvs.length ≤ sizeLine) (hn : valueAt kvs k = none)
    (hQ : ∀ h' es' ep', h'.get? d = some (bookObj dx es' ep') → BookDat (sk w) es' (stored kvs k v) → Heap.SameBut d s.heap h' → R (.ok (.ret v)) { s with heap := h', toks := s.toks + 1 }) :
    codeAny (model pw w) A (.builtin "dict.setdefault" ⟨[.ref d, .str k t, v], []⟩) R s := by
  refine codeAny_builtin entry_sd ?_
  unfold Builtin.«dict.setdefault»
  refine wpAny_bind ?_
  unfold Builtin.Dict.keyAndDefault
  refine wpAny_bind (notOrd X I ?_)
  show wpAny _ _ (pure (d, Value.str k t, some v)) _ _ s
  refine wpAny_pure ?_
  show wpAny _ _ (if (d == sysModules) = true then _ else (dictSetDefault d (Value.str k t) v >>= _)) _ _ s
  rw [if_neg (by rw [hds]; exact Bool.false_ne_true)]
  exact wpAny_bind (bk_default (knd := sk w) (strKind_is _ _ _ _) I.at_ B hsz hn fun h' es' ep' a b c => wpAny_pure (hQ h' es' ep' a b c))
end
end Mine
end
section
open PySem PySem.W PyProof.Rows
set_option Elab.async false
set_option maxRecDepth 100000
set_option maxHeartbeats 400000
namespace Mine
theorem warmMiss2 : (fun (_ : Params → Frag) (_ : OpenLaw) => True) KF Challenge.rw_in0007_01 := by
  k_fill
  trivial
local macro_rules | `(tactic| k_room) => `(tactic| ktr_room)
local macro_rules | `(tactic| k_units) => `(tactic| ktr_units)
theorem memKeep {h h' : Heap} {news : List (Addr × Obj)} (D : W.X.Mem h h' [] news) : ∀ b o, h.get? b = some o → h'.get? b = some o := fun b o e => D.keep b o e (by simp [W.X.away])
theorem memNews {h₀ h h' : Heap} {L : Addr} {m : Str → Option Value} {news n : List (Addr × Obj)} (D : W.X.Mem h h' [] news) (F : Fr h₀ L h m) (N : News h₀ L h n) : News h₀ L h' (news ++ n) := by
  intro p hp
  rcases List.mem_append.mp hp with hp | hp
  · have := D.nw p hp
    refine ⟨this.1, fun e => ?_, ?_⟩
    · obtain ⟨o, es, ep, hL, _⟩ := F.ns
      rw [e, hL] at this
      exact absurd this.2 (by simp)
    · cases z : h₀.get? p.1 with
      | none => rfl
      | some o => rw [F.keep _ _ z] at this; exact absurd this.2 (by simp)
  · exact ⟨memKeep D _ _ (N p hp).1, (N p hp).2⟩
theorem memOff {h₀ h h' : Heap} {L : Addr} {news n : List (Addr × Obj)} (D : W.X.Mem h h' [] news) (N : News h₀ L h n) : ∀ p ∈ news, ∀ q ∈ n, p.1 ≠ q.1 := by
  intro p hp q hq e
  have h1 := (D.nw p hp).2
  rw [e, (N q hq).1] at h1
  cases h1
section
variable {α : Type} {M : Model} {A : Around} {c : Code} {E : Value → Shared → Prop} {s : Shared} {env : Env}
theorem at_Call {func : Expr} {args : List Expr} {pos : Pos} {Q : Value → Shared → Prop} (he : eval (.Call func args [] pos) env = (eval func env >>= fun f => callWith pos f [] (backTo pos (starEach args env)) []))
    (h : PySem.wpAt M A c (eval func env) (fun f s₁ => PySem.wpAt M A c (callWith pos f [] (backTo pos (starEach args env)) []) Q E s₁) E s) : PySem.wpAt M A c (eval (.Call func args [] pos) env) Q E s := by
  rw [he]; exact PySem.wpAt_bind h
theorem at_spliced_cons {t : Sem Value} {rest : List (Bool × Sem Value)} {Q : List Value → Shared → Prop} (h : PySem.wpAt M A c t (fun v s₁ => PySem.wpAt M A c (spliced rest) (fun vs s₂ => Q (v :: vs) s₂) E s₁) E s) :
    PySem.wpAt M A c (spliced ((false, t) :: rest)) Q E s := by
  show PySem.wpAt M A c (t >>= fun v => (pure [v] >>= fun here => (holding here (spliced rest) >>= fun r => pure (here ++ r)))) Q E s
  refine PySem.wpAt_bind (PySem.wpAt_mono h (fun v s₁ h₁ => ?_) fun _ _ e => e)
  refine PySem.wpAt_bind (PySem.wpAt_of_wpAny (wpAny_pure ?_))
  refine PySem.wpAt_bind (ks_wpAt_holding (PySem.wpAt_mono h₁ (fun vs s₂ h₂ => PySem.wpAt_of_wpAny (wpAny_pure h₂)) fun _ _ e => e))
theorem at_CallH {func : Expr} {args : List Expr} {pos : Pos} {Q : Value → Shared → Prop} (he : eval (.Call func args [] pos) env = (eval func env >>= fun f => callWith pos f [] (backTo pos (starEach args env)) []))
    (h : wpAny M A (eval func env) (fun f s₁ => Halt (PySem.wpAt M A c (callWith pos f [] (backTo pos (starEach args env)) []) Q E s₁)) E s) : PySem.wpAt M A c (eval (.Call func args [] pos) env) Q E s := at_Call he (PySem.wpAt_of_wpAny h)
theorem at_spliced_consH {t : Sem Value} {rest : List (Bool × Sem Value)} {Q : List Value → Shared → Prop} (h : wpAny M A t (fun v s₁ => Halt (PySem.wpAt M A c (spliced rest) (fun vs s₂ => Q (v :: vs) s₂) E s₁)) E s) :
    PySem.wpAt M A c (spliced ((false, t) :: rest)) Q E s := at_spliced_cons (PySem.wpAt_of_wpAny h)
theorem cw_bm {pos : Pos} {bm : Addr} {d : Addr} {x : Sem Value} {Q : Value → Shared → Prop} (h : wpAny M A x (fun v s₁ => s₁.heap.get? bm = some (boundMiss d) ∧ wpAny M A (call (.ref bm) [v]) Q E s₁) E s) :
    wpAny M A (callWith pos (.ref bm) [] [(false, x)] []) Q E s := by
  have h' : wpAny M A (evalArgs (.ref bm) true [(false, x)] []) (fun a s₁ => s₁.heap.get? bm = some (boundMiss d) ∧ wpAny M A (call (.ref bm) ([] ++ a.pos) a.kw) Q E s₁) E s :=
    Calls.evalArgs_plain (Calls.spliced_cons (wpAny_mono h (fun _ _ h₁ => Calls.spliced_nil h₁) fun _ _ e => e))
  unfold callWith
  refine wpAny_bind (wpAny_holding (wpAny_mono h' (fun a s₁ h₁ => wpAny_bind (wpAny_standAt ?_)) fun _ _ x => x))
  refine wpAny_bind ?_
  refine wpAny_bind ?_
  refine wpAny_mono (wpAny_load h₁.1 ?_) (fun _ _ x => x) fun _ _ e => e
  refine wpAny_pure ?_
  show wpAny M A (call (.ref bm) ([] ++ a.pos) a.kw >>= fun r => (holding [r] point >>= fun _ => pure r)) Q E s₁
  exact wpAny_bind (wpAny_mono h₁.2 (fun r s₂ hr => wpAny_bind (wpAny_holding (wpAny_point (wpAny_pure hr)))) fun _ _ x => x)
theorem at_callWith3 {pos : Pos} {id : String} {t1 t2 t3 : Sem Value} {Q : Value → Shared → Prop}
    (h : PySem.wpAt M A c (spliced [(false, t1), (false, t2), (false, t3)]) (fun vs s₁ => wpAny M A (call (.builtin id) vs) Q E s₁) E s) :
    PySem.wpAt M A c (callWith pos (.builtin id) [] [(false, t1), (false, t2), (false, t3)] []) Q E s := by
  unfold callWith
  refine PySem.wpAt_bind (ks_wpAt_holding (PySem.wpAt_mono (Q := fun a s₁ => wpAny M A (call (.builtin id) a.pos a.kw) Q E s₁) ?_ (fun a s₁ h₁ => ?_) fun _ _ x => x))
  · unfold evalArgs
    show PySem.wpAt M A c (spliced [(false, t1), (false, t2), (false, t3)] >>= _) _ E s
    refine PySem.wpAt_bind (PySem.wpAt_mono h (fun vs s' h' => ?_) fun _ _ x => x)
    refine PySem.wpAt_of_wpAny (wpAny_holding ?_)
    exact wpAny_bind (wpAny_pure (wpAny_bind (wpAny_pure (wpAny_pure h'))))
  · refine PySem.wpAt_of_wpAny (wpAny_bind (wpAny_standAt ?_))
    simp only [List.any_cons, List.any_nil, Bool.or_false]
    refine wpAny_bind (wpAny_pure ?_)
    exact wpAny_bind (wpAny_mono h₁ (fun r s₂ hr => wpAny_bind (wpAny_holding (wpAny_point (wpAny_pure hr)))) fun _ _ x => x)
theorem at_Attribute {prog : Program} {w : World} {o : Expr} {attr : Str} {pos : Pos} {Q : Value → Shared → Prop}
    (h : PySem.wpAt (model prog w) A c (attributeBase o attr env (eval o env)) (fun ov s₁ => wpAny (model prog w) A (getAttr ov attr true) Q E s₁) E s) : PySem.wpAt (model prog w) A c (eval (.Attribute o attr pos) env) Q E s := by
  show PySem.wpAt _ A c (attributeBase o attr env (eval o env) >>= fun ov => (standAt pos.atName >>= fun _ => (holding [ov] (getAttr ov attr true) >>= fun r => (letTemporaryGo o ov r >>= fun _ => pure r)))) Q E s
  refine PySem.wpAt_bind (PySem.wpAt_mono h (fun ov s₁ h₁ => PySem.wpAt_of_wpAny (wpAny_bind (wpAny_standAt (wpAny_bind (wpAny_holding (wpAny_mono h₁ (fun r s₂ h₂ => wpAny_bind (wpAny_letTemporaryGo (wpAny_pure h₂))) fun _ _ e => e)))))) fun _ _ e => e)
end
def RetN (Q : Value → Shared → Prop) (v : Value) (h : Heap) (g : Array GenState) (dr : Drawn) (os : OsState) : Prop := ∀ h' t' news, W.X.Mem h h' [] news → Q v ⟨h', g, dr, t', os⟩
theorem RetN.use {Q : Value → Shared → Prop} {v : Value} {h h' : Heap} {g : Array GenState} {dr : Drawn} {os : OsState} {t : Nat} {news : List (Addr × Obj)} (r : RetN Q v h g dr os) (D : W.X.Mem h h' [] news) : Q v ⟨h', g, dr, t, os⟩ := r _ _ _ D
local macro_rules | `(tactic| x_close) => `(tactic| (exact RetN.use (by assumption) (by assumption)))
theorem ga_miss {w : World} {dp un : Nat} {gd : Option (List Code)} {cn : Str} {cs : Scope} {a L : Addr} {ccd : Value} {cl : List (Str × Addr)} {outer : List Env} {env : Env} {Q E : Value → Shared → Prop} {h : Heap} {g : Array GenState} {dr : Drawn} {t : Nat} {os : OsState} {d dx bm : Addr} {es : Array DictEntry} {ep tk : Nat}
    (X : (KF w.params).In h) (hd : h.get? d = some ⟨.ref (nat_lit 122), some dx, .dict es ep, #[some (.ref (nat_lit 227))]⟩) (hdx : h.get? dx = some ⟨.type "dict", none, .dict #[] 0, #[]⟩)
    (ret : RetN Q (.ref bm) h g dr os) :
    wpAny (model pw w) ((ktrTop dp un gd cn cs L a ccd cl outer).deeper env) (call (.builtin "getattr") [.ref d, .str (Str.ofString "_frozen") tk, .ref bm]) Q E ⟨h, g, dr, t, os⟩ := by
  x_run
theorem miss1 {w : World} {p : Program} {loose : List Str} {mean : ExcName → Option Value} {mg mb : Str → Option Value} {dp un : Nat} {gd : Option (List Code)} {cn : Str} {cs : Scope} {a : Addr} {ccd : Value} {cl : List (Str × Addr)} {outer : List Env} {A₀ : Around} {base h₀ : Heap} {L : Addr} {m : Str → Option Value} {news : List (Addr × Obj)} {s : Shared} {d dx : Addr} {es : Array DictEntry} {ep : Nat} {k : Str} {t : Tok} {Q E : Value → Shared → Prop}
    (B : Below A₀ base outer h₀) (F : Fr h₀ L s.heap m) (X : (KF w.params).In h₀) (N : News h₀ L s.heap ((d, bookObj dx es ep) :: (dx, emptyDict) :: news)) (T : Top p loose mean mg mb h₀) (hk : cs.kind = .function)
    (hd : dp + 15 < recursionLimit) (hun : un + 160 < cLine) {kvs : List (Str × Value)} (BD : BookDat (sk w) es kvs) (hsz : kvs.length ≤ sizeLine) (hn : valueAt kvs k = none) (hds : (d == sysModules) = false) (hnd : ∀ p ∈ news, p.1 ≠ d)
    (ret : ∀ nd o es' ep' h' tk', Fr h₀ L h' m → News h₀ L h' ((nd, o) :: (d, bookObj dx es' ep') :: (dx, emptyDict) :: news) → (∀ p ∈ news, p.1 < nd) → d < nd → (nd == sysModules) = false → o.IsDictOf (sk w) [] → BookDat (sk w) es' (stored kvs k (.ref nd)) → Q (.ref nd) { s with heap := h', toks := tk' }) :
    wpAny (model pw w) (ktrTop dp un gd cn cs L a ccd cl outer) (call (.ref 112) [.ref d, .str k t]) Q E s := by
  w_on
  obtain ⟨ck, cnm, cg, cc, cmore⟩ := cs
  cases hk
  refine wpAny_call ?_
  k_dflt ks_enter
  dsimp (config := { failIfUnchanged := false }) only []
  refine ks_wpAt_execs_cons (ks_wpAt_Return_some (at_Call rfl (at_CallH rfl ?_)))
  k_steps
  refine Halt.go (at_callWith3 ?_)
  refine at_spliced_consH ?_
  k_steps
  refine Halt.go (at_spliced_consH ?_)
  k_steps
  refine Halt.go (at_spliced_cons ?_)
  refine at_Attribute ?_
  rename Fr _ _ _ _ => F1
  rename News _ _ _ _ => N1
  have I1 : InstAt _ d (bookObj dx es ep) (nat_lit 122) (some emptyDict) := ⟨(N1 _ (.head _)).1, rfl, rfl, (N1 (dx, emptyDict) (.tail _ (.head _))).1⟩
  k_dflt (refine' ks_node (C := nat_lit 122) (D := nat_lit 122) ?q1 ?q2 ?q3 ?q4 ?q5 ?q6 ?q7 ?q8 ?q9 ?q10 ?q11 ?q12 ?q13 ?q14 ?q15 ?q16 ?q17 ?q18 ?q19 ?q20 ?q21 ?q22 ?_)
  case q1 => k_asm
  case q2 => k_asm
  case q3 => k_asm
  case q4 => k_asm
  case q5 => k_is
  case q6 => rfl
  case q7 => rfl
  case q8 => exact I1
  case q9 => k_is
  case q10 => rfl
  case q11 => first | rfl | decide +kernel
  case q12 => k_is
  case q13 => k_is
  case q14 => k_is
  case q15 => k_is
  case q16 => decide
  case q17 => rfl
  case q18 => rfl
  case q19 => rfl
  case q20 => rfl
  case q21 => decide +kernel
  case q22 => first | boot_by_name | rfl | kernel_rfl
  intro so h1 F2 N2 l1
  rename (KF w.params).In _ => X1
  have X2 := X1.keeps F2.keep
  refine sup_get (dx := dx) (es := es) (ep := ep) X2 (N2 (d, _) (.tail _ (.head _))).1 (N2 _ (.head _)).1 ?_
  intro v h2 t2 nw D hv
  obtain ⟨bm, rfl, rfl⟩ := hv
  have F3 := F2.keeps (memKeep D)
  have N3 := memNews D F2 N2
  have off3 := memOff D N2
  clear F2 N2
  refine PySem.wpAt_of_wpAny (Calls.spliced_nil ?_)
  refine ga_miss (X1.keeps F3.keep) (N3 (d, bookObj dx es ep) (.tail _ (.tail _ (.head _)))).1 (N3 (dx, emptyDict) (.tail _ (.tail _ (.tail _ (.head _))))).1 ?_
  intro h3 t3 nw D4
  have N4 := memNews D4 F3 N3
  have F4 := F3.keeps (memKeep D4)
  replace N4 := N4.right
  clear N3 F3
  refine PySem.wpAt_of_wpAny (cw_bm (d := d) ?_)
  simp only [List.cons_append, List.nil_append] at N4 off3
  clear N1 F1 I1 X2
  k_steps
  · exact (N4 _ (.head _)).1
  have m4 : ((d, bookObj dx es ep) : Addr × Obj) ∈ (bm, boundMiss d) :: (so, ks_superObj 122 d 122) :: (d, bookObj dx es ep) :: (dx, emptyDict) :: news := .tail _ (.tail _ (.head _))
  have I4 : InstAt h3 d (bookObj dx es ep) (nat_lit 122) (some emptyDict) := ⟨(N4 _ m4).1, rfl, rfl, (N4 (dx, emptyDict) (.tail _ (.tail _ (.tail _ (.head _))))).1⟩
  have X4 := X1.keeps F4.keep
  refine dd_call X4 (N4 _ (.head _)).1 I4 ?_
  refine dd_body X4 I4.at_ ?_
  refine wpAny_call ?_
  k_dflt (refine' code_def ?k1 ?k2 ?k3 ?k4 ?k5 ?kA ?kF ?kK ?k6 ?k7 ?k8 ?k9 ?kB ?_ ?c2 ?c3 ?c4 ?c5; (case kA => exact rfl); (case kF => exact rfl); (case kK => exact rfl); (case k1 => k_asm); (case k2 => k_asm); (case k3 => k_asm); (case k4 => k_asm); (case k5 => k_asm); (case k6 => k_is); (case k7 => k_is); (case k8 => ktr_room); (case k9 => exact BindsTo.of_eq rfl); (case c5 => decide); (case kB => exact locs rfl); (case c2 => exact rfl); (case c3 => exact rfl); (case c4 => exact rfl); k_whole; intro g' L' h' FG' F' N' B' X' T'; (try dsimp only); (try k_fold))
  k_steps
  · exact plainId_quiet plain_sd _
  rename_i nd h5 o5 _ _ no5 id5 _ _ _ lt5 F5 N5 _ _
  dsimp only at F5 N5
  have m5 : ((d, bookObj dx es ep) : Addr × Obj) ∈ (nd, o5) :: (bm, boundMiss d) :: (so, ks_superObj 122 d 122) :: (d, bookObj dx es ep) :: (dx, emptyDict) :: news := .tail _ (.tail _ (.tail _ (.head _)))
  have I5 : InstAt h5 d (bookObj dx es ep) (nat_lit 122) (some emptyDict) := ⟨(N5 _ m5).1, rfl, rfl, (N5 (dx, emptyDict) (.tail _ (.tail _ (.tail _ (.tail _ (.head _)))))).1⟩
  refine sd_code (kvs := kvs) (X1.keeps F5.keep) I5 hds BD hsz hn ?_
  intro h6 es6 ep6 ho6 B6 sb6
  dsimp only at sb6
  have hdx : dx ≠ d := by
    intro e
    have h1 := (N5 _ m5).1
    have h2 := (N5 (dx, emptyDict) (.tail _ (.tail _ (.tail _ (.tail _ (.head _)))))).1
    dsimp only at h1 h2
    rw [e, h1] at h2
    cases h2
  have F6 := F5.change sb6 (N5 _ m5).2.1 (N5 _ m5).2.2
  have N6 := News.setIn (own := [(nd, o5), (bm, boundMiss d), (so, ks_superObj 122 d 122)]) (rest := (dx, emptyDict) :: news) N5 (by
    intro p hp
    rcases List.mem_cons.mp hp with rfl | hp
    · exact Nat.ne_of_gt lt5.2.2.1
    · rcases List.mem_cons.mp hp with rfl | hp
      · exact off3 _ (.head _) _ (.tail _ (.head _))
      · rw [List.mem_singleton.mp hp]; exact Nat.ne_of_gt (l1 _ (.head _))) (by
    intro p hp
    rcases List.mem_cons.mp hp with rfl | hp
    · exact hdx
    · exact hnd p hp) sb6 ho6
  clear F5 N5 F4 N4
  simp only [List.cons_append, List.nil_append] at N6
  have lt6 := tb_ltOf lt5.2.2.2.2
  have N7 : News _ _ h6 ((nd, o5) :: (d, bookObj dx es6 ep6) :: (dx, emptyDict) :: news) := fun p hp => N6 p (by
    rcases List.mem_cons.mp hp with rfl | hp
    · exact .head _
    · exact .tail _ (.tail _ (.tail _ hp)))
  clear N6
  dsimp only
  k_steps
  exact ret nd o5 es6 ep6 h6 _ (by assumption) (by assumption) lt6 lt5.2.2.1 no5 id5 B6
end Mine
end
section
open PySem PySem.W PyProof.Rows
set_option Elab.async false
set_option maxRecDepth 100000
set_option maxHeartbeats 400000
namespace Mine
theorem warmBO : (fun (_ : Params → Frag) (_ : OpenLaw) => True) KF Challenge.rw_in0007_01 := by
  k_fill
  trivial
section
variable {w : World} {A : Around} {E : Value → Shared → Prop} {s : Shared} {d dx : Addr} {od : Obj} {es : Array DictEntry} {ep : Nat} {k : Str} {t : Tok} {kvs : List (Str × Value)}
theorem bk_check {i n : String} {self : Value} {rest : List Value} {Q : Unit → Shared → Prop} (hk : builtinKind i = some .slot ∨ builtinKind i = some .method) (hs : splitId i = some ("dict", n)) (hi : Looks (model pw w) s.heap (isInstance self (.type "dict")) true) (ha : argsOk i ⟨self :: rest, []⟩) (q : Q () s) :
    wpAny (model pw w) A (checkBuiltinCall i ⟨self :: rest, []⟩) Q E s := by
  rcases hk with hk | hk
  · exact check_slot hk hs hi ha q
  · simp only [checkBuiltinCall, hk, hs]
    refine wpAny_bind (hi.here ?_)
    simp only [Bool.not_true, Bool.false_eq_true, if_false]
    cases hsig : Manifest.signature? i with
    | none => exact wpAny_pure q
    | some sig =>
      simp only [argsOk, hsig] at ha
      have h2 : Bind.checkArgs i sig ⟨self :: rest, []⟩ = pure () := ha
      show wpAny (model pw w) A (Bind.checkArgs i sig ⟨self :: rest, []⟩) Q E s
      rw [h2]; exact wpAny_pure q
theorem bk_call {id n : String} {Bi : Builtin} {rest : List Value} {Q : Value → Shared → Prop} (hk : builtinKind id = some .slot ∨ builtinKind id = some .method) (hs : splitId id = some ("dict", n)) (hp : plainId id = true) (he : entryFor table id = some Bi) (ha : argsOk id ⟨.ref d :: rest, []⟩)
    (X : (KF w.params).In s.heap) (I : InstAt s.heap d (bookObj dx es ep) (nat_lit 122) (some od))
    (h : wpAny (model pw w) A.in1 (Bi ⟨.ref d :: rest, []⟩) (fun fin s' => match fin with | .done (.ret v) => Q v s' | .done _ => False | .again c' => c'.quiet = true ∧ codeAny (model pw w) A c' (fun r s' => match r with | .ok (.ret v) => Q v s' | .ok _ => False | .error e => E e s') s') E s) :
    wpAny (model pw w) A (call (.builtin id) (.ref d :: rest)) Q E s := by
  have hm : Looks (model pw w) s.heap (isInstance (.ref d) (.type "dict")) true := I.type.andThen (looks_subIn X (by kernel_rfl))
  refine wpAny_call (codeAny_call_builtin hp he (bk_check hk hs hm ha ?_))
  refine wpAny_mono h (fun fin s' q => ?_) fun _ _ e => e
  cases fin with
  | done f => cases f <;> exact q
  | again c' => exact q
theorem bk_special {name : Str} {id : String} {rest : List Value} {Q : Option Value → Shared → Prop} (X : (KF w.params).In s.heap) (I : InstAt s.heap d (bookObj dx es ep) (nat_lit 122) (some od))
    (hs : findIn (KF w.params) (.ref (nat_lit 122)) name = some (some (.builtin id))) (hb : ∀ self, bindSpecial (.builtin id) self = pure (.builtin id, [self]))
    (h : wpAny (model pw w) A (call (.builtin id) (.ref d :: rest)) (fun v s' => Q (some v) s') E s) : wpAny (model pw w) A (callSpecial? (.ref d) name rest) Q E s := by
  unfold callSpecial? specialOf
  refine wpAny_bind (wpAny_bind (I.type.here ((looks_findIn X hs).here ?_)))
  refine wpAny_holding (wpAny_bind ?_)
  rw [hb]
  refine wpAny_pure ?_
  exact wpAny_bind (wpAny_mono h (fun _ _ z => wpAny_pure z) fun _ _ z => z)
theorem bk_getItem {Q : Value → Shared → Prop} {key : Value} (X : (KF w.params).In s.heap) (I : InstAt s.heap d (bookObj dx es ep) (nat_lit 122) (some od))
    (h : wpAny (model pw w) A (call (.builtin "dict.__getitem__") [.ref d, key]) Q E s) : wpAny (model pw w) A (getItem (.ref d) key) Q E s := by
  unfold getItem sequenceKey
  refine wpAny_holding (wpAny_bind (wpAny_bind (I.type.here ?_)))
  refine wpAny_bind ((anyM_none X (show noSeq (KF w.params) (nat_lit 122) = true by kernel_rfl)).here ?_)
  rw [if_pos (show (!false) = true from rfl)]
  exact wpAny_pure (wpAny_bind (bk_special X I (by kernel_rfl) slot_dict_getitem.bind (wpAny_mono h (fun _ _ z => wpAny_pure z) fun _ _ z => z)))
theorem bk_setItem {Q : Unit → Shared → Prop} {key v : Value} (X : (KF w.params).In s.heap) (I : InstAt s.heap d (bookObj dx es ep) (nat_lit 122) (some od))
    (h : wpAny (model pw w) A (call (.builtin "dict.__setitem__") [.ref d, key, v]) (fun _ s' => Q () s') E s) : wpAny (model pw w) A (setItem (.ref d) key v) Q E s := by
  unfold setItem sequenceKey
  refine wpAny_holding (wpAny_bind (wpAny_bind (I.type.here ?_)))
  refine wpAny_bind ((anyM_none X (show noSeq (KF w.params) (nat_lit 122) = true by kernel_rfl)).here ?_)
  rw [if_pos (show (!false) = true from rfl)]
  exact wpAny_pure (wpAny_bind (bk_special X I (by kernel_rfl) slot_dict_setitem.bind (wpAny_mono h (fun _ _ z => wpAny_pure z) fun _ _ z => z)))
theorem kind_gi : builtinKind "dict.__getitem__" = some .slot ∨ builtinKind "dict.__getitem__" = some .method := .inr (by kernel_rfl)
theorem split_gi : splitId "dict.__getitem__" = some ("dict", "__getitem__") := by kernel_rfl
theorem kind_si : builtinKind "dict.__setitem__" = some .slot ∨ builtinKind "dict.__setitem__" = some .method := .inl (by kernel_rfl)
theorem split_si : splitId "dict.__setitem__" = some ("dict", "__setitem__") := by kernel_rfl
theorem bk_hit {Q : Value → Shared → Prop} {v : Value} (X : (KF w.params).In s.heap) (I : InstAt s.heap d (bookObj dx es ep) (nat_lit 122) (some od)) (B : BookDat (sk w) es kvs) (hv : valueAt kvs k = some v) (h : Q v { s with toks := s.toks + 1 }) :
    wpAny (model pw w) A (getItem (.ref d) (.str k t)) Q E s := by
  refine bk_getItem X I (bk_call kind_gi split_gi slot_dict_getitem.plain entry_dict_getitem (args_dict_getitem _ _) X I ?_)
  show wpAny _ _ (dictGet d (Value.str k t) >>= _) _ _ s
  refine wpAny_bind (bk_get (knd := sk w) (strKind_is _ _ _ _) I.at_ rfl B ?_)
  rw [hv]
  exact wpAny_pure h
theorem bk_store {Q : Unit → Shared → Prop} {v : Value} (X : (KF w.params).In s.heap) (I : InstAt s.heap d (bookObj dx es ep) (nat_lit 122) (some od)) (B : BookDat (sk w) es kvs) (hsz : kvs.length ≤ sizeLine)
    (h : ∀ h' es' ep', h'.get? d = some (bookObj dx es' ep') → BookDat (sk w) es' (stored kvs k v) → Heap.SameBut d s.heap h' → Q () { s with heap := h', toks := s.toks + 1 }) :
    wpAny (model pw w) A (setItem (.ref d) (.str k t) v) Q E s := by
  refine bk_setItem X I (bk_call kind_si split_si slot_dict_setitem.plain entry_dict_setitem (args_dict_setitem _ _ _) X I ?_)
  show wpAny _ _ (Builtin.Dict.notOrdered "__setitem__" ⟨[.ref d, .str k t, v], []⟩ >>= _) _ _ s
  refine wpAny_bind (notOrd X I ?_)
  show wpAny _ _ (dictSet d (Value.str k t) v >>= _) _ _ s
  exact wpAny_bind (bk_set (knd := sk w) (strKind_is _ _ _ _) I.at_ B hsz fun h' es' ep' a b c => wpAny_pure (h h' es' ep' a b c))
theorem bk_missed {Q : Value → Shared → Prop} (X : (KF w.params).In s.heap) (I : InstAt s.heap d (bookObj dx es ep) (nat_lit 122) (some od)) (B : BookDat (sk w) es kvs) (hv : valueAt kvs k = none) (hds : (d == sysModules) = false)
    (h : wpAny (model pw w) A.in1 (call (.ref (nat_lit 112)) [.ref d, .str k t]) Q E { s with toks := s.toks + 1 }) :
    wpAny (model pw w) A (getItem (.ref d) (.str k t)) Q E s := by
  refine bk_getItem X I (bk_call kind_gi split_gi slot_dict_getitem.plain entry_dict_getitem (args_dict_getitem _ _) X I ?_)
  show wpAny _ _ (dictGet d (Value.str k t) >>= _) _ _ s
  refine wpAny_bind (bk_get (knd := sk w) (strKind_is _ _ _ _) I.at_ rfl B ?_)
  rw [hv]
  dsimp only
  refine wpAny_bind ?_
  unfold Builtin.Dict.missed
  rw [if_neg (by rw [hds]; exact Bool.false_ne_true)]
  refine wpAny_pure ?_
  dsimp only
  refine wpAny_bind (Looks.at I.type ?_)
  rw [if_pos (by decide)]
  refine wpAny_bind (special_fn X (show InstAt s.heap d (bookObj dx es ep) (nat_lit 122) (some od) from I) (by kernel_rfl) (by kernel_rfl) (wpAny_mono h (fun v s' q => ?_) fun _ _ e => e))
  refine wpAny_bind (wpAny_rule ?_)
  exact wpAny_pure q
end
local macro_rules | `(tactic| k_room) => `(tactic| ktr_room)
local macro_rules | `(tactic| k_units) => `(tactic| ktr_units)
theorem bk_miss {w : World} {p : Program} {loose : List Str} {mean : ExcName → Option Value} {mg mb : Str → Option Value} {dp un : Nat} {gd : Option (List Code)} {cn : Str} {cs : Scope} {a : Addr} {ccd : Value} {cl : List (Str × Addr)} {outer : List Env} {A₀ : Around} {base h₀ : Heap} {L : Addr} {m : Str → Option Value} {news : List (Addr × Obj)} {s : Shared} {d dx : Addr} {es : Array DictEntry} {ep : Nat} {k : Str} {t : Tok} {Q E : Value → Shared → Prop}
    (B : Below A₀ base outer h₀) (F : Fr h₀ L s.heap m) (X : (KF w.params).In h₀) (N : News h₀ L s.heap ((d, bookObj dx es ep) :: (dx, emptyDict) :: news)) (T : Top p loose mean mg mb h₀) (hk : cs.kind = .function)
    (hd : dp + 15 < recursionLimit) (hun : un + 170 < cLine) {kvs : List (Str × Value)} (BD : BookDat (sk w) es kvs) (hsz : kvs.length ≤ sizeLine) (hn : valueAt kvs k = none) (hds : (d == sysModules) = false) (hnd : ∀ p ∈ news, p.1 ≠ d)
    (ret : ∀ nd o es' ep' h' tk', Fr h₀ L h' m → News h₀ L h' ((nd, o) :: (d, bookObj dx es' ep') :: (dx, emptyDict) :: news) → (∀ p ∈ news, p.1 < nd) → d < nd → (nd == sysModules) = false → o.IsDictOf (sk w) [] → BookDat (sk w) es' (stored kvs k (.ref nd)) → Q (.ref nd) { s with heap := h', toks := tk' }) :
    wpAny (model pw w) (ktrTop dp un gd cn cs L a ccd cl outer) (getItem (.ref d) (.str k t)) Q E s := by
  have I : InstAt s.heap d (bookObj dx es ep) (nat_lit 122) (some emptyDict) := ⟨(N _ (.head _)).1, rfl, rfl, (N (dx, emptyDict) (.tail _ (.head _))).1⟩
  refine bk_missed (X.keeps F.keep) I BD hn hds ?_
  exact miss1 (s := { s with toks := s.toks + 1 }) B F X N T hk hd (un := un + 1) (by omega) BD hsz hn hds hnd ret
end Mine
end
section
open PySem PySem.W PyProof.Rows
set_option Elab.async false
set_option maxRecDepth 100000
set_option maxHeartbeats 400000
namespace Mine
theorem warmMk : (fun (_ : Params → Frag) (_ : OpenLaw) => True) KF Challenge.rw_in0007_01 := by
  k_fill
  trivial
local macro_rules | `(tactic| x_close) => `(tactic| (refine RetX.use (by assumption) (by assumption) ?_; exact ⟨_, _, rfl, rfl⟩))
theorem mk_run {w : World} {A : Around} {Q E : Value → Shared → Prop} {h : Heap} {g : Array GenState} {dr : Drawn} {t : Nat} {os : OsState} (X : (KF w.params).In h)
    (ret : RetX h (fun v news _ => ∃ d dx, v = .ref d ∧ news = [(d, bookObj dx #[] 0), (dx, emptyDict)]) Q g dr os) :
    wpAny (model pw w) A (call (.ref (nat_lit 122)) [.ref (nat_lit 227)]) Q E ⟨h, g, dr, t, os⟩ := by
  x_run
theorem notMods {w : World} {h₀ : Heap} {d : Addr} (X : (KF w.params).In h₀) (e : h₀.get? d = none) : (d == sysModules) = false := by
  have h1 : ((KF w.params).lookup sysModules).isSome = true := by kernel_rfl
  obtain ⟨o, ho⟩ := Option.isSome_iff_exists.mp h1
  have h2 := X _ _ ho
  have : d ≠ sysModules := fun q => by rw [q, h2] at e; cases e
  simpa using this
theorem mk_book {w : World} {A : Around} {h₀ : Heap} {L : Addr} {m : Str → Option Value} {news : List (Addr × Obj)} {s : Shared} {Q E : Value → Shared → Prop} (F : Fr h₀ L s.heap m) (X : (KF w.params).In h₀) (N : News h₀ L s.heap news)
    (ret : ∀ d dx h' tk', Fr h₀ L h' m → News h₀ L h' ((d, bookObj dx #[] 0) :: (dx, emptyDict) :: news) → (∀ p ∈ news, p.1 ≠ d ∧ p.1 ≠ dx) → (d == sysModules) = false → Q (.ref d) { s with heap := h', toks := tk' }) :
    wpAny (model pw w) A (call (.ref (nat_lit 122)) [.ref (nat_lit 227)]) Q E s := by
  obtain ⟨hh, g, dr, tk, os⟩ := s
  refine mk_run (X.keeps F.keep) ?_
  intro v h' t' nw D hv
  obtain ⟨d, dx, rfl, rfl⟩ := hv
  have N' := memNews D F N
  exact ret d dx h' t' (F.keeps (memKeep D)) N' (fun p hp => ⟨fun e => memOff D N _ (.head _) p hp e.symm, fun e => memOff D N _ (.tail _ (.head _)) p hp e.symm⟩) (notMods X (N' _ (.head _)).2.2)
theorem bookDat0 {w : World} : BookDat (sk w) #[] [] := ⟨fun _ he => by simp at he, Pairs.nil, List.nodup_nil⟩
end Mine
end
section
open PySem PySem.W PyProof.Rows
set_option Elab.async false
set_option maxRecDepth 100000
set_option maxHeartbeats 400000
namespace Mine
theorem warmOsa : (fun (_ : Params → Frag) (_ : OpenLaw) => True) KF Challenge.rw_in0007_01 := by
  k_fill
  trivial
theorem bk_refuse (self : Value) : refuseLoop self "__setattr__" [.ref (nat_lit 122), .type "collections.defaultdict", .type "dict", .type "object"] = pure () := by
  rw [refuseLoop_ref]
  kernel_rfl
abbrev frozenObj (P : Params) (tk : Tok) (v : Value) : Obj := ⟨.type "dict", none, .dict #[⟨PyData.keyHash P (Str.ofString "_frozen"), .str (Str.ofString "_frozen") tk, v⟩] 1, #[]⟩
theorem bk_setattr {w : World} {A : Around} {h₀ : Heap} {L : Addr} {m : Str → Option Value} {pre post : List (Addr × Obj)} {s : Shared} {Q : Unit → Shared → Prop} {E : Value → Shared → Prop} {d dx : Addr} {es : Array DictEntry} {ep : Nat} {v : Value}
    (F : Fr h₀ L s.heap m) (N : News h₀ L s.heap (pre ++ (dx, emptyDict) :: post)) (X : (KF w.params).In s.heap) (I : InstAt s.heap d (bookObj dx es ep) (nat_lit 122) (some emptyDict)) (h1 : ∀ p ∈ pre, p.1 ≠ dx) (h2 : ∀ p ∈ post, p.1 ≠ dx)
    (h : ∀ h' tk, Fr h₀ L h' m → News h₀ L h' (pre ++ (dx, frozenObj w.params tk v) :: post) → Q () { s with heap := h', toks := s.toks + 2 }) :
    wpAny (model pw w) A (setAttr (.ref d) (Str.ofString "_frozen") v) Q E s := by
  have SF := PySem.F.store_object
  have hm0 : (clsIn (KF w.params) (nat_lit 122)).map (fun c => (c.mro, c.hasDict)) = some ([.ref (nat_lit 122), .type "collections.defaultdict", .type "dict", .type "object"], true) := by kernel_rfl
  obtain ⟨cd, hc, hmq⟩ := Option.map_eq_some_iff.mp hm0
  obtain ⟨hmro, hd'⟩ := Prod.mk.inj hmq
  refine set_plain X I (by kernel_rfl) ?_
  have X1 : (KF w.params).In ({ s with toks := s.toks + 1 } : Shared).heap := X
  have I1 : InstAt ({ s with toks := s.toks + 1 } : Shared).heap d (bookObj dx es ep) (nat_lit 122) (some emptyDict) := I
  have sub : Looks (model pw w) s.heap (isInstance (.ref d) (.type "object")) true := I.type.andThen (looks_subIn X (by kernel_rfl))
  refine codeAny_call_builtin SF.slot.plain SF.entry (@check_slot (model pw w) _ _ _ "object.__setattr__" "object" "__setattr__" (.ref d) [.str (Str.ofString "_frozen") s.toks, v] [] _ SF.kind SF.split sub (SF.args (.ref d) (.str (Str.ofString "_frozen") s.toks) v) ?_)
  have hm : Looks (model pw w) s.heap (mroOf (.ref (nat_lit 122))) cd.mro := (looks_clsIn X hc).andThen .now
  have hf : findIn (KF w.params) (.ref (nat_lit 122)) (Str.ofString "_frozen") = some none := by kernel_rfl
  rw [osa_eq, refuse_eq]
  refine wpAny_bind (wpAny_bind (Looks.at I.type (wpAny_bind (Looks.at hm ?_))))
  rw [hmro, bk_refuse]
  refine wpAny_pure (wpAny_bind (Looks.at I.type (wpAny_bind (Looks.at (looks_findIn X hf) (wpAny_bind ?_)))))
  refine wpAny_pure ?_
  obtain ⟨U1, U2⟩ := news_upd (f := Obj.putName (Str.ofString "_frozen") (PyData.keyHash w.params (Str.ofString "_frozen")) (.str (Str.ofString "_frozen") (s.toks + 1)) v) (o' := frozenObj w.params (s.toks + 1) v) F N h1 h2 rfl rfl
  have D := (N (dx, emptyDict) (by simp)).1
  have D' := (U2 (dx, frozenObj w.params (s.toks + 1) v) (by simp)).1
  refine wpAny_bind (wpAny_pure (wpAny_bind (wpAny_bind (wpAny_loadPart I.at_ (wpAny_bind (Looks.at (looks_clsIn X hc) ?_))))))
  rw [hd']
  refine wpAny_pure (a := some dx) (wpAny_bind (wpAny_pure (wpAny_bind ?_)))
  unfold nsSet
  refine wpAny_bind (wpAny_bind (wpAny_askSetting (wpAny_pure (wpAny_bind (wpAny_mkText (wpAny_bind (wpAny_loadPart D ?_)))))))
  dsimp only
  rw [aRefKeyMayBeTheName_at, show (!(#[] : Array DictEntry).any (·.key.isStr (Str.ofString "_frozen")) && (#[] : Array DictEntry).any (·.refKey)) = false by simp]
  refine wpAny_updatePart D ?_
  refine wpAny_bind (wpAny_lookBehind D' (by exact pastItsLine_dict (by simp [sizeLine_eq])) ?_)
  exact wpAny_pure (h _ _ U1 U2)
end Mine
end
section
open PySem PySem.W PyProof.Rows
set_option Elab.async false
set_option maxRecDepth 100000
set_option maxHeartbeats 4000000
namespace Mine
def lamA : List Stmt → Arguments
  | .Assign _ (.Lambda a _ _ _) _ :: _ => a
  | _ => ⟨[], [], none, [], [], none, []⟩
def lamB : List Stmt → Expr
  | .Assign _ (.Lambda _ b _ _) _ :: _ => b
  | _ => .Name Str.empty ⟨0, 0, 0, 0⟩
def lamS : List Stmt → Scope
  | .Assign _ (.Lambda _ _ s _) _ :: _ => s
  | _ => default
abbrev lamQual : Str := (Str.ofString "FreezableDefaultDict.freeze" ++ Str.ofString ".<locals>.") ++ Str.ofString "<lambda>"
noncomputable def lamObj (cl c : Addr) (pm ct : Value) : Obj := (by
  refine (fun (k : Obj) (_ : (let cl := cl; let c := c; let pm := pm; let ct := ct; (kla_obj (Str.ofString "<lambda>") lamQual (lamA (dBody (dIn 7 2))) (lamB (dBody (dIn 7 2))) (lamS (dBody (dIn 7 2))) [(Str.ofString "self", cl)] pm c ct : Obj)) = k) => k) ?k ?h
  case h => dsimp only [lamA, lamB, lamS, dTop, dIn, nth, clsBody, dArgs, dBody, dScope, docOf, Challenge.pw_in0007_01]; exact rfl)
/-- the frozen book lies in the ledger -/
def FrozenIn (w : World) (news : List (Addr × Obj)) (d : Addr) (kvs : List (Str × Value)) : Prop :=
  ∃ dx es ep f c oc vs tq pm ct cl o tk, (d, bookObj dx es ep) ∈ news ∧ BookDat (sk w) es kvs ∧ (dx, frozenObj w.params tk (.ref f)) ∈ news ∧ (f, lamObj cl c pm ct) ∈ news ∧ (cl, o) ∈ news ∧ o.data = .cell (some (.ref d)) ∧
    (c, oc) ∈ news ∧ oc.data = .fields vs ∧ vs[1]? = some (.str lamQual tq) ∧ (d == sysModules) = false
end Mine
end
section
open PySem PySem.W PyProof.Rows
set_option Elab.async false
set_option maxRecDepth 100000
set_option maxHeartbeats 400000
namespace Mine
theorem warmFz : (fun (_ : Params → Frag) (_ : OpenLaw) => True) KF Challenge.rw_in0007_01 := by
  k_fill
  trivial
local macro_rules | `(tactic| k_room) => `(tactic| ktr_room)
local macro_rules | `(tactic| k_units) => `(tactic| ktr_units)
theorem freezec {w : World} {p : Program} {loose : List Str} {mean : ExcName → Option Value} {mg mb : Str → Option Value} {dp un : Nat} {gd : Option (List Code)} {cn : Str} {cs : Scope} {a : Addr} {ccd : Value} {cl : List (Str × Addr)} {outer : List Env} {A₀ : Around} {base h₀ : Heap} {L : Addr} {m : Str → Option Value} {news : List (Addr × Obj)} {s : Shared} {d dx : Addr} {es : Array DictEntry} {ep : Nat} {Q E : Value → Shared → Prop}
    (B : Below A₀ base outer h₀) (F : Fr h₀ L s.heap m) (X : (KF w.params).In h₀) (N : News h₀ L s.heap ((d, bookObj dx es ep) :: (dx, emptyDict) :: (nat_lit 114, tabObj #[]) :: news)) (T : Top p loose mean mg mb h₀) (hk : cs.kind = .function) (codeHd : CodeHd h₀ (nat_lit 118) (nat_lit 114)) (hn114 : ∀ p ∈ news, p.1 ≠ (nat_lit 114)) (hndx : ∀ p ∈ news, p.1 ≠ dx) (h114 : d ≠ (nat_lit 114) ∧ dx ≠ (nat_lit 114)) (hnd : ∀ p ∈ news, p.1 ≠ d)
    (hd : dp + 15 < recursionLimit) (hun : un + 160 < cLine) {kvs : List (Str × Value)} (BD : BookDat (sk w) es kvs) (hds : (d == sysModules) = false)
    (ret : ∀ h' tk' news' ps, Fr h₀ L h' m → News h₀ L h' (news' ++ news) → FrozenIn w news' d kvs → (nat_lit 114, tabObj ps) ∈ news' → (∀ p ∈ news', ∀ q ∈ news, q.1 ≠ p.1) → Q .none { s with heap := h', toks := tk' }) :
    wpAny (model pw w) (ktrTop dp un gd cn cs L a ccd cl outer) (call (.ref 119) [.ref d]) Q E s := by
  w_on
  obtain ⟨ck, cnm, cg, cc, cmore⟩ := cs
  cases hk
  k_steps
  rename_i g1 L1 h1 tk1 FG1 F1 B1 X1 T1 lt1 oc1 dc1 N1
  have C1 := codeHd.keeps FG1.keep
  have hL114 : L1 + 1 ≠ (nat_lit 114) := Nat.ne_of_gt (Nat.lt_succ_of_lt lt1.2.2.1)
  k_dflt (refine' kla_eval ?d0 ?_; (case d0 => exact rfl))
  k_dflt (refine' kla_nest F1 N1 T1 C1 ?cd ?U ?t ?n ?cl ?_; (case cd => exact rfl); (case U => exact UpdF.tail hL114 (UpdF.tail h114.1 (UpdF.tail h114.2 (UpdF.head hn114)))); (case t => kn_triples); (case n => kn_among); (case cl => exact rfl); k_whole)
  intro f' c' oc' vs' t' ct' h' tk' F' N' d1' d2' l1 l2
  dsimp only at N'
  k_steps
  have F2 := F'
  have N2 := N'
  have hd2 := (N2 (d, bookObj dx es ep) (.tail _ (.tail _ (.tail _ (.head _))))).1
  have hdx2 := (N2 (dx, emptyDict) (.tail _ (.tail _ (.tail _ (.tail _ (.head _)))))).1
  have hdxd : d ≠ dx := by
    intro e
    dsimp only at hd2 hdx2
    rw [e, hdx2] at hd2
    cases hd2
  refine bk_setattr (dx := dx) (es := es) (ep := ep) (pre := [(f', _), (c', oc'), (L1 + 1, oc1), (d, bookObj dx es ep)]) (post := (nat_lit 114, _) :: news) F2 N2 (X1.keeps F2.keep) ⟨hd2, rfl, rfl, hdx2⟩ ?q2 ?q3 ?_
  case q2 =>
    intro p hp
    rcases List.mem_cons.mp hp with rfl | hp
    · exact Nat.ne_of_gt (Nat.lt_trans (l1 (dx, emptyDict) (.tail _ (.tail _ (.head _)))) l2)
    · rcases List.mem_cons.mp hp with rfl | hp
      · exact Nat.ne_of_gt (l1 (dx, emptyDict) (.tail _ (.tail _ (.head _))))
      · rcases List.mem_cons.mp hp with rfl | hp
        · exact Nat.ne_of_gt (Nat.lt_succ_of_lt lt1.2.1)
        · rw [List.mem_singleton.mp hp]
          exact hdxd
  case q3 =>
    intro p hp
    rcases List.mem_cons.mp hp with rfl | hp
    · exact Ne.symm h114.2
    · exact hndx p hp
  intro h3 tk3 F3 N3
  k_steps
  rename Fr _ _ _ _ => F4
  rename News _ _ _ _ => N4
  refine ret h3 _ [(f', lamObj (L1 + 1) c' ((mg (Str.ofString "__name__")).getD Value.none) ct'), (c', oc'), (L1 + 1, oc1), (d, bookObj dx es ep), (dx, frozenObj w.params tk3 (Value.ref f')), (nat_lit 114, _)] _ F4 N4 ?_ (.tail _ (.tail _ (.tail _ (.tail _ (.tail _ (.head _)))))) ?_
  · refine ⟨dx, es, ep, f', c', oc', vs', t', _, ct', L1 + 1, oc1, tk3, .tail _ (.tail _ (.tail _ (.head _))), BD, .tail _ (.tail _ (.tail _ (.tail _ (.head _)))), .head _, .tail _ (.tail _ (.head _)), dc1, .tail _ (.head _), d1', d2', hds⟩
  · have hL1 : ∀ q ∈ news, q.1 < L1 := fun q hq => tb_ltOf lt1.2.2.2 q hq
    have hc : ∀ q ∈ news, q.1 < c' := fun q hq => l1 q (.tail _ (.tail _ (.tail _ (.tail _ hq))))
    intro p hp q hq
    simp only [List.mem_cons, List.not_mem_nil, or_false] at hp
    rcases hp with rfl | rfl | rfl | rfl | rfl | rfl
    · exact Nat.ne_of_lt (Nat.lt_trans (hc q hq) l2)
    · exact Nat.ne_of_lt (hc q hq)
    · exact Nat.ne_of_lt (Nat.lt_succ_of_lt (hL1 q hq))
    · exact hnd q hq
    · exact hndx q hq
    · exact hn114 q hq
end Mine
end
section
open PySem PySem.W PyProof.Rows
set_option Elab.async false
set_option maxRecDepth 100000
set_option maxHeartbeats 400000
namespace Mine
theorem warmMissF : (fun (_ : Params → Frag) (_ : OpenLaw) => True) KF Challenge.rw_in0007_01 := by
  k_fill
  trivial
local macro_rules | `(tactic| k_room) => `(tactic| ktr_room)
local macro_rules | `(tactic| k_units) => `(tactic| ktr_units)
local macro_rules | `(tactic| x_close) => `(tactic| (first | exact RetN.use (by assumption) (by assumption) | exact RetN.use (by assumption) (W.X.Mem.start _)))
theorem ga_frozen {w : World} {dp un : Nat} {gd : Option (List Code)} {cn : Str} {cs : Scope} {a L : Addr} {ccd : Value} {cl : List (Str × Addr)} {outer : List Env} {env : Env} {Q E : Value → Shared → Prop} {h : Heap} {g : Array GenState} {dr : Drawn} {t : Nat} {os : OsState} {d dx bm f : Addr} {es : Array DictEntry} {ep tk tk2 : Nat}
    (X : (KF w.params).In h) (hd : h.get? d = some ⟨.ref (nat_lit 122), some dx, .dict es ep, #[some (.ref (nat_lit 227))]⟩) (hdx : h.get? dx = some ⟨.type "dict", none, .dict #[⟨PyData.keyHash w.params (Str.ofString "_frozen"), .str (Str.ofString "_frozen") tk2, .ref f⟩] 1, #[]⟩)
    (ret : RetN Q (.ref f) h g dr os) :
    wpAny (model pw w) ((ktrTop dp un gd cn cs L a ccd cl outer).deeper env) (call (.builtin "getattr") [.ref d, .str (Str.ofString "_frozen") tk, .ref bm]) Q E ⟨h, g, dr, t, os⟩ := by
  x_run
theorem ty_df : typeOf (.builtin "collections.defaultdict.default_factory") = pure (.type "member_descriptor") := by show builtinType _ = _; rw [builtinType_eq_fast]; kernel_rfl
theorem ddga_slot : Slot "collections.defaultdict" "__getattribute__" "collections.defaultdict.__getattribute__" :=
  .of (owner := "collections.defaultdict") (n := "__getattribute__") (by rw [typeLookup_type, builtinLookup_eq_fast]; kernel_rfl) (by decide +kernel) (by decide +kernel) (by decide +kernel)
    (by first | exact .inl (by decide +kernel) | exact .inr (by decide +kernel)) (by rw [isSubtype_type]; kernel_rfl)
theorem df_get {w : World} {dp un : Nat} {gd : Option (List Code)} {cn : Str} {cs : Scope} {a L : Addr} {ccd : Value} {cl : List (Str × Addr)} {outer : List Env} {env env2 : Env} {Q E : Value → Shared → Prop} {h : Heap} {g : Array GenState} {dr : Drawn} {t tk : Nat} {os : OsState} {d dx f : Addr} {es : Array DictEntry} {ep tk2 : Nat}
    (X : (KF w.params).In h) (hd : h.get? d = some ⟨.ref (nat_lit 122), some dx, .dict es ep, #[some (.ref (nat_lit 227))]⟩) (hdx : h.get? dx = some ⟨.type "dict", none, .dict #[⟨PyData.keyHash w.params (Str.ofString "_frozen"), .str (Str.ofString "_frozen") tk2, .ref f⟩] 1, #[]⟩)
    (ret : RetN Q (.ref (nat_lit 227)) h g dr os) :
    wpAny (model pw w) (((ktrTop dp un gd cn cs L a ccd cl outer).deeper env).deeper env2) (call (.builtin "collections.defaultdict.__getattribute__") [.ref d, .str (Str.ofString "default_factory") tk]) Q E ⟨h, g, dr, t, os⟩ := by
  x_run
theorem df_attr {w : World} {dp un : Nat} {gd : Option (List Code)} {cn : Str} {cs : Scope} {a L : Addr} {ccd : Value} {cl : List (Str × Addr)} {outer : List Env} {env env2 : Env} {Q E : Value → Shared → Prop} {h : Heap} {g : Array GenState} {dr : Drawn} {t : Nat} {os : OsState} {d dx f : Addr} {es : Array DictEntry} {ep tk2 : Nat} {expr : Bool}
    (X : (KF w.params).In h) (I : InstAt h d (bookObj dx es ep) (nat_lit 122) (some (frozenObj w.params tk2 (.ref f)))) (hdx : h.get? dx = some (frozenObj w.params tk2 (.ref f)))
    (ret : RetN Q (.ref (nat_lit 227)) h g dr os) :
    wpAny (model pw w) (((ktrTop dp un gd cn cs L a ccd cl outer).deeper env).deeper env2) (getAttr (.ref d) (Str.ofString "default_factory") expr) Q E ⟨h, g, dr, t, os⟩ := by
  have hga : findIn (KF w.params) (.ref (nat_lit 122)) (Str.ofString "__getattribute__") = some (some (.builtin "collections.defaultdict.__getattribute__")) := by kernel_rfl
  have hgn : findIn (KF w.params) (.ref (nat_lit 122)) (Str.ofString "__getattr__") = some none := by kernel_rfl
  have L1 := looks_findIn (M := model pw w) X hga
  have L2 := looks_findIn (M := model pw w) X hgn
  unfold getAttr getAttrBy
  refine wpAny_bind (wpAny_mkText (wpAny_holding (wpAny_bind (Looks.at I.type (wpAny_bind (Looks.at L1 ?_))))))
  dsimp only
  rw [if_neg (by decide)]
  unfold getAttrByItsOwn hookBefore callGetattribute boundAndCalled
  show wpAny _ _ (typeLookup (.ref (nat_lit 122)) "__getattr__" >>= _) _ _ _
  refine wpAny_bind (Looks.at L2 ?_)
  refine wpAny_bind (wpAny_attempt (wpAny_holding ?_))
  rw [if_neg (by cases expr <;> decide)]
  refine wpAny_bind (wpAny_of_eq (ddga_slot.bind _) ?_)
  refine df_get X I.at_ hdx ?_
  intro h6 t6 nw6 D6
  exact handed_on (by kernel_rfl) (ret h6 t6 nw6 D6)
theorem df_meth {w : World} {dp un : Nat} {gd : Option (List Code)} {cn : Str} {cs : Scope} {a L : Addr} {ccd : Value} {cl : List (Str × Addr)} {outer : List Env} {env env2 : Env} {Q : Value × List Value → Shared → Prop} {E : Value → Shared → Prop} {s : Shared} {d dx f : Addr} {es : Array DictEntry} {ep tk2 : Nat} {pl : Sem Bool}
    (X : (KF w.params).In s.heap) (I : InstAt s.heap d (bookObj dx es ep) (nat_lit 122) (some (frozenObj w.params tk2 (.ref f)))) (hdx : s.heap.get? dx = some (frozenObj w.params tk2 (.ref f)))
    (ret : RetN (fun v s' => Q (v, []) s') (.ref (nat_lit 227)) s.heap s.gens s.drawn s.os) :
    wpAny (model pw w) (((ktrTop dp un gd cn cs L a ccd cl outer).deeper env).deeper env2) (getMethod (.ref d) (Str.ofString "default_factory") pl) Q E s := by
  have hga : findIn (KF w.params) (.ref (nat_lit 122)) (Str.ofString "__getattribute__") = some (some (.builtin "collections.defaultdict.__getattribute__")) := by kernel_rfl
  have hgn : findIn (KF w.params) (.ref (nat_lit 122)) (Str.ofString "__getattr__") = some none := by kernel_rfl
  have hdf : findIn (KF w.params) (.ref (nat_lit 122)) (Str.ofString "default_factory") = some (some (.builtin "collections.defaultdict.default_factory")) := by kernel_rfl
  obtain ⟨hh, g, dr, t, os⟩ := s
  have u : wpAny (model pw w) (((ktrTop dp un gd cn cs L a ccd cl outer).deeper env).deeper env2) (do return (← getAttr (.ref d) (Str.ofString "default_factory"), ([] : List Value))) Q E ⟨hh, g, dr, t, os⟩ :=
    wpAny_bind (df_attr X I hdx fun h6 t6 nw6 D6 => wpAny_pure (ret h6 t6 nw6 D6))
  unfold getMethod specialOf
  refine wpAny_bind (wpAny_bind (Looks.at I.type (Looks.at (looks_findIn X hga) ?_)))
  dsimp only
  rw [if_neg (by decide +kernel)]
  refine wpAny_bind (wpAny_bind (Looks.at I.type (Looks.at (looks_findIn X hgn) ?_)))
  refine wpAny_bind (wpAny_bind (Looks.at I.type (Looks.at (looks_findIn X hdf) ?_)))
  refine wpAny_bind (wpAny_of_eq ty_df ?_)
  rw [if_pos (by decide)]
  exact u
theorem missF {w : World} {p : Program} {loose : List Str} {mean : ExcName → Option Value} {mg mb : Str → Option Value} {dp un : Nat} {gd : Option (List Code)} {cn : Str} {cs : Scope} {a : Addr} {ccd : Value} {cl : List (Str × Addr)} {outer : List Env} {A₀ : Around} {base h₀ : Heap} {L : Addr} {m : Str → Option Value} {news : List (Addr × Obj)} {s : Shared} {d : Addr} {k : Str} {t : Tok} {Q E : Value → Shared → Prop}
    (B : Below A₀ base outer h₀) (F : Fr h₀ L s.heap m) (X : (KF w.params).In h₀) (N : News h₀ L s.heap news) (T : Top p loose mean mg mb h₀) (hk : cs.kind = .function)
    (hd : dp + 15 < recursionLimit) (hun : un + 160 < cLine) {kvs : List (Str × Value)} (FR : FrozenIn w news d kvs)
    (ret : ∀ nd o h' tk', Fr h₀ L h' m → News h₀ L h' ((nd, o) :: news) → (∀ p ∈ news, p.1 < nd) → (nd == sysModules) = false → o.IsDictOf (sk w) [] → Q (.ref nd) { s with heap := h', toks := tk' }) :
    wpAny (model pw w) (ktrTop dp un gd cn cs L a ccd cl outer) (call (.ref 112) [.ref d, .str k t]) Q E s := by
  w_on
  obtain ⟨ck, cnm, cg, cc, cmore⟩ := cs
  cases hk
  obtain ⟨dx, es, ep, f, c, oc, vs, tq, pm, ct, clc, oC, tk0, md, BD, mdx, mf, mcl, hcl, mc, hoc, hvs, hds⟩ := FR
  refine wpAny_call ?_
  k_dflt ks_enter
  dsimp (config := { failIfUnchanged := false }) only []
  refine ks_wpAt_execs_cons (ks_wpAt_Return_some (at_Call rfl (at_CallH rfl ?_)))
  k_steps
  refine Halt.go (at_callWith3 ?_)
  refine at_spliced_consH ?_
  k_steps
  refine Halt.go (at_spliced_consH ?_)
  k_steps
  refine Halt.go (at_spliced_cons ?_)
  refine at_Attribute ?_
  rename Fr _ _ _ _ => F1
  rename News _ _ _ _ => N1
  have I1 : InstAt _ d (bookObj dx es ep) (nat_lit 122) (some (frozenObj w.params tk0 (.ref f))) := ⟨(N1 _ md).1, rfl, rfl, (N1 _ mdx).1⟩
  k_dflt (refine' ks_node (C := nat_lit 122) (D := nat_lit 122) ?q1 ?q2 ?q3 ?q4 ?q5 ?q6 ?q7 ?q8 ?q9 ?q10 ?q11 ?q12 ?q13 ?q14 ?q15 ?q16 ?q17 ?q18 ?q19 ?q20 ?q21 ?q22 ?_)
  case q1 => k_asm
  case q2 => k_asm
  case q3 => k_asm
  case q4 => k_asm
  case q5 => k_is
  case q6 => rfl
  case q7 => rfl
  case q8 => exact I1
  case q9 => k_is
  case q10 => rfl
  case q11 => first | rfl | decide +kernel
  case q12 => k_is
  case q13 => k_is
  case q14 => k_is
  case q15 => k_is
  case q16 => decide
  case q17 => rfl
  case q18 => rfl
  case q19 => rfl
  case q20 => rfl
  case q21 => decide +kernel
  case q22 => first | boot_by_name | rfl | kernel_rfl
  intro so h1 F2 N2 l1
  rename (KF w.params).In _ => X1
  have X2 := X1.keeps F2.keep
  refine sup_get (dx := dx) (es := es) (ep := ep) X2 (N2 _ (.tail _ md)).1 (N2 _ (.head _)).1 ?_
  intro v h2 t2 nw D hv
  obtain ⟨bm, rfl, rfl⟩ := hv
  have F3 := F2.keeps (memKeep D)
  have N3 := memNews D F2 N2
  have off3 := memOff D N2
  clear F2 N2
  refine PySem.wpAt_of_wpAny (Calls.spliced_nil ?_)
  refine ga_frozen (X1.keeps F3.keep) (N3 _ (.tail _ (.tail _ md))).1 (N3 _ (.tail _ (.tail _ mdx))).1 ?_
  intro h3 t3 nw D4
  have N4 := memNews D4 F3 N3
  have F4 := F3.keeps (memKeep D4)
  replace N4 := N4.right
  clear N3 F3
  simp only [List.cons_append, List.nil_append] at N4 off3
  clear N1 F1 I1 X2
  obtain ⟨fd, hfd⟩ : ∃ fd, (lamObj clc c pm ct).data = .func fd := ⟨_, rfl⟩
  refine PySem.wpAt_of_wpAny (Calls.callWith_function (o := lamObj clc c pm ct) (fd := fd) (Calls.evalArgs_plain (Calls.spliced_cons ?_)))
  k_steps
  · exact (N4 _ (.tail _ (.tail _ mf))).1
  have hmf : ((f, lamObj clc c pm ct) : Addr × Obj) ∈ (bm, boundMiss d) :: (so, ks_superObj 122 d 122) :: news := .tail _ (.tail _ mf)
  have hcd : h3.CodeRec (.ref c) lamQual := ⟨c, oc, vs, tq, rfl, (N4 _ (.tail _ (.tail _ mc))).1, hoc, hvs⟩
  unfold lamObj at hmf
  dsimp only [List.nil_append]
  refine wpAny_call ?_
  k_dflt (refine' kla_code ?k1 ?k2 ?k3 ?k4 ?k5 ?kA ?kF ?kK hmf hcd ?k8 ?k9 ?kB ?_ ?c2 ?c3 ?c4 ?c5; (case kA => exact rfl); (case kF => exact rfl); (case kK => exact rfl); (case k1 => k_asm); (case k2 => k_asm); (case k3 => k_asm); (case k4 => k_asm); (case k5 => k_asm); (case k8 => ktr_room); (case k9 => exact rfl); (case c5 => decide); (case kB => exact locs rfl); (case c2 => exact rfl); (case c3 => exact rfl); (case c4 => exact rfl); k_whole)
  intro g5 L5 h5 FG5 F5 N5 B5 X5 T5
  have hm5 : ((clc, oC) : Addr × Obj) ∈ (bm, boundMiss d) :: (so, ks_superObj 122 d 122) :: news := .tail _ (.tail _ mcl)
  have md5 : ((d, bookObj dx es ep) : Addr × Obj) ∈ (bm, boundMiss d) :: (so, ks_superObj 122 d 122) :: news := .tail _ (.tail _ md)
  have mdx5 : ((dx, frozenObj w.params tk0 (.ref f)) : Addr × Obj) ∈ (bm, boundMiss d) :: (so, ks_superObj 122 d 122) :: news := .tail _ (.tail _ mdx)
  have I5 : InstAt h5 d (bookObj dx es ep) (nat_lit 122) (some (frozenObj w.params tk0 (.ref f))) := ⟨(N5 _ md5).1, rfl, rfl, (N5 _ mdx5).1⟩
  have X5h := X5.keeps F5.keep
  refine MethodCall_ ?_
  refine wpAny_Name (wpAny_loadName_free (by rfl) (by rfl) (by rfl) ⟨oC, N5.get hm5, hcl⟩ ?_ (by decide)) (by decide)
  refine df_meth X5h I5 (N5 _ mdx5).1 ?_
  intro h6 t6 nw6 D6
  have N6 := (memNews D6 F5 N5).right
  have F6 := F5.keeps (memKeep D6)
  clear N5 F5 I5 N4 F4
  dsimp only
  obtain ⟨oc7, od7, fd7, sl7, hf7⟩ := fn_of (K := KF w.params) (f := nat_lit 227) (by kernel_rfl)
  refine Calls.callWith_function (o := ⟨oc7, od7, .func fd7, sl7⟩) (fd := fd7) (PyProof.Rows.evalArgs_none ⟨⟨(X5.keeps F6.keep) _ _ hf7, rfl⟩, ?_⟩)
  dsimp only [List.nil_append]
  refine wpAny_call ?_
  k_dflt (refine' code_def ?k1 ?k2 ?k3 ?k4 ?k5 ?kA ?kF ?kK ?k6 ?k7 ?k8 ?k9 ?kB ?_ ?c2 ?c3 ?c4 ?c5; (case kA => exact rfl); (case kF => exact rfl); (case kK => exact rfl); (case k1 => k_asm); (case k2 => k_asm); (case k3 => k_asm); (case k4 => k_asm); (case k5 => k_asm); (case k6 => k_is); (case k7 => k_is); (case k8 => ktr_room); (case k9 => exact BindsTo.of_eq rfl); (case c5 => decide); (case kB => exact locs rfl); (case c2 => exact rfl); (case c3 => exact rfl); (case c4 => exact rfl); k_whole; intro g' L' h' FG' F' N' B' X' T'; (try dsimp only); (try k_fold))
  k_steps
  rename_i nd h9 o9 _ _ lo9 hs9 _ _ _ l9 _ _ _ _ _ _ _ _ F9 N9 _ _
  refine ret nd o9 h9 _ F9 (fun p hp => N9 p ?_) (tb_ltOf l9.2.2) lo9 hs9
  rcases List.mem_cons.mp hp with rfl | hp
  · exact .head _
  · exact .tail _ (.tail _ (.tail _ hp))
theorem bk_missF {w : World} {p : Program} {loose : List Str} {mean : ExcName → Option Value} {mg mb : Str → Option Value} {dp un : Nat} {gd : Option (List Code)} {cn : Str} {cs : Scope} {a : Addr} {ccd : Value} {cl : List (Str × Addr)} {outer : List Env} {A₀ : Around} {base h₀ : Heap} {L : Addr} {m : Str → Option Value} {news : List (Addr × Obj)} {s : Shared} {d : Addr} {k : Str} {t : Tok} {Q E : Value → Shared → Prop}
    (B : Below A₀ base outer h₀) (F : Fr h₀ L s.heap m) (X : (KF w.params).In h₀) (N : News h₀ L s.heap news) (T : Top p loose mean mg mb h₀) (hk : cs.kind = .function)
    (hd : dp + 15 < recursionLimit) (hun : un + 170 < cLine) {kvs : List (Str × Value)} (FR : FrozenIn w news d kvs) (hn : valueAt kvs k = none)
    (ret : ∀ nd o h' tk', Fr h₀ L h' m → News h₀ L h' ((nd, o) :: news) → (∀ p ∈ news, p.1 < nd) → (nd == sysModules) = false → o.IsDictOf (sk w) [] → Q (.ref nd) { s with heap := h', toks := tk' }) :
    wpAny (model pw w) (ktrTop dp un gd cn cs L a ccd cl outer) (getItem (.ref d) (.str k t)) Q E s := by
  obtain ⟨dx, es, ep, f, c, oc, vs, tq, pm, ct, clc, oC, tk0, md, BD, mdx, rest⟩ := id FR
  have I : InstAt s.heap d (bookObj dx es ep) (nat_lit 122) (some (frozenObj w.params tk0 (.ref f))) := ⟨(N _ md).1, rfl, rfl, (N _ mdx).1⟩
  refine bk_missed (X.keeps F.keep) I BD hn rest.2.2.2.2.2.2 ?_
  exact missF (s := { s with toks := s.toks + 1 }) B F X N T hk hd (un := un + 1) (by omega) FR ret
theorem bk_hitF {w : World} {A : Around} {h₀ : Heap} {L : Addr} {m : Str → Option Value} {news : List (Addr × Obj)} {s : Shared} {d : Addr} {k : Str} {t : Tok} {v : Value} {Q E : Value → Shared → Prop} (F : Fr h₀ L s.heap m) (X : (KF w.params).In h₀) (N : News h₀ L s.heap news) {kvs : List (Str × Value)} (FR : FrozenIn w news d kvs) (hv : valueAt kvs k = some v)
    (h : Q v { s with toks := s.toks + 1 }) : wpAny (model pw w) A (getItem (.ref d) (.str k t)) Q E s := by
  obtain ⟨dx, es, ep, f, c, oc, vs, tq, pm, ct, clc, oC, tk0, md, BD, mdx, rest⟩ := id FR
  have I : InstAt s.heap d (bookObj dx es ep) (nat_lit 122) (some (frozenObj w.params tk0 (.ref f))) := ⟨(N _ md).1, rfl, rfl, (N _ mdx).1⟩
  exact bk_hit (X.keeps F.keep) I BD hv h
end Mine
end
section
open PySem PySem.W PyProof.Rows
set_option Elab.async false
set_option maxRecDepth 100000
set_option maxHeartbeats 400000
namespace Mine
def TabsIn (w : World) (news : List (Addr × Obj)) (kvs : List (Str × Value)) (TB : Str → List (Str × Int)) : Prop :=
  ∀ k, match valueAt kvs k with
    | some v => ∃ a o kt, v = .ref a ∧ (a == sysModules) = false ∧ (a, o) ∈ news ∧ o.IsDictOf (sk w) kt ∧ IntD kt (TB k)
    | none => TB k = []
theorem TabsIn.mono {w : World} {n n' : List (Addr × Obj)} {kvs : List (Str × Value)} {TB : Str → List (Str × Int)} (h : TabsIn w n kvs TB) (k : ∀ p ∈ n, p ∈ n') : TabsIn w n' kvs TB := by
  intro x
  have := h x
  split at this
  · obtain ⟨a, o, kt, e, l, hm, r⟩ := this
    exact ⟨a, o, kt, e, l, k _ hm, r⟩
  · exact this
theorem FrozenIn.mono {w : World} {n n' : List (Addr × Obj)} {d : Addr} {kvs : List (Str × Value)} (h : FrozenIn w n d kvs) (k : ∀ p ∈ n, p ∈ n') : FrozenIn w n' d kvs := by
  obtain ⟨dx, es, ep, f, c, oc, vs, tq, pm, ct, cl, o, tk, h1, h2, h3, h4, h5, h6, h7, r⟩ := h
  exact ⟨dx, es, ep, f, c, oc, vs, tq, pm, ct, cl, o, tk, k _ h1, h2, k _ h3, k _ h4, k _ h5, h6, k _ h7, r⟩
theorem readF {w : World} {p : Program} {loose : List Str} {mean : ExcName → Option Value} {mg mb : Str → Option Value} {dp un : Nat} {gd : Option (List Code)} {cn : Str} {cs : Scope} {a : Addr} {ccd : Value} {cl : List (Str × Addr)} {outer : List Env} {A₀ : Around} {base h₀ : Heap} {L : Addr} {m : Str → Option Value} {news : List (Addr × Obj)} {s : Shared} {d : Addr} {k : Str} {t : Tok} {Q E : Value → Shared → Prop}
    (B : Below A₀ base outer h₀) (F : Fr h₀ L s.heap m) (X : (KF w.params).In h₀) (N : News h₀ L s.heap news) (T : Top p loose mean mg mb h₀) (hk : cs.kind = .function)
    (hd : dp + 15 < recursionLimit) (hun : un + 170 < cLine) {kvs : List (Str × Value)} (FR : FrozenIn w news d kvs) {TB : Str → List (Str × Int)} (TI : TabsIn w news kvs TB)
    (ret : ∀ u ou ku pre h' tk', Fr h₀ L h' m → News h₀ L h' (pre ++ news) → (∀ p ∈ pre, ∀ q ∈ news, q.1 < p.1) → (u, ou) ∈ pre ++ news → (u == sysModules) = false → ou.IsDictOf (sk w) ku → IntD ku (TB k) → Q (.ref u) { s with heap := h', toks := tk' }) :
    wpAny (model pw w) (ktrTop dp un gd cn cs L a ccd cl outer) (getItem (.ref d) (.str k t)) Q E s := by
  have TIk := TI k
  cases hv : valueAt kvs k with
  | some v =>
    rw [hv] at TIk
    obtain ⟨b, o, kt, rfl, hl, hm, hdo, hi⟩ := TIk
    exact bk_hitF F X N FR hv (ret b o kt [] s.heap _ F N (fun _ h => nomatch h) hm hl hdo hi)
  | none =>
    rw [hv] at TIk
    refine bk_missF B F X N T hk hd hun FR hv fun nd o h' tk' F' N' l lo hdo => ?_
    exact ret nd o [] [(nd, o)] h' tk' F' N' (fun p hp q hq => by rw [List.mem_singleton.mp hp]; exact l q hq) (.head _) lo hdo (by rw [TIk]; trivial)
theorem bk_sub {w : World} {A : Around} {E : Value → Shared → Prop} {s : Shared} {d dx : Addr} {od : Obj} {es : Array DictEntry} {ep : Nat} {value slice : Expr} {i : Value} {Q : Value → Shared → Prop} (X : (KF w.params).In s.heap) (I : InstAt s.heap d (bookObj dx es ep) (nat_lit 122) (some od))
    (h : wpAny (model pw w) A (getItem (.ref d) i) Q E s) (hs : subscripted slice false (.ref d) i = operate [.ref d, i] (getItem (.ref d) i) := by with_unfolding_all rfl) :
    wpAny (model pw w) A (subscriptTail value slice (.ref d) i) Q E s := by
  have hg : findIn (KF w.params) (.ref (nat_lit 122)) (Str.ofString "__getitem__") = some (some (.builtin "dict.__getitem__")) := by kernel_rfl
  unfold subscriptTail
  refine wpAny_bind ?_
  unfold getitemInPython specialOf
  refine wpAny_bind (wpAny_bind (I.type.here ((looks_findIn X hg).here ?_)))
  refine wpAny_pure (wpAny_bind ?_)
  rw [hs]
  exact wpAny_operating (wpAny_mono h (fun r s₃ h₃ => wpAny_bind (wpAny_letTemporaryGo (wpAny_pure h₃))) fun _ _ x => x)
theorem FrozenIn.inst {w : World} {h₀ h : Heap} {L : Addr} {n : List (Addr × Obj)} {d : Addr} {kvs : List (Str × Value)} (H : FrozenIn w n d kvs) (N : News h₀ L h n) : ∃ dx es ep od, InstAt h d (bookObj dx es ep) (nat_lit 122) (some od) := by
  obtain ⟨dx, es, ep, f, c, oc, vs, tq, pm, ct, cl, o, tk, h1, h2, h3, r⟩ := H
  exact ⟨dx, es, ep, _, (N _ h1).1, rfl, rfl, (N _ h3).1⟩
end Mine
end
section
open PySem PySem.W PyProof.Rows
set_option Elab.async false
set_option maxRecDepth 100000
set_option maxHeartbeats 400000
namespace Mine
theorem warmCl : (fun (_ : Params → Frag) (_ : OpenLaw) => True) KF Challenge.rw_in0007_01 := by
  k_fill
  trivial
local macro_rules | `(tactic| k_room) => `(tactic| ktr_room)
local macro_rules | `(tactic| k_units) => `(tactic| ktr_units)
local macro_rules | `(tactic| walk_at "eval Name") => `(tactic| ((with_reducible show wpAny _ _ (eval (Expr.Name _ _) (compEnvC _ _ _ _)) _ _ _); (refine cn_own (by assumption) (by rfl) ?_)))
local macro_rules | `(tactic| walk_at "call ref") => `(tactic| ((with_reducible show wpAny _ _ (call (Value.ref 46) _ _) _ _ _); refine Halt.at ?_))
local macro_rules | `(tactic| walk_at "eval DictComp") => `(tactic| refine Halt.at ?_)
local macro_rules | `(tactic| walk_at "exec For Tuple Call cons nil") => `(tactic| refine Halt.at ?_)
theorem ldE {prog : Program} {w : World} {A : Around} {E : Value → Shared → Prop} {s : Shared} {env : Env} {h₀ : Heap} {L : Addr} {m : Str → Option Value} {x : Str} {pos : Pos} {v : Value} {Q : Value → Shared → Prop} (F : Fr h₀ L s.heap m) (hL : env.locals = L) (hx : m x = some v) (h : Q v s)
    (hk : env.scope.kind = .function := by rfl) (hl : env.kindOf x = some .local := by rfl) (hd : (x == ("__debug__" : Str)) = false := by decide) :
    wpAny (model prog w) A (eval (.Name x pos) env) Q E s := by
  subst hL
  exact wpAny_Name (wpAny_loadName_local hk hl F.ns hx h) hd
def climb (TB : Str → List (Str × Int)) (D : List (Str × Int)) : List (Str × Int) := D.foldl (fun acc q => addAll acc ((TB q.1).map fun e => (e.1, q.2 * e.2))) []
theorem climb_snoc (TB : Str → List (Str × Int)) (D : List (Str × Int)) (q : Str × Int) : climb TB (D ++ [q]) = addAll (climb TB D) ((TB q.1).map fun e => (e.1, q.2 * e.2)) := by
  show (D ++ [q]).foldl _ [] = _
  rw [List.foldl_append]; rfl
theorem climb_length (TB : Str → List (Str × Int)) (h : ∀ k, (TB k).length ≤ 20) : ∀ D : List (Str × Int), (climb TB D).length ≤ 20 * D.length := by
  have go : ∀ (D acc : List (Str × Int)), (D.foldl (fun acc q => addAll acc ((TB q.1).map fun e => (e.1, q.2 * e.2))) acc).length ≤ acc.length + 20 * D.length := by
    intro D
    induction D with
    | nil => intro acc; exact Nat.le_refl _
    | cons q r ih =>
      intro acc
      have h1 := ih (addAll acc ((TB q.1).map fun e => (e.1, q.2 * e.2)))
      have h2 := addAll_length acc ((TB q.1).map fun e => (e.1, q.2 * e.2))
      have h3 := h q.1
      rw [List.length_map] at h2
      rw [List.foldl_cons, List.length_cons]
      omega
  intro D
  have := go D []
  simpa [climb] using this
theorem climbc {w : World} {p : Program} {loose : List Str} {mean : ExcName → Option Value} {mg mb : Str → Option Value} {dp un : Nat} {gd : Option (List Code)} {cn : Str} {cs : Scope} {a : Addr} {ccd : Value} {cl : List (Str × Addr)} {outer : List Env} {A₀ : Around} {base h₀ : Heap} {L : Addr} {m : Str → Option Value} {news : List (Addr × Obj)} {s : Shared} {d t : Addr} {ot : Obj} {kt kvs : List (Str × Value)} {Q E : Value → Shared → Prop}
    (B : Below A₀ base outer h₀) (F : Fr h₀ L s.heap m) (X : (KF w.params).In h₀) (N : News h₀ L s.heap news) (T : Top p loose mean mg mb h₀) (hk : cs.kind = .function)
    (FR : FrozenIn w news d kvs) {TB : Str → List (Str × Int)} (TI : TabsIn w news kvs TB) (hTB : ∀ k, (TB k).length ≤ 20 ∧ ∀ e ∈ TB k, Builtin.Int.intBits e.2 ≤ 64)
    (ht : (t, ot) ∈ news) (dt : ot.IsDictOf (sk w) kt) (lt : (t == sysModules) = false) {Dt : List (Str × Int)} (it : IntD kt Dt) (bt : Dt.length ≤ 20)
    (hd : dp + 40 < recursionLimit) (hun : un + 400 < cLine)
    (ret : ∀ r o kr h' tk', Fr h₀ L h' m → News h₀ L h' ((r, o) :: news) → (∀ q ∈ news, q.1 < r) → (r == sysModules) = false → o.IsDictOf (sk w) kr → IntD kr (climb TB Dt) → Q (.ref r) { s with heap := h', toks := tk' }) :
    wpAny (model pw w) (ktrTop dp un gd cn cs L a ccd cl outer) (call (.ref 239) [.ref d, .ref t]) Q E s := by
  w_on
  obtain ⟨ck, cnm, cg, cc, cmore⟩ := cs
  cases hk
  k_steps
  refine Halt.go ?_
  rename Fr _ _ _ _ => F1
  rename News _ _ _ _ => N1
  rename_i g1 L1 h1' tk1 FG1 B1 X1 T1 lt1 oC1 dC1 dA1 h1'' oA1 loA1 hsA1 fsA1 hiA1 fiA1 lA1 h1
  with_unfolding_all refine' For_turns F1 ?_
  k_whole
  with_unfolding_all ((refine MethodCall_ ?_); (refine ldE F1 (by rfl) (by rfl) ?_); (refine kdl_method (knd := sk w) PySem.F.slot_dict_items PySem.F.type_dict_items N1 (List.mem_cons_of_mem _ (List.mem_cons_of_mem _ ht)) dt ?_); (refine callWith_method0 ?_); (refine kta_callItems (knd := sk w) F1 N1 (List.mem_cons_of_mem _ (List.mem_cons_of_mem _ ht)) dt lt ?_))
  intro h2 hv2 F2 N2
  with_unfolding_all refine kta_items (knd := sk w) (enc := PyData.str) (xs := kt.map (fun p => Itm.pair (fun t => Value.str p.1 t) p.2)) (by rfl) F2 N2 hv2 (List.mem_cons_of_mem _ (List.mem_cons_of_mem _ ht)) dt (fun _ _ h => Value.isStrOf_shape h) rfl ?_
  intro I hI
  have hL1 : L1 + 1 < I := hI (L1 + 1, oC1) (.tail _ (.head _))
  refine itemsInv (α := Str × Value) (fun r mm n => ∃ oC dA oA kA rest Dd Dr, n = (dA, oA) :: (L1 + 1, oC) :: rest ∧ (∀ p ∈ news, p ∈ rest) ∧ (∀ p ∈ rest, p.1 ≠ L1 + 1) ∧ dA ≠ L1 + 1 ∧ (∀ p ∈ (dA, oA) :: (L1 + 1, oC) :: rest, p.1 ≠ I) ∧ (dA == sysModules) = false ∧ (∀ p ∈ news, p.1 < dA) ∧ oA.IsDictOf (sk w) kA ∧ IntD kA (climb TB Dd) ∧ Dt = Dd ++ Dr ∧ IntD r Dr ∧
    (∃ v, oC.data = .cell v) ∧ mm (Str.ofString "above") = some (.ref dA) ∧ mm (Str.ofString "book") = some (.ref d)) ?step ?done kt _ _ ?start
  case start =>
    exact ⟨oC1, dA1, oA1, [], news, [], Dt, rfl, fun p h => h, fun p hp => Nat.ne_of_lt (Nat.lt_succ_of_lt (lt1 p hp)), Nat.ne_of_gt lA1.1, fun p hp => Nat.ne_of_lt (hI p hp), loA1, tb_ltOf lA1.2, hsA1, trivial, rfl, it, ⟨_, dC1⟩, by with_unfolding_all rfl, by with_unfolding_all rfl⟩
  case step =>
    clear F1 N1 F2 N2 hv2
    rintro ⟨k, x⟩ r mm n ⟨oC, dA, oA, kA, rest, Dd, Dr, rfl, hsub, hoff, hdc, hnI, hlo, hltA, hdA, hiA, hDt, ir, ⟨vC, hvC⟩, m1, m2⟩ v h tk ⟨T2, t2, rfl, hT2⟩ F
    refine AllObj.cons fun oI cI => AllObj.nil fun N => ?_
    refine absG fun G E9 hG => ?_
    have F := putF (x := Str.ofString "book") (v := .ref d) (putF F m1) (by with_unfolding_all exact m2)
    cases Dr with
    | nil => exact ir.elim
    | cons q Dr =>
      obtain ⟨hq1, ⟨ux, hx⟩, ir⟩ := ir
      dsimp only at hq1 hx
      subst hq1 hx
      k_steps
      rename Fr _ _ _ _ => F4
      rename News _ _ _ _ => N4
      k_dflt (refine' storeX_C F4 N4 ?c (UpdF.tail (Nat.ne_of_gt hL1) (UpdF.tail hdc (UpdF.head hoff))) hvC ?_ ?a ?b; (case a => rfl); (case b => rfl); (case c => rfl); k_whole)
      intro h5 oC5 F5 N5 dC5
      dsimp only at N5 dC5 F5
      clear F4 N4 F N
      k_steps
      refine Halt.go ?_
      refine compDict (h₀ := g1) (cl := [(Str.ofString "ways", L1 + 1)]) ?hclos (by decide) (by rfl) (by decide) ?_
      case hclos => with_unfolding_all rfl
      with_unfolding_all refine MethodCall_ ?_
      k_steps
      have hsubn : ∀ p ∈ news, p ∈ (I, oI) :: (dA, oA) :: (L1 + 1, oC5) :: rest := fun p hp => .tail _ (.tail _ (.tail _ (hsub p hp)))
      have FR5 := FR.mono hsubn
      have TI5 := TI.mono hsubn
      obtain ⟨dx5, es5, ep5, od5, I5⟩ := FR5.inst N5
      refine bk_sub (X1.keeps F5.keep) I5 ?_
      refine readF B1 F5 X1 N5 T1 rfl ?hd ?hu FR5 TI5 ?_
      case hd => show dp + 1 + 15 < _; omega
      case hu => ktr_units
      intro u ou ku pre h6 tk6 F6 N6 lpre mu lu du iu
      with_unfolding_all ((refine kdl_method (knd := sk w) PySem.F.slot_dict_items PySem.F.type_dict_items N6 mu du ?_); (refine callWith_method0 ?_); (refine kta_callItems (knd := sk w) F6 N6 mu du lu ?_))
      intro h7 hv7 F7 N7
      refine srcItems (knd := sk w) (f := fun k t => Value.str k t) (by rfl) F7 N7 hv7 mu du (fun _ _ h => Value.isStrOf_shape h) ?body
      case body =>
        intro J h8 F8 N8 lJ lL hJ0 S8
        refine ⟨J, _, _, _, _, _, rfl, S8 _ _ _, F8, N8, ?_⟩
        intro D C oL h9 tk9 F9 N9 hNs S9 lD lC ln old9
        have hlu : u < J := lJ _ mu
        have muN : ∀ o : Obj, ((u, ou) : Addr × Obj) ∈ (D, o) :: (L1, oL) :: (pre ++ (I, oI) :: (dA, oA) :: (L1 + 1, oC5) :: rest) := fun o => .tail _ (.tail _ mu)
        obtain ⟨oJ, hoJ⟩ := (S8 [] 0 ⟨0, 0, 0, 0⟩).at
        have hJltD : J < D := (old9 J oJ hoJ).2
        have hJD : J ≠ D := Nat.ne_of_lt hJltD
        refine compInv (f := fun p : Str × Value => Itm.pair (fun t => Value.str p.1 t) p.2) (keep := [(u, ou)]) (bodyD pw w _ _ _ _ _ [] D) (fun G G' s k h => bodyD_mono G G' s k h) (fun s Q h => turnDict rfl rfl (by decide) h)
          (fun r mm n => ∃ oD kd kD Rd Rr, n = (D, oD) :: (L1, oL) :: (pre ++ (I, oI) :: (dA, oA) :: (L1 + 1, oC5) :: rest) ∧ oD.IsDictOf (sk w) kD ∧ IntD kD (Rd.map fun e => (e.1, q.2 * e.2)) ∧ ku = kd ++ r ∧ IntD r Rr ∧ TB q.1 = Rd ++ Rr) ?cstep ?cdone ku (S9) F9 N9 ?hnI ?hkp ?cstart hJ0 ?hJC ?hfp
        case cstart => exact ⟨_, [], [], [], TB q.1, rfl, ⟨#[], 0, ⟨rfl, rfl, rfl⟩, rfl, fun _ he => by simp at he, Pairs.nil, List.nodup_nil⟩, trivial, rfl, iu, rfl⟩
        case hnI =>
          intro p hp
          rcases List.mem_cons.mp hp with rfl | hp
          · exact Ne.symm hJD
          · rcases List.mem_cons.mp hp with rfl | hp
            · exact Nat.ne_of_lt lL
            · exact Nat.ne_of_lt (lJ p hp)
        case hkp => intro p hp; rw [List.mem_singleton.mp hp]; exact muN _
        case hJC => exact Nat.ne_of_lt (Nat.lt_trans hJltD lC)
        case hfp =>
          intro b hb
          rcases List.mem_cons.mp hb with rfl | hb
          · exact .inl rfl
          · rw [List.mem_singleton.mp hb]; exact .inr (.inl ⟨ou, .head _⟩)
        case cstep =>
          rintro ⟨ck, cx⟩ r2 mm2 n2 ⟨oD, kd, kD, Rd, Rr, rfl, dD, iD, hkd, irr, hTBe⟩ hnI2 v2 hh tkk oI2 cI2 ⟨T3, t3, rfl, hT3⟩ FF NN
          refine asg2 (by rfl) FF NN hT3 (by rfl) (by rfl) (by rfl) ?_
          intro hh2 tkk2 F10 N10
          cases Rr with
          | nil => exact irr.elim
          | cons e Rr =>
            obtain ⟨he1, ⟨ue, hxe⟩, irr⟩ := irr
            dsimp only at he1 hxe
            subst he1 hxe
            unfold bodyD afterTests
            dsimp only
            have mC : ((L1 + 1, oC5) : Addr × Obj) ∈ (J, oI2) :: (D, oD) :: (L1, oL) :: (pre ++ (I, oI) :: (dA, oA) :: (L1 + 1, oC5) :: rest) := .tail _ (.tail _ (.tail _ (List.mem_append_right _ (.tail _ (.tail _ (.head _))))))
            refine cn_own F10 (by rfl) ?_
            refine wpAny_BinOp ?_
            refine lcf_cell N10 (by rfl) mC dC5 ?_ (by rfl) (by rfl)
            refine cn_own F10 (by rfl) ?_
            refine PyProof.Rows.mul_int ?_ (IntMulOk.of_right ((hTB q.1).2 e (by rw [hTBe]; simp)))
            have hkk : e.1 ∉ kD.map (·.1) := by
              rw [iD.keys, List.map_map]
              have hn := keysNodup_of_isDictOf du
              rw [iu.keys, hTBe, List.map_append, List.map_cons, List.nodup_append] at hn
              intro hm
              exact hn.2.2 e.1 (by simpa using hm) e.1 (.head _) rfl
            have hsz : kD.length ≤ sizeLine := by
              have h1 := iD.length
              have h2 := (hTB q.1).1
              rw [hTBe] at h2
              rw [List.length_map] at h1
              rw [List.length_append, List.length_cons] at h2
              rw [sizeLine_eq]; omega
            refine dictSetN (knd := sk w) F10 N10 (UpdF.tail hJD (UpdF.head ?hDD)) dD (strKind_is _ _ _ _) hsz ?_
            case hDD =>
              intro p hp
              rcases List.mem_cons.mp hp with rfl | hp
              · exact Nat.ne_of_lt lD
              · exact Nat.ne_of_lt (ln p hp)
            intro h12 o12 F12 N12 d12
            rw [stored_new hkk] at d12
            refine ⟨h12, _, _, _, rfl, F12, N12, ?_, ?_, o12, kd ++ [(e.1, Value.int e.2 ue)], _, Rd ++ [e], Rr, rfl, d12, ?_, by rw [hkd, List.append_assoc]; rfl, irr, by rw [hTBe, List.append_assoc]; rfl⟩
            · intro p hp
              rcases List.mem_cons.mp hp with rfl | hp
              · exact Ne.symm hJD
              · exact hnI2 p (.tail _ hp)
            · intro p hp; rw [List.mem_singleton.mp hp]; exact muN _
            · rw [List.map_append]
              exact iD.append (IntD.one _ _ _)
        case cdone =>
          rintro mm2 n2 ⟨oD, kd, kD, Rd, Rr, rfl, dD, iD, hkd, irr, hTBe⟩ hnI2 hh tkk FF NN
          cases Rr with
          | cons e Rr => exact irr.elim
          | nil =>
            rw [List.append_nil] at hTBe
            refine ⟨rfl, oD, _, hh, tkk, mm2, rfl, FF, NN, fun p hp => (N8 p hp).2.1, ?_⟩
            intro h11 tk11 F11 N11
            clear FF NN F9 N9 F8 N8 F7 N7 F6 N6 F5 N5
            dsimp only at F11 N11 ⊢
            k_steps
            refine Halt.go ?_
            have N11' : News g1 L1 h11 ((D, oD) :: (pre ++ (I, oI) :: (dA, oA) :: (L1 + 1, oC5) :: rest)) := N11
            have mA : ((dA, oA) : Addr × Obj) ∈ (D, oD) :: (pre ++ (I, oI) :: (dA, oA) :: (L1 + 1, oC5) :: rest) := .tail _ (List.mem_append_right _ (.tail _ (.head _)))
            have hDm := notMods X1 (N11' _ (.head _)).2.2
            have hlen1 : (climb TB Dd).length ≤ 1000 := by
              have := climb_length TB (fun k => (hTB k).1) Dd
              rw [hDt, List.length_append] at bt
              omega
            have hlen2 : ((TB q.1).map fun e => (e.1, q.2 * e.2)).length ≤ 1000 := by
              have := (hTB q.1).1
              rw [List.length_map]; omega
            rw [← hTBe] at iD
            refine addc B1 F11 X1 N11 T1 rfl mA hdA hlo (.head _) dD hDm hiA iD hlen1 hlen2 ?hd2 ?hu2 ?_
            case hd2 => show dp + 1 + 5 < _; omega
            case hu2 => ktr_units
            intro r3 o3 kr3 h13 tk13 F13 N13 l13 lo13 d13 i13
            clear F11 N11 N11'
            k_steps
            rename Fr _ _ _ _ => F14
            rename News _ _ _ _ => N14
            have hIr : I < r3 := l13 (I, oI) (.tail _ (List.mem_append_right _ (.head _)))
            refine hG _ ⟨_, _, _, (r3, o3) :: (L1 + 1, oC5) :: rest, rfl, F14, ?N, ?ne, ⟨.tail _ (.tail _ (hsub _ ht)), trivial⟩, oC5, r3, o3, kr3, rest, Dd ++ [q], Dr, rfl, hsub, hoff, Nat.ne_of_gt (l13 (L1 + 1, oC5) (.tail _ (List.mem_append_right _ (.tail _ (.tail _ (.head _)))))), ?hnI, lo13, fun p hp => l13 p (.tail _ (List.mem_append_right _ (.tail _ (.tail _ (.tail _ (hsub _ hp)))))), d13, ?i, by rw [hDt, List.append_assoc]; rfl, ir, ⟨_, dC5⟩, by with_unfolding_all rfl, by with_unfolding_all rfl⟩
            case N =>
              intro p hp
              refine N14 p ?_
              rcases List.mem_cons.mp hp with rfl | hp
              · exact .tail _ (.tail _ (List.mem_append_right _ (.head _)))
              · rcases List.mem_cons.mp hp with rfl | hp
                · exact .head _
                · exact .tail _ (.tail _ (List.mem_append_right _ (.tail _ (.tail _ hp))))
            case hnI =>
              intro p hp
              rcases List.mem_cons.mp hp with rfl | hp
              · exact Nat.ne_of_gt hIr
              · rcases List.mem_cons.mp hp with rfl | hp
                · exact Nat.ne_of_lt hL1
                · exact hnI _ (.tail _ (.tail _ hp))
            case ne =>
              intro p hp q hq
              rw [List.mem_singleton.mp hq]
              rcases List.mem_cons.mp hp with rfl | hp
              · exact Nat.ne_of_gt hIr
              · rcases List.mem_cons.mp hp with rfl | hp
                · exact Nat.ne_of_lt hL1
                · exact hnI _ (.tail _ (.tail _ hp))
            case i =>
              rw [climb_snoc]; exact i13
  case done =>
    clear F1 N1 F2 N2 hv2
    rintro mm n ⟨oC, dA, oA, kA, rest, Dd, Dr, rfl, hsub, hoff, hdc, hnI, hlo, hltA, hdA, hiA, hDt, ir, ⟨vC, hvC⟩, m1, m2⟩ h tk F N
    cases Dr with
    | cons e Dr => exact ir.elim
    | nil =>
      rw [List.append_nil] at hDt
      subst hDt
      have F3 := putF F m1
      have N3 : News g1 L1 h ((dA, oA) :: news) := fun p hp => N p (by
        rcases List.mem_cons.mp hp with rfl | hp
        · exact .head _
        · exact .tail _ (.tail _ (hsub _ hp)))
      clear F N
      dsimp only
      k_steps
      exact ret dA oA kA _ _ (by assumption) (by assumption) hltA hlo hdA hiA
end Mine
end
section
open PySem PySem.W PyProof.Rows PySem.Calls PyProof.Rows.LCg
set_option Elab.async false
set_option maxRecDepth 100000
set_option maxHeartbeats 400000
namespace Mine
theorem add1_out {k : Str} {i : Int} : ∀ {D : List (Str × Int)}, (D.map (·.1)).any (· == k) = false → add1 D k i = D ++ [(k, i)]
  | [], _ => rfl
  | q :: r, h => by
    rw [List.map_cons, List.any_cons, Bool.or_eq_false_iff] at h
    have h1 : ¬ q.1 = k := by simpa using h.1
    show (if q.1 = k then _ else _) = _
    rw [if_neg h1, add1_out h.2]; rfl
theorem add1_in {k : Str} {i : Int} : ∀ {D : List (Str × Int)}, (D.map (·.1)).any (· == k) = true → (add1 D k i).map (·.1) = D.map (·.1) ∧ (add1 D k i).map (·.2) = (D.map (·.2)).set ((D.map (·.1)).idxOf k) ((D.map (·.2)).getD ((D.map (·.1)).idxOf k) 0 + i) ∧ (D.map (·.1)).idxOf k < D.length
  | [], h => by cases h
  | q :: r, h => by
    by_cases hq : q.1 = k
    · have e : add1 (q :: r) k i = (q.1, q.2 + i) :: r := by
        show (if q.1 = k then _ else _) = _
        rw [if_pos hq]
      have e0 : ((q :: r).map (·.1)).idxOf k = 0 := by rw [List.map_cons, List.idxOf_cons, hq]; simp
      rw [e, e0]
      simp
    · have e : add1 (q :: r) k i = q :: add1 r k i := by
        show (if q.1 = k then _ else _) = _
        rw [if_neg hq]
      rw [List.map_cons, List.any_cons] at h
      have hr : (r.map (·.1)).any (· == k) = true := by
        rcases Bool.or_eq_true_iff.mp h with h | h
        · exact absurd (by simpa using h) hq
        · exact h
      obtain ⟨a, b, c⟩ := add1_in (i := i) hr
      have e0 : ((q :: r).map (·.1)).idxOf k = (r.map (·.1)).idxOf k + 1 := by
        rw [List.map_cons, List.idxOf_cons, show (q.1 == k) = false by simpa using hq]
        rfl
      rw [e, e0]
      refine ⟨by rw [List.map_cons, a, List.map_cons], ?_, by rw [List.length_cons]; omega⟩
      rw [List.map_cons, b, List.map_cons, List.set_cons_succ]
      rfl
theorem isStr_at (k : Str) : ∀ {vs : List Value} {ns : List Str}, StrsAre vs ns → ∀ (j : Nat) (h1 : j < vs.length) (h2 : j < ns.length), isStrOf k vs[j] = (ns[j] == k)
  | _, _, .cons n t _, 0, _, _ => rfl
  | _, _, .cons n t r, j + 1, h1, h2 => isStr_at k r j (Nat.lt_of_succ_lt_succ h1) (Nat.lt_of_succ_lt_succ h2)
theorem ne_lt_idxOf {k : Str} : ∀ {ns : List Str} {j : Nat}, j < ns.idxOf k → ∀ (h2 : j < ns.length), (ns[j] == k) = false
  | n :: r, 0, h, _ => by
    by_cases e : n = k
    · subst e; simp at h
    · simpa using e
  | n :: r, j + 1, h, h2 => by
    have h' : j < r.idxOf k := by
      rw [List.idxOf_cons] at h
      cases hb : (n == k) with
      | true => rw [hb] at h; exact absurd h (Nat.not_lt_zero _)
      | false => rw [hb] at h; exact Nat.lt_of_succ_lt_succ h
    exact ne_lt_idxOf h' (Nat.lt_of_succ_lt_succ h2)
section
variable {prog : Program} {w : World} {A : Around} {E : Value → Shared → Prop} {s : Shared} {h₀ : Heap} {L : Addr} {m : Str → Option Value} {news : List (Addr × Obj)}
theorem index_strs {l : Addr} {vs : List Value} {ys : List Str} {k : Str} {t : Tok} {Q : Value → Shared → Prop} (hl : s.heap.IsList l vs.toArray) (hi : StrsAre vs ys) (hlen : ys.length ≤ 100000) (hk : ys.any (· == k) = true) (h : Q (.int (ys.idxOf k : Nat) s.toks) { s with toks := s.toks + 1 }) :
    wpAny (model prog w) A (call (.builtin "list.index") [.ref l, .str k t]) Q E s := by
  obtain ⟨⟨cls, dd, data, sl⟩, ho, hc, n, hd⟩ := id hl
  simp only at hc hd
  subst hc hd
  have hlv : vs.length = ys.length := hi.len_eq
  have hmem : k ∈ ys := by
    obtain ⟨x, hx, he⟩ := List.any_eq_true.mp hk
    have : x = k := by simpa using he
    exact this ▸ hx
  have hj : ys.idxOf k < ys.length := List.idxOf_lt_length_iff.mpr hmem
  refine call_meets PySem.F.slot_list_index ⟨_, ho, rfl⟩ PySem.F.entry_list_index (PySem.F.args_list_index_2 _ _)
    (SeqAt.list_indexAt l vs.toArray n dd sl (.str k t) (isStrOf k) (ys.idxOf k) (by simpa [hlv] using hj) (by omega) ?_ ?_) ⟨ho, fun y hy => (eq_isStrOf k t hi y (by simpa using hy)).at _ _, h⟩
  · show isStrOf k vs[ys.idxOf k] = true
    rw [isStr_at k hi _ (by omega) hj]
    simp
  · intro j hjs hlt
    show isStrOf k vs[j] = false
    rw [isStr_at k hi j (by simpa using hjs) (by omega)]
    exact ne_lt_idxOf hlt _
theorem appG {D : Addr} {ys : List Value} {x : Value} {n : Nat} {g : Obj → List (Addr × Obj)} {Q : Value → Shared → Prop} (F : Fr h₀ L s.heap m) (N : News h₀ L s.heap news) (U : UpdF D (listOf ys.toArray n) news g) (hsz : ys.length ≤ sizeLine)
    (h : ∀ h', Fr h₀ L h' m → News h₀ L h' (g (listOf (ys ++ [x]).toArray (n + 1))) → Q .none { s with heap := h' }) :
    wpAny (model prog w) A (call (.builtin "list.append") [.ref D, x]) Q E s := by
  obtain ⟨pre, post, rfl, hg, a, b⟩ := U.split
  have hm := N (D, listOf ys.toArray n) (List.mem_append_right _ (.head _))
  refine wpAny_call_entry slot_list_append ⟨_, hm.1, rfl⟩ entry_list_append ?_ (args_list_append _ _)
  show wpAny _ _ (updateSeq D (·.push x) >>= fun _ => ret .none) _ _ s
  refine wpAny_bind ?_
  refine wpAny_updateSeq (f := (·.push x)) hm.1 rfl (hz := by simpa using hsz) (_hz' := by simpa using Nat.succ_le_succ hsz) (wpAny_pure ⟨.none, rfl, h _ (F.change (Heap.SameBut.update ..) hm.2.1 hm.2.2) ?_⟩)
  rw [hg]
  refine N.setIn a b (Heap.SameBut.update ..) ?_
  rw [Heap.get?_update_self _ hm.1 (by rw [Obj.mapSeq_push_plain]; rfl), Obj.mapSeq_push_plain]
  rw [List.push_toArray]
end
end Mine
end
section
open PySem PySem.W PyProof.Rows PySem.Calls
set_option Elab.async false
set_option maxRecDepth 100000
set_option maxHeartbeats 400000
namespace Mine
abbrev ZipO (h : Heap) (z TI TO T : Addr) (f : Bool) : Prop :=
  h.get? z = some { cls := .type "zip", dict := none, data := .fields #[rawInt T, .bool f, .bool false, .ref TI, .ref TO], slots := #[] }
section
variable {prog : Program} {w : World} {A : Around} {E : Value → Shared → Prop} {s : Shared}
theorem zip_not_free {z TI TO T : Addr} {f : Bool} {oT : Obj} {Q : Bool → Shared → Prop} (hz : ZipO s.heap z TI TO T f) (hTt : s.heap.get? T = some oT)
    (hQ : ∀ h₁, ZipO h₁ z TI TO T true → Heap.SameBut z s.heap h₁ → Q false { s with heap := h₁ }) : wpAny (model prog w) A (Builtin.SmallTypes.ownedTupleIsFree (.ref z)) Q E s := by
  unfold Builtin.SmallTypes.ownedTupleIsFree
  refine wpAny_bind (wpAny_field hz rfl (x := rawInt T) rfl ?_)
  show wpAny _ _ (loadIfAlive ((T : Int).toNat) >>= _) _ _ _
  rw [Int.toNat_natCast]
  refine wpAny_bind (kdx_alive hTt ?_)
  simp only [Option.isNone_some, Bool.false_eq_true, if_false]
  refine wpAny_bind (wpAny_field hz rfl (x := .bool f) rfl ?_)
  cases f with
  | true =>
    rw [if_neg (show ¬ ((Value.bool true != Value.bool true) = true) from Bool.false_ne_true)]
    exact wpAny_pure (hQ s.heap hz (Heap.SameBut.refl _ _))
  | false =>
    rw [if_pos (show (Value.bool false != Value.bool true) = true from rfl)]
    exact wpAny_bind (wpAny_setField_rec hz (by simp) fun h₁ hz₁ hs₁ => wpAny_pure (hQ h₁ hz₁ hs₁))
theorem zip_out_item {z TI TO T i1 i2 l1 l2 : Addr} {f : Bool} {oT : Obj} {k1 k2 : Nat} {xs ys : Array Value} {x y : Value} {Q : Value → Shared → Prop} (D : ZipApart z TI TO i1 i2 l1 l2)
    (hz : ZipO s.heap z TI TO T f) (hTt : s.heap.get? T = some oT) (hTI : IsPair s.heap TI (.ref i1) (.ref i2))
    (h1 : s.heap.IsListIter i1 l1 k1) (h2 : s.heap.IsListIter i2 l2 k2) (hl1 : s.heap.IsList l1 xs) (hl2 : s.heap.IsList l2 ys) (hx : xs[k1]? = some x) (hy : ys[k2]? = some y)
    (hQ : ∀ h', ZipO h' z TI TO T true → h'.IsListIter i1 l1 (k1 + 1) → h'.IsListIter i2 l2 (k2 + 1) → IsPair h' s.heap.objs.size x y → h'.objs.size = s.heap.objs.size + 1 →
      (∀ c o, c ≠ z → c ≠ i1 → c ≠ i2 → s.heap.get? c = some o → h'.get? c = some o) → Q (.ref s.heap.objs.size) { s with heap := h' }) :
    wpAny (model prog w) A (Builtin.«zip.__next__» ⟨[.ref z], []⟩) (fun fin s' => ∃ v, fin = .done (.ret v) ∧ Q v s') E s := by
  show wpAny _ _ (field (.ref z) 2 >>= _) _ _ _
  refine wpAny_bind (wpAny_field hz rfl (x := .bool false) rfl ?_)
  show wpAny _ _ (field (.ref z) 3 >>= _) _ _ _
  refine wpAny_bind (wpAny_field hz rfl (x := .ref TI) rfl ?_)
  refine wpAny_bind (wpAny_seqItems hTI rfl ?_)
  show wpAny _ _ (Builtin.SmallTypes.ownedTupleIsFree (.ref z) >>= _) _ _ _
  refine wpAny_bind ?_
  refine wpAny_mono (Q := fun b s' => b = false ∧ ∃ h₁, s' = { s with heap := h₁ } ∧ ZipO h₁ z TI TO T true ∧ Heap.SameBut z s.heap h₁) (zip_not_free hz hTt fun h₁ a b => ⟨rfl, h₁, rfl, a, b⟩) (fun b s' hb => ?_) fun _ _ e => e
  obtain ⟨rfl, h₁, rfl, hz₁, hs₁⟩ := hb
  simp only [Bool.false_eq_true, if_false]
  refine wpAny_bind ?_
  simp only [List.forIn_toArray, List.forIn_cons, List.forIn_nil]
  refine wpAny_bind (wpAny_bind (wpAny_holding ?_))
  show wpAny _ _ (Builtin.SmallTypes.nextOf (.ref i1) >>= _) _ _ _
  refine wpAny_bind (wpAny_nextOf_list_item (h1.extBut hs₁.extBut D.i1z) (hl1.extBut hs₁.extBut D.l1z) hx fun h₂ h1₂ hs₂ => wpAny_pure (wpAny_pure ?_))
  dsimp only
  refine wpAny_bind (wpAny_bind (wpAny_holding ?_))
  show wpAny _ _ (Builtin.SmallTypes.nextOf (.ref i2) >>= _) _ _ _
  refine wpAny_bind (wpAny_nextOf_list_item ((h2.extBut hs₁.extBut D.i2z).extBut hs₂.extBut D.i12.symm) ((hl2.extBut hs₁.extBut D.l2z).extBut hs₂.extBut D.l2i1) hy fun h₄ h2₄ hs₄ => wpAny_pure (wpAny_pure (wpAny_pure ?_)))
  dsimp only
  refine wpAny_bind (wpAny_newTuple (hsz := by simp [sizeLine_eq]) ?_)
  have hsz : h₄.objs.size = s.heap.objs.size := by rw [hs₄.1, hs₂.1, hs₁.1]
  have up : ∀ c o, c ≠ z → c ≠ i1 → c ≠ i2 → s.heap.get? c = some o → h₄.get? c = some o := fun c o c1 c3 c4 e => hs₄.extBut _ _ c4 (hs₂.extBut _ _ c3 (hs₁.extBut _ _ c1 e))
  have hz₄ : ZipO h₄ z TI TO T true := hs₄.extBut _ _ D.i2z.symm (hs₂.extBut _ _ D.i1z.symm hz₁)
  have h1₄ : h₄.IsListIter i1 l1 (k1 + 1) := h1₂.extBut hs₄.extBut D.i12
  refine wpAny_pure ⟨_, rfl, ?_⟩
  show Q (.ref h₄.objs.size) _
  rw [hsz]
  have pu : ∀ c o, h₄.get? c = some o → (h₄.push { cls := .type "tuple", data := .seq #[x, y] }).get? c = some o := fun c o e => Heap.get?_push_of_some _ e
  exact hQ _ (pu _ _ hz₄) (h1₄.at fun o e => pu _ o e) (h2₄.at fun o e => pu _ o e) (by rw [← hsz]; exact Heap.get?_push_size _ rfl) (by rw [Heap.size_push, hsz]) fun c o c1 c3 c4 e => pu c o (up c o c1 c3 c4 e)
theorem zip_out_end {z TI TO T i1 i2 l1 l2 : Addr} {f : Bool} {oT : Obj} {k1 : Nat} {xs : Array Value} {Q : Fin → Shared → Prop} (hh : A.handled = none) (D : ZipApart z TI TO i1 i2 l1 l2)
    (hz : ZipO s.heap z TI TO T f) (hTt : s.heap.get? T = some oT) (hTI : IsPair s.heap TI (.ref i1) (.ref i2))
    (h1 : s.heap.IsListIter i1 l1 k1) (hl1 : s.heap.IsList l1 xs) (hx : xs[k1]? = none)
    (hE : ∀ h' e, (∀ c o, c ≠ z → c ≠ i1 → s.heap.get? c = some o → h'.get? c = some o) → (∃ o, h'.get? e = some o ∧ o.cls = .type "StopIteration") → E (.ref e) { s with heap := h' }) :
    wpAny (model prog w) A (Builtin.«zip.__next__» ⟨[.ref z], []⟩) Q E s := by
  show wpAny _ _ (field (.ref z) 2 >>= _) _ _ _
  refine wpAny_bind (wpAny_field hz rfl (x := .bool false) rfl ?_)
  show wpAny _ _ (field (.ref z) 3 >>= _) _ _ _
  refine wpAny_bind (wpAny_field hz rfl (x := .ref TI) rfl ?_)
  refine wpAny_bind (wpAny_seqItems hTI rfl ?_)
  show wpAny _ _ (Builtin.SmallTypes.ownedTupleIsFree (.ref z) >>= _) _ _ _
  refine wpAny_bind ?_
  refine wpAny_mono (Q := fun b s' => b = false ∧ ∃ h₁, s' = { s with heap := h₁ } ∧ ZipO h₁ z TI TO T true ∧ Heap.SameBut z s.heap h₁) (zip_not_free hz hTt fun h₁ a b => ⟨rfl, h₁, rfl, a, b⟩) (fun b s' hb => ?_) fun _ _ e => e
  obtain ⟨rfl, h₁, rfl, hz₁, hs₁⟩ := hb
  simp only [Bool.false_eq_true, if_false]
  refine wpAny_bind ?_
  simp only [List.forIn_toArray, List.forIn_cons, List.forIn_nil]
  refine wpAny_bind (wpAny_bind (wpAny_holding ?_))
  show wpAny _ _ (Builtin.SmallTypes.nextOf (.ref i1) >>= _) _ _ _
  exact wpAny_bind (wpAny_nextOf_list_end hh (h1.extBut hs₁.extBut D.i1z) (hl1.extBut hs₁.extBut D.l1z) hx fun h₂ e hs₂ he => hE h₂ e (fun c o c1 c3 x => hs₂ _ _ c3 (hs₁.extBut _ _ c1 x)) he)
/-- a zip over two lists, i items in -/
structure ZSt (h : Heap) (z TI TO i1 i2 l1 l2 S : Addr) (i : Nat) : Prop where
  own : IsZip h z TI TO .none ∨ ∃ T f oT, ZipO h z TI TO T f ∧ h.get? T = some oT ∧ T ≠ z ∧ T ≠ TO ∧ T ≠ i1 ∧ T ≠ i2 ∧ T ≠ S
  ti : IsPair h TI (.ref i1) (.ref i2)
  to : ∃ a b, IsPair h TO a b
  h1 : h.IsListIter i1 l1 i
  h2 : h.IsListIter i2 l2 i
theorem z_item {z TI TO i1 i2 l1 l2 S : Addr} {i : Nat} {xs ys : Array Value} {x y : Value} {Q : Option Value → Shared → Prop} (D : ZipApart z TI TO i1 i2 l1 l2) (Z : ZSt s.heap z TI TO i1 i2 l1 l2 S i) (hS : S < s.heap.objs.size)
    (hl1 : s.heap.IsList l1 xs) (hl2 : s.heap.IsList l2 ys) (hx : xs[i]? = some x) (hy : ys[i]? = some y)
    (hQ : ∀ h', ZSt h' z TI TO i1 i2 l1 l2 S (i + 1) → IsPair h' s.heap.objs.size x y → h'.objs.size = s.heap.objs.size + 1 → (∀ c o, c ≠ z → c ≠ TO → c ≠ i1 → c ≠ i2 → s.heap.get? c = some o → h'.get? c = some o) → Q (some (.ref s.heap.objs.size)) { s with heap := h' }) :
    wpAny (model prog w) A (pyNext (.ref z)) Q E s := by
  obtain ⟨a, b, hTO⟩ := Z.to
  have iz : ∀ o, s.heap.get? z = some o → z < s.heap.objs.size := fun _ e => Heap.lt_size e
  have lTO : TO < s.heap.objs.size := Heap.lt_size hTO
  have l1lt : i1 < s.heap.objs.size := by obtain ⟨_, e, _⟩ := Z.h1; exact Heap.lt_size e
  have l2lt : i2 < s.heap.objs.size := by obtain ⟨_, e, _⟩ := Z.h2; exact Heap.lt_size e
  rcases Z.own with hz | ⟨T, f, oT, hz, hT, t1, t2, t3, t4, t5⟩
  · refine wpAny_pyNext_zip_item D hz Z.ti hTO Z.h1 Z.h2 hl1 hl2 hx hy fun h' a1 a2 a3 a4 a5 a6 a7 => ?_
    exact hQ h' ⟨.inr ⟨_, false, _, a1, a5, Nat.ne_of_gt (iz _ hz), Nat.ne_of_gt lTO, Nat.ne_of_gt l1lt, Nat.ne_of_gt l2lt, Nat.ne_of_gt hS⟩, a7 _ _ D.TIz D.TITO D.TIi1 D.TIi2 Z.ti, ⟨_, _, a2⟩, a3, a4⟩ a5 a6 a7
  · have hTz : s.TypeIs (.ref z) "zip" := ⟨_, hz, rfl⟩
    unfold pyNext
    exact wpAny_bind (wpAny_attempt (wpAny_callSpecial?_slot (name := Str.ofString "__next__") hTz PySem.F.slot_zip_next
      (wpAny_call_entry PySem.F.slot_zip_next hTz PySem.F.entry_zip_next
        (zip_out_item D hz hT Z.ti Z.h1 Z.h2 hl1 hl2 hx hy fun h' a1 a3 a4 a5 a6 a7 => wpAny_pure (hQ h' ⟨.inr ⟨T, true, oT, a1, a7 _ _ t1 t3 t4 hT, t1, t2, t3, t4, t5⟩, a7 _ _ D.TIz D.TIi1 D.TIi2 Z.ti, ⟨a, b, a7 _ _ D.TOz D.TOi1 D.TOi2 hTO⟩, a3, a4⟩ a5 a6 fun c o c1 _ c3 c4 e => a7 c o c1 c3 c4 e)) (PySem.F.args_zip_next_1 _))))
theorem z_end {z TI TO i1 i2 l1 l2 S : Addr} {i : Nat} {xs ys : Array Value} {Q : Option Value → Shared → Prop} (hh : A.handled = none) (D : ZipApart z TI TO i1 i2 l1 l2) (Z : ZSt s.heap z TI TO i1 i2 l1 l2 S i)
    (hl1 : s.heap.IsList l1 xs) (hl2 : s.heap.IsList l2 ys) (hx : xs[i]? = none)
    (hQ : ∀ h', (∀ c o, c ≠ z → c ≠ TO → c ≠ i1 → c ≠ i2 → s.heap.get? c = some o → h'.get? c = some o) → Q none { s with heap := h' }) :
    wpAny (model prog w) A (pyNext (.ref z)) Q E s := by
  obtain ⟨a, b, hTO⟩ := Z.to
  rcases Z.own with hz | ⟨T, f, oT, hz, hT, t1, t2, t3, t4, t5⟩
  · exact wpAny_pyNext_zip_end hh D hz Z.ti hTO Z.h1 Z.h2 hl1 hl2 (.inl hx) hQ
  · have hTz : s.TypeIs (.ref z) "zip" := ⟨_, hz, rfl⟩
    unfold pyNext
    refine wpAny_bind (wpAny_attempt (wpAny_callSpecial?_slot (name := Str.ofString "__next__") hTz PySem.F.slot_zip_next
      (wpAny_call_entry PySem.F.slot_zip_next hTz PySem.F.entry_zip_next (zip_out_end hh D hz hT Z.ti Z.h1 hl1 hx fun h' e hk he => ?_) (PySem.F.args_zip_next_1 _))))
    obtain ⟨o, ho, hc⟩ := he
    refine wpAny_bind (wpAny_isInstance (T := "StopIteration") (b := true) ⟨o, ho, hc⟩ isSubtype_stop ?_)
    exact wpAny_pure (hQ _ fun c o c1 _ c3 _ e => hk c o c1 c3 e)
theorem ZSt.keep {h h' : Heap} {z TI TO i1 i2 l1 l2 S : Addr} {i : Nat} (Z : ZSt h z TI TO i1 i2 l1 l2 S i) (up : ∀ b o, b ≠ S → h.get? b = some o → h'.get? b = some o) (a1 : z ≠ S) (a2 : TI ≠ S) (a3 : TO ≠ S) (a4 : i1 ≠ S) (a5 : i2 ≠ S) : ZSt h' z TI TO i1 i2 l1 l2 S i := by
  obtain ⟨own, ti, ⟨a, b, to⟩, h1, h2⟩ := Z
  refine ⟨?_, up _ _ a2 ti, ⟨a, b, up _ _ a3 to⟩, h1.at fun o e => up _ o a4 e, h2.at fun o e => up _ o a5 e⟩
  rcases own with hz | ⟨T, f, oT, hz, hT, t1, t2, t3, t4, t5⟩
  · exact .inl (up _ _ a1 hz)
  · exact .inr ⟨T, f, oT, up _ _ a1 hz, up _ _ t5 hT, t1, t2, t3, t4, t5⟩
structure ZG (n0 : Nat) (h : Heap) (as : List Addr) (xs ys : Array Value) : Prop where
  above : ∀ a ∈ as, n0 ≤ a
  pairs : ∀ (j : Nat) (a : Addr), as[j]? = some a → ∃ x y, xs[j]? = some x ∧ ys[j]? = some y ∧ IsPair h a x y
variable {R : Result → Shared → Prop}
theorem z_loop {S z TI TO i1 i2 l1 l2 : Addr} {xs ys : Array Value} (hh : A.handled = none) (D : ZipApart z TI TO i1 i2 l1 l2) (a1 : z ≠ S) (a2 : TI ≠ S) (a3 : TO ≠ S) (a4 : i1 ≠ S) (a5 : i2 ≠ S) (a6 : l1 ≠ S) (a7 : l2 ≠ S) (hlen : xs.size = ys.size) (hn : xs.size ≤ sizeLine) (res : Value) {h₁ : Heap}
    (b1 : z < h₁.objs.size) (b2 : TO < h₁.objs.size) (b3 : i1 < h₁.objs.size) (b4 : i2 < h₁.objs.size) (b5 : S < h₁.objs.size)
    (hR : ∀ h' tk acc c as, (∀ b o, b ≠ S → b ≠ z → b ≠ TO → b ≠ i1 → b ≠ i2 → h₁.get? b = some o → h'.get? b = some o) → h'.get? S = some { cls := .type "list", dict := none, data := .seq acc c, slots := #[] } → as.length = xs.size → ZG h₁.objs.size h' as xs ys →
      acc.toList = as.map Value.ref → R (.ok (.ret res)) { s with heap := h', toks := tk }) :
    ∀ (k i : Nat) (h : Heap) (tk c : Nat) (acc : Array Value) (as : List Addr), xs.size - i = k → i ≤ xs.size → ZSt h z TI TO i1 i2 l1 l2 S i → h.IsList l1 xs → h.IsList l2 ys → (∀ b o, b ≠ S → b ≠ z → b ≠ TO → b ≠ i1 → b ≠ i2 → h₁.get? b = some o → h.get? b = some o) →
      h.get? S = some { cls := .type "list", dict := none, data := .seq acc c, slots := #[] } → acc.toList = as.map Value.ref → as.length = i → ZG h₁.objs.size h as xs ys → h₁.objs.size ≤ h.objs.size →
      codeAny (model prog w) A (.builtin "list.extend.loop" ⟨[.ref S, .ref z, res], []⟩) R { s with heap := h, toks := tk } := by
  have ge : ∀ {a b : Nat}, b < h₁.objs.size → h₁.objs.size ≤ a → a ≠ b := fun x y => Nat.ne_of_gt (Nat.lt_of_lt_of_le x y)
  intro k
  induction k with
  | zero =>
    intro i h tk c acc as hk hi hst hl1 hl2 hkeep hS hacc hal hG hIs
    have hin : i = xs.size := by omega
    refine codeAny_builtin PySem.F.entry_extend_loop ?_
    rw [Around.under_plainId PySem.F.plain_extend_loop _]
    show wpAny _ A.in1 (pyNext (.ref z) >>= _) _ _ _
    refine wpAny_bind (z_end (s := { s with heap := h, toks := tk }) (A := A.in1) hh D hst hl1 hl2 (by simp [hin]) fun h' he => ?_)
    refine wpAny_pure (hR h' tk acc c as (fun b o c0 c1 c2 c3 c4 e => he b o c1 c2 c3 c4 (hkeep b o c0 c1 c2 c3 c4 e)) (he S _ (Ne.symm a1) (Ne.symm a3) (Ne.symm a4) (Ne.symm a5) hS) (by omega) ⟨hG.above, fun j a hj => ?_⟩ hacc)
    obtain ⟨x, y, e1, e2, e3⟩ := hG.pairs j a hj
    have hb := hG.above a (List.mem_of_getElem? hj)
    exact ⟨x, y, e1, e2, he a _ (ge b1 hb) (ge b2 hb) (ge b3 hb) (ge b4 hb) e3⟩
  | succ k ih =>
    intro i h tk c acc as hk hi hst hl1 hl2 hkeep hS hacc hal hG hIs
    have hlt : i < xs.size := by omega
    have hx : xs[i]? = some xs[i] := Array.getElem?_eq_getElem hlt
    have hy : ys[i]? = some (ys[i]'(by omega)) := Array.getElem?_eq_getElem (by omega)
    have hsz : acc.size = i := by rw [← Array.length_toList, hacc, List.length_map, hal]
    refine codeAny_builtin PySem.F.entry_extend_loop ?_
    rw [Around.under_plainId PySem.F.plain_extend_loop _]
    show wpAny _ A.in1 (pyNext (.ref z) >>= _) _ _ _
    refine wpAny_bind (z_item (s := { s with heap := h, toks := tk }) D hst (Heap.lt_size hS) hl1 hl2 hx hy fun h' hst' ht hz hkp => ?_)
    dsimp only at ht hz hkp ⊢
    have hS' := hkp S _ (Ne.symm a1) (Ne.symm a3) (Ne.symm a4) (Ne.symm a5) hS
    have up : ∀ b o, b ≠ S → h'.get? b = some o → (h'.update S (Obj.mapSeq (·.push (Value.ref h.objs.size)))).get? b = some o := fun b o hb e => (Heap.get?_update_other _ _ (Ne.symm hb)).trans e
    have hSl : S < h.objs.size := Heap.lt_size hS
    show wpAny _ A.in1 (updateSeq S (·.push (Value.ref h.objs.size)) >>= _) _ _ _
    refine wpAny_bind ?_
    refine wpAny_updateSeq hS' rfl (wpAny_pure ⟨plainId_quiet PySem.F.plain_extend_loop _, ih (i + 1) _ tk _ (acc.push (Value.ref h.objs.size)) (as ++ [h.objs.size]) (by omega) hlt (hst'.keep up a1 a2 a3 a4 a5)
      (hl1.at fun o e => up _ o a6 (hkp _ o D.l1z D.l1TO D.l1i1 D.l1i2 e)) (hl2.at fun o e => up _ o a7 (hkp _ o D.l2z D.l2TO D.l2i1 D.l2i2 e))
      (fun b o c0 c1 c2 c3 c4 e => up b o c0 (hkp b o c1 c2 c3 c4 (hkeep b o c0 c1 c2 c3 c4 e))) (Heap.get?_update_self _ hS' rfl) (by rw [Array.toList_push, hacc, List.map_append]; rfl) (by rw [List.length_append, hal]; rfl) ⟨?_, ?_⟩ ?_⟩) (by rw [hsz]; omega) (by show (acc.push (Value.ref h.objs.size)).size ≤ sizeLine + 1; rw [Array.size_push, hsz]; omega)
    · intro a ha
      rcases List.mem_append.mp ha with ha | ha
      · exact hG.above a ha
      · rw [List.mem_singleton.mp ha]; exact hIs
    · intro j b hj
      rcases Nat.lt_trichotomy j as.length with q1 | q1 | q1
      · rw [List.getElem?_append_left q1] at hj
        obtain ⟨x', y', e1, e2, e3⟩ := hG.pairs j b hj
        have hb := hG.above b (List.mem_of_getElem? hj)
        exact ⟨x', y', e1, e2, up b _ (ge b5 hb) (hkp b _ (ge b1 hb) (ge b2 hb) (ge b3 hb) (ge b4 hb) e3)⟩
      · subst q1
        have hb : h.objs.size = b := by simpa using hj
        subst hb
        exact ⟨_, _, by rw [hal]; exact hx, by rw [hal]; exact hy, up _ _ (Nat.ne_of_gt hSl) ht⟩
      · have hnone : (as ++ [h.objs.size])[j]? = none := List.getElem?_eq_none (by rw [List.length_append, List.length_singleton]; omega)
        rw [hnone] at hj; cases hj
    · have e : (h'.update S (Obj.mapSeq (·.push (Value.ref h.objs.size)))).get? h.objs.size = _ := up _ _ (Nat.ne_of_gt hSl) ht
      exact Nat.le_of_lt (Nat.lt_of_le_of_lt hIs (Heap.lt_size e))
theorem z_nolen : typeLookup (.type "zip") "__len__" = pure none := by rw [typeLookup_type, builtinLookup_eq_fast]; kernel_rfl
theorem z_nohint : typeLookup (.type "zip") "__length_hint__" = pure none := by rw [typeLookup_type, builtinLookup_eq_fast]; kernel_rfl
theorem z_hint {z : Addr} (hT : s.TypeIs (.ref z) "zip") {Q : Bool → Shared → Prop} (h : Q true s) : wpAny (model prog w) A (Builtin.List.listLengthHint (.ref z)) Q E s := by
  unfold Builtin.List.listLengthHint specialOf
  refine wpAny_bind (wpAny_bind (wpAny_typeOf hT (wpAny_of_eq z_nolen ?_)))
  dsimp only
  refine wpAny_ite_split (fun hab => absurd hab (by decide)) (fun _ => ?_)
  refine wpAny_ite_split (fun hab => absurd hab (by decide)) (fun _ => ?_)
  refine wpAny_bind (wpAny_bind (wpAny_typeOf hT (wpAny_of_eq z_nohint ?_)))
  exact wpAny_pure h
theorem z_extend {S z TI TO i1 i2 l1 l2 : Addr} {xs ys : Array Value} (hh : A.handled = none) (D : ZipApart z TI TO i1 i2 l1 l2) (a1 : z ≠ S) (a2 : TI ≠ S) (a3 : TO ≠ S) (a4 : i1 ≠ S) (a5 : i2 ≠ S) (a6 : l1 ≠ S) (a7 : l2 ≠ S) (hlen : xs.size = ys.size) (hn : xs.size ≤ sizeLine) (res : Value)
    (hz : IsZip s.heap z TI TO .none) (hTI : IsPair s.heap TI (.ref i1) (.ref i2)) {a b : Value} (hTO : IsPair s.heap TO a b) (h1 : s.heap.IsListIter i1 l1 0) (h2 : s.heap.IsListIter i2 l2 0) (hl1 : s.heap.IsList l1 xs) (hl2 : s.heap.IsList l2 ys)
    (c₀ : Nat) (hS : s.heap.get? S = some { cls := .type "list", data := .seq #[] c₀ })
    (hR : ∀ h' tk acc c as, (∀ b o, b ≠ S → b ≠ z → b ≠ TO → b ≠ i1 → b ≠ i2 → s.heap.get? b = some o → h'.get? b = some o) → h'.get? S = some { cls := .type "list", dict := none, data := .seq acc c, slots := #[] } → as.length = xs.size → ZG s.heap.objs.size h' as xs ys →
      acc.toList = as.map Value.ref → R (.ok (.ret res)) { s with heap := h', toks := tk }) :
    wpAny (model prog w) A.in1 (Builtin.List.listExtendWith (.ref S) (.ref z) res)
      (fun fin s' => match fin with | .done f => R (.ok f) s' | .again c' => c'.quiet = true ∧ codeAny (model prog w) A c' R s') (fun e s' => R (.error e) s') s := by
  have hT : s.TypeIs (.ref z) "zip" := ⟨_, hz, rfl⟩
  have z1 : z < s.heap.objs.size := Heap.lt_size hz
  have z2 : TO < s.heap.objs.size := Heap.lt_size hTO
  have z3 : i1 < s.heap.objs.size := by obtain ⟨_, e, _⟩ := h1; exact Heap.lt_size e
  have z4 : i2 < s.heap.objs.size := by obtain ⟨_, e, _⟩ := h2; exact Heap.lt_size e
  have key : ∀ (h : Heap) (c₁ tk : Nat), (∀ b o, b ≠ S → s.heap.get? b = some o → h.get? b = some o) → h.objs.size = s.heap.objs.size → h.get? S = some { cls := .type "list", data := .seq #[] c₁ } →
      codeAny (model prog w) A (.builtin "list.extend.loop" ⟨[.ref S, .ref z, res], []⟩) R { s with heap := h, toks := tk } := by
    intro h c₁ tk hk hsz hS₁
    refine z_loop (s := s) (h₁ := s.heap) hh D a1 a2 a3 a4 a5 a6 a7 hlen hn res z1 z2 z3 z4 (Heap.lt_size hS) hR xs.size 0 h tk c₁ #[] [] (Nat.sub_zero _) (Nat.zero_le _)
      ⟨.inl (hk _ _ a1 hz), hk _ _ a2 hTI, ⟨a, b, hk _ _ a3 hTO⟩, h1.at fun o e => hk _ o a4 e, h2.at fun o e => hk _ o a5 e⟩ (hl1.at fun o e => hk _ o a6 e) (hl2.at fun o e => hk _ o a7 e) (fun b o c0 _ _ _ _ e => hk b o c0 e) hS₁ rfl rfl
      ⟨(fun _ ha => nomatch ha), (fun j a hj => by simp at hj)⟩ (Nat.le_of_eq hsz.symm)
  unfold Builtin.List.listExtendWith
  refine wpAny_bind (wpAny_typeOf (T := "zip") hT ?_)
  have q1 : Builtin.List.listSameRef (.ref S) (.ref z) = false := by simp [Builtin.List.listSameRef, Ne.symm a1]
  have q2 : (Value.type "zip" == Value.type "list") = false := by decide
  have q3 : (Value.type "zip" == Value.type "tuple") = false := by decide
  simp only [q1, q2, q3, Bool.or_false, Bool.false_eq_true, if_false]
  refine wpAny_bind (wpAny_pyIter_zip hz ?_)
  refine wpAny_bind (wpAny_holding (z_hint hT ?_))
  refine wpAny_ite_split (fun _ => ?_) (fun hab => absurd (by simp) hab)
  refine wpAny_bind (wpAny_rule ?_)
  refine wpAny_bind ?_
  show wpAny _ _ (updateSeq S (·.push .none) >>= fun _ => updateSeq S (·.pop)) _ _ _
  refine wpAny_bind (wpAny_updateSeq hS rfl ?_)
  have hS₂ := Heap.get?_update_self (Obj.mapSeq (·.push Value.none)) hS rfl
  refine wpAny_updateSeq (hz := by seq_fits) hS₂ rfl ?_
  have hS₃ := Heap.get?_update_self (Obj.mapSeq (·.pop)) hS₂ rfl
  refine wpAny_pure ⟨plainId_quiet PySem.F.plain_extend_loop _, key _ _ _ (fun b o hb e => ?_) ?_ hS₃⟩
  · exact (Heap.get?_update_other _ _ (Ne.symm hb)).trans ((Heap.get?_update_other _ _ (Ne.symm hb)).trans e)
  · rw [Heap.size_update, Heap.size_update]
theorem z_init {S z TI TO i1 i2 l1 l2 : Addr} {xs ys : Array Value} (hh : A.handled = none) (D : ZipApart z TI TO i1 i2 l1 l2) (a1 : z ≠ S) (a2 : TI ≠ S) (a3 : TO ≠ S) (a4 : i1 ≠ S) (a5 : i2 ≠ S) (a6 : l1 ≠ S) (a7 : l2 ≠ S) (hlen : xs.size = ys.size) (hn : xs.size ≤ sizeLine)
    (hz : IsZip s.heap z TI TO .none) (hTI : IsPair s.heap TI (.ref i1) (.ref i2)) {a b : Value} (hTO : IsPair s.heap TO a b) (h1 : s.heap.IsListIter i1 l1 0) (h2 : s.heap.IsListIter i2 l2 0) (hl1 : s.heap.IsList l1 xs) (hl2 : s.heap.IsList l2 ys)
    (hS : s.heap.get? S = some { cls := .type "list", data := .seq #[] })
    (hR : ∀ h' tk acc c as, (∀ b o, b ≠ S → b ≠ z → b ≠ TO → b ≠ i1 → b ≠ i2 → s.heap.get? b = some o → h'.get? b = some o) → h'.get? S = some { cls := .type "list", dict := none, data := .seq acc c, slots := #[] } → as.length = xs.size → ZG s.heap.objs.size h' as xs ys →
      acc.toList = as.map Value.ref → R (.ok (.ret .none)) { s with heap := h', toks := tk }) :
    wpAny (model prog w) A.in1 (Builtin.«list.__init__» ⟨[.ref S, .ref z], []⟩)
      (fun fin s' => match fin with | .done f => R (.ok f) s' | .again c' => c'.quiet = true ∧ codeAny (model prog w) A c' R s') (fun e s' => R (.error e) s') s := by
  show wpAny _ _ (do let old ← Builtin.List.listItems (.ref S); Builtin.List.listUpdate (.ref S) (fun _ => #[]); letGo old.toList.reverse; Builtin.List.listExtendWith (.ref S) (.ref z) .none) _ _ s
  refine wpAny_bind ?_
  unfold Builtin.List.listItems
  refine wpAny_bind (wpAny_seqItems hS rfl (wpAny_pure ?_))
  show wpAny _ _ (updateSeq S (fun _ => #[]) >>= fun _ => letGo (#[] : Array Value).toList.reverse >>= fun _ => Builtin.List.listExtendWith (.ref S) (.ref z) .none) _ _ s
  refine wpAny_bind (wpAny_updateSeq hS rfl ?_)
  have hS₂ := Heap.get?_update_self (Obj.mapSeq (fun _ => (#[] : Array Value))) hS rfl
  have oth : ∀ b o, b ≠ S → s.heap.get? b = some o → (s.heap.update S (Obj.mapSeq (fun _ => (#[] : Array Value)))).get? b = some o :=
    fun b o hb e => (Heap.get?_update_other _ _ (Ne.symm hb)).trans e
  refine wpAny_bind (wpAny_letGo ?_)
  refine z_extend (s := { s with heap := s.heap.update S (Obj.mapSeq (fun _ => (#[] : Array Value))) }) hh D a1 a2 a3 a4 a5 a6 a7 hlen hn .none (oth _ _ a1 hz) (oth _ _ a2 hTI) (oth _ _ a3 hTO) (h1.at fun o e => oth _ o a4 e) (h2.at fun o e => oth _ o a5 e) (hl1.at fun o e => oth _ o a6 e) (hl2.at fun o e => oth _ o a7 e) _ hS₂ (fun h' tk acc c as hk hS' hl hG hacc => ?_)
  exact hR h' tk acc c as (fun b o c0 c1 c2 c3 c4 e => hk b o c0 c1 c2 c3 c4 (oth b o c0 e)) hS' hl (by rw [Heap.size_update] at hG; exact hG) hacc
theorem z_call {z TI TO i1 i2 l1 l2 : Addr} {xs ys : Array Value} {Q : Value → Shared → Prop} (hh : A.handled = none) (D : ZipApart z TI TO i1 i2 l1 l2) (hlen : xs.size = ys.size) (hn : xs.size ≤ sizeLine)
    (hz : IsZip s.heap z TI TO .none) (hTI : IsPair s.heap TI (.ref i1) (.ref i2)) {a b : Value} (hTO : IsPair s.heap TO a b) (h1 : s.heap.IsListIter i1 l1 0) (h2 : s.heap.IsListIter i2 l2 0) (hl1 : s.heap.IsList l1 xs) (hl2 : s.heap.IsList l2 ys)
    (hQ : ∀ h' tk acc c as, (∀ b o, b ≠ z → b ≠ TO → b ≠ i1 → b ≠ i2 → s.heap.get? b = some o → h'.get? b = some o) → h'.get? s.heap.objs.size = some { cls := .type "list", dict := none, data := .seq acc c, slots := #[] } → as.length = xs.size → ZG (s.heap.objs.size + 1) h' as xs ys →
      acc.toList = as.map Value.ref → Q (.ref s.heap.objs.size) { s with heap := h', toks := tk }) :
    wpAny (model prog w) A (call (.type "list") [.ref z]) Q E s := by
  refine callType_codes (Q₁ := fun obj s₁ => obj = .ref s.heap.objs.size ∧ s₁ = { s with heap := s.heap.push { cls := .type "list", data := .seq #[] } }) PySem.F.called_list (PySem.F.typeCall_list_1 _) PySem.F.entry_list_init
    (code_list_new _ ⟨rfl, rfl⟩) fun obj s₁ h₁ => ?_
  obtain ⟨rfl, rfl⟩ := h₁
  have hS : (s.heap.push { cls := .type "list", data := .seq #[] }).get? s.heap.objs.size = some { cls := .type "list", data := .seq #[] } := Heap.get?_push_size _ rfl
  have pu : ∀ b o, s.heap.get? b = some o → (s.heap.push { cls := .type "list", data := .seq #[] }).get? b = some o := fun b o e => Heap.get?_push_of_some _ e
  have n1 : i1 < s.heap.objs.size := by obtain ⟨_, e, _⟩ := h1; exact Heap.lt_size e
  have n2 : i2 < s.heap.objs.size := by obtain ⟨_, e, _⟩ := h2; exact Heap.lt_size e
  have n3 : l1 < s.heap.objs.size := by obtain ⟨_, e, _⟩ := hl1; exact Heap.lt_size e
  have n4 : l2 < s.heap.objs.size := by obtain ⟨_, e, _⟩ := hl2; exact Heap.lt_size e
  refine ⟨⟨_, hS, rfl⟩, PySem.F.args_list_init_2 _ _, z_init (A := A.in1) (s := { s with heap := s.heap.push { cls := .type "list", data := .seq #[] } }) hh D (Nat.ne_of_lt (Heap.lt_size hz)) (Nat.ne_of_lt (Heap.lt_size hTI)) (Nat.ne_of_lt (Heap.lt_size hTO)) (Nat.ne_of_lt n1) (Nat.ne_of_lt n2) (Nat.ne_of_lt n3) (Nat.ne_of_lt n4) hlen hn
    (pu _ _ hz) (pu _ _ hTI) (pu _ _ hTO) (h1.at fun o e => pu _ o e) (h2.at fun o e => pu _ o e) (hl1.at fun o e => pu _ o e) (hl2.at fun o e => pu _ o e) hS (fun h' tk acc c as hk hS' hl hG hacc => ?_)⟩
  exact ⟨rfl, hQ h' tk acc c as (fun b o c1 c2 c3 c4 e => hk b o (Nat.ne_of_lt (Heap.lt_size e)) c1 c2 c3 c4 (pu b o e)) hS' hl (by rw [Heap.size_push] at hG; exact hG) hacc⟩
end
end Mine
end
section
open PySem PySem.W PyProof.Rows
set_option Elab.async false
set_option maxRecDepth 100000
set_option maxHeartbeats 400000
namespace Mine
theorem warmS1 : (fun (_ : Params → Frag) (_ : OpenLaw) => True) KF Challenge.rw_in0007_01 := by
  k_fill
  trivial
local macro_rules | `(tactic| k_room) => `(tactic| ktr_room)
local macro_rules | `(tactic| k_units) => `(tactic| ktr_units)
local macro_rules | `(tactic| walk_at "exec For Tuple Name cons nil") => `(tactic| refine Halt.at ?_)
def prD (q : Str × Int) : Dat := .tuple [.str q.1, .int q.2]
def tlOf : List Addr → List Value → List Value → List (Addr × Obj)
  | a :: as, x :: xs, y :: ys => (a, { cls := .type "tuple", data := .seq [x, y].toArray }) :: tlOf as xs ys
  | _, _, _ => []
theorem tlOf_mem : ∀ {as : List Addr} {xs ys : List Value} {p : Addr × Obj}, p ∈ tlOf as xs ys → ∃ (j : Nat) (x y : Value), as[j]? = some p.1 ∧ xs[j]? = some x ∧ ys[j]? = some y ∧ p.2 = { cls := .type "tuple", data := .seq [x, y].toArray }
  | [], _, _, _, h => by cases h
  | _ :: _, [], _, _, h => by cases h
  | _ :: _, _ :: _, [], _, h => by cases h
  | a :: as, x :: xs, y :: ys, p, h => by
    rcases List.mem_cons.mp h with rfl | h
    · exact ⟨0, x, y, rfl, rfl, rfl, rfl⟩
    · obtain ⟨j, x', y', a, b, c, d⟩ := tlOf_mem h
      exact ⟨j + 1, x', y', a, b, c, d⟩
theorem dat_pairs {news : List (Addr × Obj)} : ∀ {S : List (Str × Int)} {as : List Addr} {xn xs : List Value}, StrsAre xn (S.map (·.1)) → IntsAre xs (S.map (·.2)) → as.length = S.length → (∀ p ∈ tlOf as xn xs, p ∈ news) → DatAll news (as.map Value.ref) (S.map prD)
  | [], [], _, _, _, _, _, _ => .nil
  | [], _ :: _, _, _, _, _, h, _ => by cases h
  | _ :: _, [], _, _, _, _, h, _ => by cases h
  | q :: S, a :: as, xn, xs, hn, hs, hl, hm => by
    cases hn with
    | cons _ t hn =>
      cases hs with
      | cons _ u hs =>
        refine .cons (.tuple (hm _ (.head _)) (.cons (.str _ _) (.cons (.int _ _) .nil))) (dat_pairs hn hs (Nat.succ.inj hl) fun p hp => hm p (.tail _ hp))
theorem sumsc {w : World} {p : Program} {loose : List Str} {mean : ExcName → Option Value} {mg mb : Str → Option Value} {dp un : Nat} {gd : Option (List Code)} {cn : Str} {cs : Scope} {a : Addr} {ccd : Value} {cl : List (Str × Addr)} {outer : List Env} {A₀ : Around} {base h₀ : Heap} {L : Addr} {m : Str → Option Value} {news : List (Addr × Obj)} {s : Shared} {l : Addr} {vs : List Value} {n : Nat} {Q E : Value → Shared → Prop}
    (B : Below A₀ base outer h₀) (F : Fr h₀ L s.heap m) (X : (KF w.params).In h₀) (N : News h₀ L s.heap news) (T : Top p loose mean mg mb h₀) (hk : cs.kind = .function)
    (hl : (l, listOf vs.toArray n) ∈ news) {D : List (Str × Int)} (hD : DatAll news vs (D.map prD)) (bD : D.length ≤ 5000)
    (hd : dp + 15 < recursionLimit) (hun : un + 160 < cLine)
    (ret : ∀ r ws tl c h' tk', Fr h₀ L h' m → News h₀ L h' ((r, listOf ws.toArray c) :: (tl ++ news)) → DatAll tl ws ((addAll [] D).map prD) → (∀ p ∈ (r, listOf ws.toArray c) :: tl, ∀ q ∈ news, q.1 < p.1) → Q (.ref r) { s with heap := h', toks := tk' }) :
    wpAny (model pw w) (ktrTop dp un gd cn cs L a ccd cl outer) (call (.ref 246) [.ref l]) Q E s := by
  w_on
  refine wpAny_call ?_
  k_dflt ktr_enter
  k_steps
  rename Fr _ _ _ _ => F1
  rename News _ _ _ _ => N1
  refine Halt.go ?_
  rename_i g1 L1 h1' FG1 B1 X1 T1 ln h1 l1 h2 ls h3 l2 h4
  with_unfolding_all refine' For_turns F1 ?_
  k_whole
  with_unfolding_all ((refine ld F1 (by rfl) ?_); (refine iter_listTurns (by rfl) F1 N1 (.tail _ (.tail _ hl)) (by rfl) (by rfl) ?_))
  intro I hI
  have hIs : ls < I := hI _ (.head _)
  have hIn : ln < I := hI _ (.tail _ (.head _))
  have hnn : ∀ p ∈ news, p.1 < I := fun p hp => hI p (.tail _ (.tail _ hp))
  refine itemsInv (α := Value) (f := Itm.val) (fun r mm n' => ∃ xn xs kn ks Dd Dr, n' = (ls, listOf xs.toArray ks) :: (ln, listOf xn.toArray kn) :: news ∧ StrsAre xn ((addAll [] Dd).map (·.1)) ∧ IntsAre xs ((addAll [] Dd).map (·.2)) ∧
    D = Dd ++ Dr ∧ DatAll news r (Dr.map prD) ∧ mm (Str.ofString "names") = some (.ref ln) ∧ mm (Str.ofString "sums") = some (.ref ls)) ?step ?done vs _ _ ?start
  case start => exact ⟨[], [], 0, 0, [], D, rfl, .nil, .nil, rfl, hD, by with_unfolding_all rfl, by with_unfolding_all rfl⟩
  case step =>
    clear F1 N1
    rintro v r mm n' ⟨xn, xs, kn, ks, Dd, Dr, rfl, hxn, hxs, hDD, hr, m1, m2⟩ v' h tk rfl F
    refine AllObj.cons fun oI cI => AllObj.nil fun N => ?_
    refine absG fun G E9 hG => ?_
    have F := putF (x := Str.ofString "sums") (v := .ref ls) (putF F m1) (by with_unfolding_all exact m2)
    cases Dr with
    | nil => cases hr
    | cons q Dr =>
      cases hr with
      | cons hq hr =>
        unfold prD at hq
        cases hq with
        | tuple hm hd2 =>
          cases hd2 with
          | cons hk hd2 =>
            cases hk
            cases hd2 with
            | cons hi hd2 =>
              cases hi
              cases hd2
              rename_i T2 k2 u1 u2
              have hT2 : IsTup h T2 #[.str q.1 u1, .int q.2 u2] := ⟨_, (N _ (.tail _ (.tail _ (.tail _ hm)))).1, rfl, _, rfl⟩
              have hIln : I ≠ ln := Nat.ne_of_gt hIn
              have hIls : I ≠ ls := Nat.ne_of_gt hIs
              have hlsn : ls ≠ ln := Nat.ne_of_gt l2.1
              have hnln : ∀ p ∈ news, p.1 ≠ ln := fun p hp => Nat.ne_of_lt (l1 p hp)
              have hnls : ∀ p ∈ news, p.1 ≠ ls := fun p hp => Nat.ne_of_lt (tb_ltOf l2.2 p hp)
              have hS : (addAll [] Dd).length ≤ 5000 := by
                have := addAll_length [] Dd
                rw [hDD, List.length_append] at bD
                simp at this
                omega
              have hsn : addAll [] (Dd ++ [q]) = add1 (addAll [] Dd) q.1 q.2 := by
                show (Dd ++ [q]).foldl _ [] = _
                rw [List.foldl_append]; rfl
              have hxl : xn.length = (addAll [] Dd).length := by rw [hxn.len_eq, List.length_map]
              have hxsl : xs.length = (addAll [] Dd).length := by rw [hxs.length, List.length_map]
              k_steps
              · rename_i hb
                rename Fr _ _ _ _ => F4
                rename News _ _ _ _ => N4
                simp only [List.cons_append, List.nil_append] at N4
                obtain ⟨ha1, ha2, ha3⟩ := add1_in (i := q.2) hb
                have hix : ((((addAll [] Dd).map (·.1)).idxOf q.1 : Nat) : Int) < (((addAll [] Dd).map (·.2)).length : Int) := by
                  rw [List.length_map]; exact Int.ofNat_lt.mpr ha3
                refine index_strs (vs := xn) ?hl hxn (by rw [List.length_map]; omega) hb ?_
                case hl => exact ⟨listOf xn.toArray kn, (N4 (ln, listOf xn.toArray kn) (.tail _ (.tail _ (.head _)))).1, rfl, kn, rfl⟩
                k_steps
                have hne : ∀ (o1 o2 : Obj), ∀ p ∈ (ls, o1) :: (ln, o2) :: news, ∀ q ∈ [(I, oI)], p.1 ≠ q.1 := by
                  intro o1 o2 p hp q hq
                  rw [List.mem_singleton.mp hq]
                  rcases List.mem_cons.mp hp with rfl | hp
                  · exact Ne.symm hIls
                  · rcases List.mem_cons.mp hp with rfl | hp
                    · exact Ne.symm hIln
                    · exact Nat.ne_of_lt (hnn p hp)
                rename Fr _ _ _ _ => F6
                rename News _ _ _ _ => N6
                rename IntsAre _ _ => hi6
                refine hG _ ⟨_, _, _, (ls, _) :: (ln, listOf xn.toArray kn) :: news, rfl, F6, N6, hne _ _, ⟨.tail _ (.tail _ hl), trivial⟩, xn, _, kn, ks, Dd ++ [q], Dr, rfl, by rw [hsn, ha1]; exact hxn, ?_, by rw [hDD, List.append_assoc]; rfl, hr, by with_unfolding_all rfl, by with_unfolding_all rfl⟩
                rw [hsn, ha2]
                simpa using hi6
              · rename_i hb
                rename Fr _ _ _ _ => F4
                rename News _ _ _ _ => N4
                simp only [List.cons_append, List.nil_append] at N4
                refine appG F4 N4 (UpdF.tail hIln (UpdF.tail hlsn (UpdF.head hnln))) (by rw [hxl, sizeLine_eq]; omega) ?_
                intro h5 F5 N5
                clear F4 N4
                k_steps
                refine appG F5 N5 (UpdF.tail hIls (UpdF.head ?hls)) (by rw [hxsl, sizeLine_eq]; omega) ?_
                case hls =>
                  intro p hp
                  rcases List.mem_cons.mp hp with rfl | hp
                  · exact Ne.symm hlsn
                  · exact hnls p hp
                intro h6 F6 N6
                clear F5 N5
                k_steps
                have hne : ∀ (o1 o2 : Obj), ∀ p ∈ (ls, o1) :: (ln, o2) :: news, ∀ q ∈ [(I, oI)], p.1 ≠ q.1 := by
                  intro o1 o2 p hp q hq
                  rw [List.mem_singleton.mp hq]
                  rcases List.mem_cons.mp hp with rfl | hp
                  · exact Ne.symm hIls
                  · rcases List.mem_cons.mp hp with rfl | hp
                    · exact Ne.symm hIln
                    · exact Nat.ne_of_lt (hnn p hp)
                have hout := add1_out (i := q.2) hb
                refine hG _ ⟨_, _, _, (ls, _) :: (ln, _) :: news, rfl, F6, N6, hne _ _, ⟨.tail _ (.tail _ hl), trivial⟩, _, _, _, _, Dd ++ [q], Dr, rfl, ?_, ?_, by rw [hDD, List.append_assoc]; rfl, hr, by with_unfolding_all rfl, by with_unfolding_all rfl⟩
                · rw [hsn, hout, List.map_append]
                  exact hxn.append' (.cons _ _ .nil)
                · rw [hsn, hout, List.map_append]
                  exact hxs.append (.cons _ _ .nil)
  case done =>
    rintro mm n' ⟨xn, xs, kn, ks, Dd, Dr, rfl, hxn, hxs, hDD, hr, m1, m2⟩ h tk F N
    cases Dr with
    | cons q Dr => cases hr
    | nil =>
      rw [List.append_nil] at hDD
      subst hDD
      have F := putF (x := Str.ofString "sums") (v := .ref ls) (putF F m1) (by with_unfolding_all exact m2)
      clear F1 N1
      dsimp only
      k_steps
      rename ZipApart _ _ _ _ _ _ _ => hZA
      rename IsZip _ _ _ _ _ ∧ _ => hZ
      rename News _ _ _ _ => N9
      rename_i hLK h7 z TI TO i1 i2 F7 hk7 kz kTO k1 k2 alt kz2 kTO2 k12 k22 hle2
      obtain ⟨hz, hTI, ⟨va, vb, hTO⟩, hi1, hi2, hrest⟩ := hZ
      dsimp only at kz kTO k1 k2
      have hpos : 0 < h.objs.size := Nat.lt_of_le_of_lt (Nat.zero_le _) F.ns.lt
      have ltq : ∀ p ∈ news, p.1 < h.objs.size := fun p hp => by
        exact Nat.lt_of_le_of_lt (hle2 p (.tail _ (.tail _ hp))) (Nat.sub_lt hpos Nat.one_pos)
      have hLlt : L1 < h.objs.size := F.ns.lt
      have hxl : xn.length = (addAll [] D).length := by rw [hxn.len_eq, List.length_map]
      have hxsl : xs.length = (addAll [] D).length := by rw [hxs.length, List.length_map]
      have hS : (addAll [] D).length ≤ 5000 := by
        have := addAll_length [] D
        simp at this
        omega
      have m1l : h7.IsList ln xn.toArray := ⟨listOf xn.toArray kn, (N9 (ln, listOf xn.toArray kn) (.tail _ (.head _))).1, rfl, kn, rfl⟩
      have m2l : h7.IsList ls xs.toArray := ⟨listOf xs.toArray ks, (N9 (ls, listOf xs.toArray ks) (.head _)).1, rfl, ks, rfl⟩
      have h7sz : h.objs.size ≤ h7.objs.size := Nat.le_of_lt (Nat.lt_of_le_of_lt kz (Heap.lt_size hz))
      refine z_call (xs := xn.toArray) (ys := xs.toArray) (by rfl) hZA ?len ?sz hz hTI hTO hi1 hi2 m1l m2l ?_
      case len => rw [List.size_toArray, List.size_toArray]; omega
      case sz => rw [List.size_toArray, sizeLine_eq]; omega
      intro h8 tk8 acc c as keep8 hS8 hal hG hacc
      dsimp only at keep8 hS8 hG
      have old8 : ∀ b o, b < h.objs.size → h7.get? b = some o → h8.get? b = some o := fun b o hb e => keep8 b o (Nat.ne_of_lt (Nat.lt_of_lt_of_le hb kz)) (Nat.ne_of_lt (Nat.lt_of_lt_of_le hb kTO)) (Nat.ne_of_lt (Nat.lt_of_lt_of_le hb k1)) (Nat.ne_of_lt (Nat.lt_of_lt_of_le hb k2)) e
      have F8 : Fr g1 L1 h8 _ := ⟨F7.ns.at' fun o e => old8 _ o hLlt e, fun b o e => old8 b o (Heap.lt_size (F.keep b o e)) (F7.keep b o e), F7.above⟩
      have fresh8 : ∀ b, h7.objs.size ≤ b → b ≠ L1 ∧ g1.get? b = none := fun b hb => ⟨Nat.ne_of_gt (Nat.lt_of_lt_of_le hLlt (Nat.le_trans h7sz hb)), by
        cases e : g1.get? b with
        | none => rfl
        | some o => exact absurd (Heap.lt_size (F7.keep b o e)) (Nat.not_lt.mpr hb)⟩
      have N8 : News g1 L1 h8 ((h7.objs.size, listOf (as.map Value.ref).toArray c) :: (tlOf as xn xs ++ news)) := by
        intro p hp
        rcases List.mem_cons.mp hp with rfl | hp
        · refine ⟨?_, fresh8 _ (Nat.le_refl _)⟩
          rw [show (as.map Value.ref).toArray = acc by rw [← hacc]]
          exact hS8
        · rcases List.mem_append.mp hp with hp | hp
          · obtain ⟨j, x, y, e1, e2, e3, e4⟩ := tlOf_mem hp
            obtain ⟨x', y', q1, q2, q3⟩ := hG.pairs j p.1 e1
            have hx' : x' = x := by simpa [e2] using q1.symm
            have hy' : y' = y := by simpa [e3] using q2.symm
            subst hx' hy'
            refine ⟨by rw [e4]; exact q3, fresh8 _ ?_⟩
            exact Nat.le_of_succ_le (hG.above p.1 (List.mem_of_getElem? e1))
          · exact ⟨old8 _ _ (ltq p hp) (N9 p (.tail _ (.tail _ hp))).1, (N9 p (.tail _ (.tail _ hp))).2⟩
      have hlt8 : ∀ p ∈ (h7.objs.size, listOf (as.map Value.ref).toArray c) :: tlOf as xn xs, ∀ q ∈ news, q.1 < p.1 := by
        intro p hp q hq
        have hq' := Nat.lt_of_lt_of_le (ltq q hq) h7sz
        rcases List.mem_cons.mp hp with rfl | hp
        · exact hq'
        · obtain ⟨j, x, y, e1, e2, e3, e4⟩ := tlOf_mem hp
          exact Nat.lt_of_lt_of_le hq' (Nat.le_of_succ_le (hG.above p.1 (List.mem_of_getElem? e1)))
      have hDA : DatAll (tlOf as xn xs) (as.map Value.ref) ((addAll [] D).map prD) := dat_pairs hxn hxs (by rw [hal, List.size_toArray, hxl]) fun p hp => hp
      clear N9 F7 F
      dsimp only
      k_steps
      exact ret h7.objs.size (as.map Value.ref) (tlOf as xn xs) c h8 _ (by assumption) (by assumption) hDA hlt8
end Mine
end
section
open PySem PySem.W PyProof.Rows
set_option Elab.async false
set_option maxRecDepth 100000
set_option maxHeartbeats 4000000
namespace Mine
theorem warmP1 : (fun (_ : Params → Frag) (_ : OpenLaw) => True) KF Challenge.rw_in0007_01 := by
  k_fill
  trivial
local macro_rules | `(tactic| x_close) => `(tactic| (first | exact RetN.use (by assumption) (by assumption) | exact RetN.use (by assumption) (W.X.Mem.start _)))
theorem strip_ga {w : World} {dp un : Nat} {gd : Option (List Code)} {cn : Str} {cs : Scope} {a L : Addr} {ccd : Value} {cl : List (Str × Addr)} {outer : List Env} {env : Env} {Q E : Value → Shared → Prop} {h : Heap} {g : Array GenState} {dr : Drawn} {t tk : Nat} {os : OsState}
    (X : (KF w.params).In h) (ret : RetN Q (.builtin "str.strip") h g dr os) :
    wpAny (model pw w) ((ktrTop dp un gd cn cs L a ccd cl outer).deeper env) (call (.builtin "type.__getattribute__") [.type "str", .str (Str.ofString "strip") tk]) Q E ⟨h, g, dr, t, os⟩ := by
  x_run
noncomputable def cell0 (P : Params) : Obj := ⟨.type "dict", none, .dict [en P (Str.ofString "__name__") 1 (.str (Str.ofString "builtins") 160), en P (Str.ofString "__doc__") 2 (.builtin "builtins.__doc__:str#opaque"), en P (Str.ofString "__package__") 3 (.builtin "builtins.__package__:str#opaque"), en P (Str.ofString "__loader__") 4 (.builtin "builtins.__loader__:shared#opaque"), en P (Str.ofString "__spec__") 5 (.builtin "builtins.__spec__#opaque"), en P (Str.ofString "__build_class__") 6 (.builtin "__build_class__"), en P (Str.ofString "__import__") 7 (.builtin "__import__"), en P (Str.ofString "abs") 8 (.builtin "abs"), en P (Str.ofString "all") 9 (.builtin "all"), en P (Str.ofString "any") 10 (.builtin "any"), en P (Str.ofString "ascii") 11 (.builtin "ascii"), en P (Str.ofString "bin") 12 (.builtin "bin"), en P (Str.ofString "breakpoint") 13 (.builtin "breakpoint"), en P (Str.ofString "callable") 14 (.builtin "callable"), en P (Str.ofString "chr") 15 (.builtin "chr"), en P (Str.ofString "compile") 16 (.builtin "compile"), en P (Str.ofString "delattr") 17 (.builtin "delattr"), en P (Str.ofString "dir") 18 (.builtin "dir"), en P (Str.ofString "divmod") 19 (.builtin "divmod"), en P (Str.ofString "eval") 20 (.builtin "eval"), en P (Str.ofString "exec") 21 (.builtin "exec"), en P (Str.ofString "format") 22 (.builtin "format"), en P (Str.ofString "getattr") 23 (.builtin "getattr"), en P (Str.ofString "globals") 24 (.builtin "globals"), en P (Str.ofString "hasattr") 25 (.builtin "hasattr"), en P (Str.ofString "hash") 26 (.builtin "hash"), en P (Str.ofString "hex") 27 (.builtin "hex"), en P (Str.ofString "id") 28 (.builtin "id"), en P (Str.ofString "input") 29 (.builtin "input"), en P (Str.ofString "isinstance") 30 (.builtin "isinstance"), en P (Str.ofString "issubclass") 31 (.builtin "issubclass"), en P (Str.ofString "iter") 32 (.builtin "iter"), en P (Str.ofString "aiter") 33 (.builtin "aiter"), en P (Str.ofString "len") 34 (.builtin "len"), en P (Str.ofString "locals") 35 (.builtin "locals"), en P (Str.ofString "max") 36 (.builtin "max"), en P (Str.ofString "min") 37 (.builtin "min"), en P (Str.ofString "next") 38 (.builtin "next"), en P (Str.ofString "anext") 39 (.builtin "anext"), en P (Str.ofString "oct") 40 (.builtin "oct"), en P (Str.ofString "ord") 41 (.builtin "ord"), en P (Str.ofString "pow") 42 (.builtin "pow"), en P (Str.ofString "print") 43 (.builtin "print"), en P (Str.ofString "repr") 44 (.builtin "repr"), en P (Str.ofString "round") 45 (.builtin "round"), en P (Str.ofString "setattr") 46 (.builtin "setattr"), en P (Str.ofString "sorted") 47 (.builtin "sorted"), en P (Str.ofString "sum") 48 (.builtin "sum"), en P (Str.ofString "vars") 49 (.builtin "vars"), en P (Str.ofString "None") 50 .none, en P (Str.ofString "Ellipsis") 51 (.ellipsis), en P (Str.ofString "NotImplemented") 52 (.notImplemented), en P (Str.ofString "False") 53 (.bool false), en P (Str.ofString "True") 54 (.bool true), en P (Str.ofString "bool") 55 (.type "bool"), en P (Str.ofString "memoryview") 56 (.type "memoryview"), en P (Str.ofString "bytearray") 57 (.type "bytearray"), en P (Str.ofString "bytes") 58 (.type "bytes"), en P (Str.ofString "classmethod") 59 (.type "classmethod"), en P (Str.ofString "complex") 60 (.type "complex"), en P (Str.ofString "dict") 61 (.type "dict"), en P (Str.ofString "enumerate") 62 (.type "enumerate"), en P (Str.ofString "filter") 63 (.type "filter"), en P (Str.ofString "float") 64 (.type "float"), en P (Str.ofString "frozenset") 65 (.type "frozenset"), en P (Str.ofString "property") 66 (.type "property"), en P (Str.ofString "int") 67 (.type "int"), en P (Str.ofString "list") 68 (.type "list"), en P (Str.ofString "map") 69 (.type "map"), en P (Str.ofString "object") 70 (.type "object"), en P (Str.ofString "range") 71 (.type "range"), en P (Str.ofString "reversed") 72 (.type "reversed"), en P (Str.ofString "set") 73 (.type "set"), en P (Str.ofString "slice") 74 (.type "slice"), en P (Str.ofString "staticmethod") 75 (.type "staticmethod"), en P (Str.ofString "str") 76 (.type "str"), en P (Str.ofString "super") 77 (.type "super"), en P (Str.ofString "tuple") 78 (.type "tuple"), en P (Str.ofString "type") 79 (.type "type"), en P (Str.ofString "zip") 80 (.type "zip"), en P (Str.ofString "__debug__") 81 (.bool true), en P (Str.ofString "BaseException") 82 (.type "BaseException"), en P (Str.ofString "BaseExceptionGroup") 83 (.type "BaseExceptionGroup"), en P (Str.ofString "Exception") 84 (.type "Exception"), en P (Str.ofString "GeneratorExit") 85 (.type "GeneratorExit"), en P (Str.ofString "KeyboardInterrupt") 86 (.type "KeyboardInterrupt"), en P (Str.ofString "SystemExit") 87 (.type "SystemExit"), en P (Str.ofString "ArithmeticError") 88 (.type "ArithmeticError"), en P (Str.ofString "AssertionError") 89 (.type "AssertionError"), en P (Str.ofString "AttributeError") 90 (.type "AttributeError"), en P (Str.ofString "BufferError") 91 (.type "BufferError"), en P (Str.ofString "EOFError") 92 (.type "EOFError"), en P (Str.ofString "ImportError") 93 (.type "ImportError"), en P (Str.ofString "LookupError") 94 (.type "LookupError"), en P (Str.ofString "MemoryError") 95 (.type "MemoryError"), en P (Str.ofString "NameError") 96 (.type "NameError"), en P (Str.ofString "OSError") 97 (.type "OSError"), en P (Str.ofString "ReferenceError") 98 (.type "ReferenceError"), en P (Str.ofString "RuntimeError") 99 (.type "RuntimeError"), en P (Str.ofString "StopAsyncIteration") 100 (.type "StopAsyncIteration"), en P (Str.ofString "StopIteration") 101 (.type "StopIteration"), en P (Str.ofString "SyntaxError") 102 (.type "SyntaxError"), en P (Str.ofString "SystemError") 103 (.type "SystemError"), en P (Str.ofString "TypeError") 104 (.type "TypeError"), en P (Str.ofString "ValueError") 105 (.type "ValueError"), en P (Str.ofString "Warning") 106 (.type "Warning"), en P (Str.ofString "FloatingPointError") 107 (.type "FloatingPointError"), en P (Str.ofString "OverflowError") 108 (.type "OverflowError"), en P (Str.ofString "ZeroDivisionError") 109 (.type "ZeroDivisionError"), en P (Str.ofString "BytesWarning") 110 (.type "BytesWarning"), en P (Str.ofString "DeprecationWarning") 111 (.type "DeprecationWarning"), en P (Str.ofString "EncodingWarning") 112 (.type "EncodingWarning"), en P (Str.ofString "FutureWarning") 113 (.type "FutureWarning"), en P (Str.ofString "ImportWarning") 114 (.type "ImportWarning"), en P (Str.ofString "PendingDeprecationWarning") 115 (.type "PendingDeprecationWarning"), en P (Str.ofString "ResourceWarning") 116 (.type "ResourceWarning"), en P (Str.ofString "RuntimeWarning") 117 (.type "RuntimeWarning"), en P (Str.ofString "SyntaxWarning") 118 (.type "SyntaxWarning"), en P (Str.ofString "UnicodeWarning") 119 (.type "UnicodeWarning"), en P (Str.ofString "UserWarning") 120 (.type "UserWarning"), en P (Str.ofString "BlockingIOError") 121 (.type "BlockingIOError"), en P (Str.ofString "ChildProcessError") 122 (.type "ChildProcessError"), en P (Str.ofString "ConnectionError") 123 (.type "ConnectionError"), en P (Str.ofString "FileExistsError") 124 (.type "FileExistsError"), en P (Str.ofString "FileNotFoundError") 125 (.type "FileNotFoundError"), en P (Str.ofString "InterruptedError") 126 (.type "InterruptedError"), en P (Str.ofString "IsADirectoryError") 127 (.type "IsADirectoryError"), en P (Str.ofString "NotADirectoryError") 128 (.type "NotADirectoryError"), en P (Str.ofString "PermissionError") 129 (.type "PermissionError"), en P (Str.ofString "ProcessLookupError") 130 (.type "ProcessLookupError"), en P (Str.ofString "TimeoutError") 131 (.type "TimeoutError"), en P (Str.ofString "IndentationError") 132 (.type "IndentationError"), en P (Str.ofString "_IncompleteInputError") 133 (.type "_IncompleteInputError"), en P (Str.ofString "IndexError") 134 (.type "IndexError"), en P (Str.ofString "KeyError") 135 (.type "KeyError"), en P (Str.ofString "ModuleNotFoundError") 136 (.type "ModuleNotFoundError"), en P (Str.ofString "NotImplementedError") 137 (.type "NotImplementedError"), en P (Str.ofString "PythonFinalizationError") 138 (.type "PythonFinalizationError"), en P (Str.ofString "RecursionError") 139 (.type "RecursionError"), en P (Str.ofString "UnboundLocalError") 140 (.type "UnboundLocalError"), en P (Str.ofString "UnicodeError") 141 (.type "UnicodeError"), en P (Str.ofString "BrokenPipeError") 142 (.type "BrokenPipeError"), en P (Str.ofString "ConnectionAbortedError") 143 (.type "ConnectionAbortedError"), en P (Str.ofString "ConnectionRefusedError") 144 (.type "ConnectionRefusedError"), en P (Str.ofString "ConnectionResetError") 145 (.type "ConnectionResetError"), en P (Str.ofString "TabError") 146 (.type "TabError"), en P (Str.ofString "UnicodeDecodeError") 147 (.type "UnicodeDecodeError"), en P (Str.ofString "UnicodeEncodeError") 148 (.type "UnicodeEncodeError"), en P (Str.ofString "UnicodeTranslateError") 149 (.type "UnicodeTranslateError"), en P (Str.ofString "ExceptionGroup") 150 (.type "ExceptionGroup"), en P (Str.ofString "EnvironmentError") 151 (.type "OSError"), en P (Str.ofString "IOError") 152 (.type "OSError"), en P (Str.ofString "open") 153 (.builtin "open"), en P (Str.ofString "quit") 154 (.builtin "builtins.quit#opaque"), en P (Str.ofString "exit") 155 (.builtin "builtins.exit#opaque"), en P (Str.ofString "copyright") 156 (.builtin "builtins.copyright#opaque"), en P (Str.ofString "credits") 157 (.builtin "builtins.credits#opaque"), en P (Str.ofString "license") 158 (.builtin "builtins.license#opaque"), en P (Str.ofString "help") 159 (.builtin "builtins.help#opaque")].toArray 159, [].toArray⟩
abbrev pairObj (d : Addr) (x y : Value) : Obj := { cls := .ref 217, dict := some d, data := .seq #[x, y] }
local macro_rules | `(tactic| x_close) => `(tactic| (refine RetX.use (by assumption) (by assumption) ?_; exact ⟨_, _, _, rfl, rfl⟩))
theorem mkpair {w : World} {gd : Option (List Code)} {cn : Str} {cs : Scope} {a L : Addr} {ccd : Value} {cl : List (Str × Addr)} {outer : List Env} {env : Env} {Q E : Value → Shared → Prop} {h : Heap} {g : Array GenState} {dr : Drawn} {t t1 t2 : Nat} {os : OsState} {x y : Str}
    (X : (KF w.params).In h) (h0 : h.get? (nat_lit 0) = some (cell0 w.params)) (ret : RetX h (fun v news _ => ∃ b d rest, v = .ref b ∧ news = (b, pairObj d (.str x t1) (.str y t2)) :: (d, ({ cls := .type "dict", data := .dict #[] } : Obj)) :: rest) Q g dr os) :
    wpAny (model pw w) ((ktrTop (nat_lit 303) (nat_lit 10) gd cn cs L a ccd cl outer).deeper env) (call (.ref (nat_lit 217)) [.str x t1, .str y t2]) Q E ⟨h, g, dr, t, os⟩ := by
  unfold cell0 at h0
  x_run
end Mine
end
section
open PySem PySem.W PyProof.Rows
set_option Elab.async false
set_option maxRecDepth 100000
set_option maxHeartbeats 400000
namespace Mine
theorem warmPI : (fun (_ : Params → Frag) (_ : OpenLaw) => True) KF Challenge.rw_in0007_01 := by
  k_fill
  trivial
theorem q1 : plainId "tuple.__getitem__" = true := by decide +kernel
theorem q2 : builtinKind "tuple.__getitem__" = some .slot ∨ builtinKind "tuple.__getitem__" = some .method := by first | exact .inl (by decide +kernel) | exact .inr (by decide +kernel)
theorem q3 : splitId "tuple.__getitem__" = some ("tuple", "__getitem__") := by decide +kernel
theorem q4 (b : Addr) (k : Int) (u : Tok) : argsOk "tuple.__getitem__" ⟨[.ref b, .int k u], []⟩ := F.args_tuple_getitem_2 _ _
theorem q5 {w : World} {s : Shared} {b d : Addr} {od : Obj} {v1 v2 : Value} (X : (KF w.params).In s.heap) (I : InstAt s.heap b (pairObj d v1 v2) (nat_lit 217) (some od)) : Looks (model pw w) s.heap (isInstance (.ref b) (.type "tuple")) true := by
  exact I.type.andThen (looks_subIn X (by kernel_rfl))
section
variable {w : World} {A : Around} {E : Value → Shared → Prop} {s : Shared} {b d : Addr} {od : Obj} {v1 v2 : Value}
theorem pr_check {i n : String} {self : Value} {rest : List Value} {Q : Unit → Shared → Prop} (hk : builtinKind i = some .slot ∨ builtinKind i = some .method) (hs : splitId i = some ("tuple", n)) (hi : Looks (model pw w) s.heap (isInstance self (.type "tuple")) true) (ha : argsOk i ⟨self :: rest, []⟩) (q : Q () s) :
    wpAny (model pw w) A (checkBuiltinCall i ⟨self :: rest, []⟩) Q E s := by
  rcases hk with hk | hk
  · exact check_slot hk hs hi ha q
  · simp only [checkBuiltinCall, hk, hs]
    refine wpAny_bind (hi.here ?_)
    simp only [Bool.not_true, Bool.false_eq_true, if_false]
    cases hsig : Manifest.signature? i with
    | none => exact wpAny_pure q
    | some sig =>
      simp only [argsOk, hsig] at ha
      have h2 : Bind.checkArgs i sig ⟨self :: rest, []⟩ = pure () := ha
      show wpAny (model pw w) A (Bind.checkArgs i sig ⟨self :: rest, []⟩) Q E s
      rw [h2]; exact wpAny_pure q
theorem pr_call {id n : String} {Bi : Builtin} {rest : List Value} {Q : Value → Shared → Prop} (hk : builtinKind id = some .slot ∨ builtinKind id = some .method) (hs : splitId id = some ("tuple", n)) (hp : plainId id = true) (he : entryFor table id = some Bi) (ha : argsOk id ⟨.ref b :: rest, []⟩)
    (X : (KF w.params).In s.heap) (I : InstAt s.heap b (pairObj d v1 v2) (nat_lit 217) (some od))
    (h : wpAny (model pw w) A.in1 (Bi ⟨.ref b :: rest, []⟩) (fun fin s' => match fin with | .done (.ret v) => Q v s' | .done _ => False | .again c' => c'.quiet = true ∧ codeAny (model pw w) A c' (fun r s' => match r with | .ok (.ret v) => Q v s' | .ok _ => False | .error e => E e s') s') E s) :
    wpAny (model pw w) A (call (.builtin id) (.ref b :: rest)) Q E s := by
  refine wpAny_call (codeAny_call_builtin hp he (pr_check hk hs (q5 X I) ha ?_))
  refine wpAny_mono h (fun fin s' q => ?_) fun _ _ e => e
  cases fin with
  | done f => cases f <;> exact q
  | again c' => exact q
theorem pr_item {k : Int} {u : Tok} {j : Nat} {x : Value} {Q : Value → Shared → Prop} (X : (KF w.params).In s.heap) (I : InstAt s.heap b (pairObj d v1 v2) (nat_lit 217) (some od))
    (hlo : -(2 ^ 63) ≤ k) (hhi : k < 2 ^ 63) (hj : seqIndex? k 2 = some j) (hx : (#[v1, v2] : Array Value)[j]? = some x) (h : Q x s) : wpAny (model pw w) A (call (.builtin "tuple.__getitem__") [.ref b, .int k u]) Q E s := by
  refine pr_call q2 q3 q1 F.entry_tuple_getitem (q4 b k u) X I ?_
  show wpAny _ _ (Builtin.Tuple.tupleItemsOf (.ref b) >>= _) _ _ s
  unfold Builtin.Tuple.tupleItemsOf
  refine wpAny_bind (wpAny_bind (wpAny_seqItems I.at_ rfl (wpAny_pure ?_)))
  refine wpAny_bind (wpAny_typeOf (T := "int") (typeIs_int s k u) ?_)
  rw [if_neg (by decide)]
  refine wpAny_bind (wpAny_specialOf (T := "int") (typeIs_int s k u) int_index ?_)
  rw [if_neg (by simp)]
  refine wpAny_bind (wpAny_of_eq (a := k) rfl ?_)
  rw [if_neg (by simp; omega)]
  rw [show (#[v1, v2] : Array Value).size = 2 from rfl, hj, Option.bind_some, hx]
  exact wpAny_pure h
end
end Mine
end
section
open PySem PySem.W PyProof.Rows PySem.Calls
set_option Elab.async false
set_option maxRecDepth 100000
set_option maxHeartbeats 400000
namespace Mine
theorem slot_map_next' : Slot "map" "__next__" "map.__next__" :=
  .of (owner := "map") (n := "__next__") (by rw [typeLookup_type, builtinLookup_eq_fast]; kernel_rfl) (by decide +kernel) (by decide +kernel) (by decide +kernel)
    (by first | exact .inl (by decide +kernel) | exact .inr (by decide +kernel)) (by rw [isSubtype_type]; kernel_rfl)
theorem entry_map_next' : entryFor table "map.__next__" = some Builtin.«map.__next__» := entryFor_of_tree (by kernel_rfl)
theorem args_map_next' (a : Value) : argsOk "map.__next__" ⟨[a], []⟩ := by unfold argsOk; kernel_rfl
abbrev IsMap (h : Heap) (m TI : Addr) (f : Value) : Prop := h.get? m = some { cls := .type "map", dict := none, data := .fields #[.ref TI, f], slots := #[] }
abbrev IsOne (h : Heap) (T : Addr) (a : Value) : Prop := h.get? T = some { cls := .type "tuple", data := .seq #[a] }
section
variable {prog : Program} {w : World} {A : Around} {E : Value → Shared → Prop} {s : Shared}
theorem map_next {m TI i l : Addr} {f x : Value} {k : Nat} {xs : Array Value} {Q : Value → Shared → Prop} (hm : IsMap s.heap m TI f) (hT : IsOne s.heap TI (.ref i)) (hi : s.heap.IsListIter i l k) (hl : s.heap.IsList l xs) (hx : xs[k]? = some x)
    (h : ∀ h', h'.IsListIter i l (k + 1) → Heap.SameBut i s.heap h' → wpAny (model prog w) A (call f [x]) Q E { s with heap := h' }) (hmi : m ≠ i) :
    wpAny (model prog w) A (Builtin.«map.__next__» ⟨[.ref m], []⟩) (fun fin s' => ∃ v, fin = .done (.ret v) ∧ Q v s') E s := by
  show wpAny _ _ (field (.ref m) 0 >>= _) _ _ _
  refine wpAny_bind (wpAny_field hm rfl (x := .ref TI) rfl ?_)
  refine wpAny_bind (wpAny_seqItems hT rfl ?_)
  try dsimp only
  refine wpAny_bind ?_
  simp only [List.forIn_toArray, List.forIn_cons, List.forIn_nil]
  refine wpAny_bind (wpAny_bind (wpAny_holding ?_))
  refine wpAny_nextOf_list_item hi hl hx fun h' hi' hs' => wpAny_pure (wpAny_pure ?_)
  try dsimp only
  refine wpAny_bind (wpAny_field (hs'.extBut _ _ hmi hm) rfl (x := f) rfl ?_)
  refine wpAny_bind (wpAny_holding ?_)
  refine wpAny_mono (h h' hi' hs') (fun v s' hv => ?_) fun _ _ e => e
  refine wpAny_bind (wpAny_letGo ?_)
  exact wpAny_pure ⟨v, rfl, hv⟩
theorem map_stop {m TI i l : Addr} {f : Value} {k : Nat} {xs : Array Value} {Q : Fin → Shared → Prop} (hh : A.handled = none) (hm : IsMap s.heap m TI f) (hT : IsOne s.heap TI (.ref i)) (hi : s.heap.IsListIter i l k) (hl : s.heap.IsList l xs) (hx : xs[k]? = none)
    (hE : ∀ h' e, Heap.ExtBut i s.heap h' → (∃ o, h'.get? e = some o ∧ o.cls = .type "StopIteration") → E (.ref e) { s with heap := h' }) :
    wpAny (model prog w) A (Builtin.«map.__next__» ⟨[.ref m], []⟩) Q E s := by
  show wpAny _ _ (field (.ref m) 0 >>= _) _ _ _
  refine wpAny_bind (wpAny_field hm rfl (x := .ref TI) rfl ?_)
  refine wpAny_bind (wpAny_seqItems hT rfl ?_)
  try dsimp only
  refine wpAny_bind ?_
  simp only [List.forIn_toArray, List.forIn_cons, List.forIn_nil]
  refine wpAny_bind (wpAny_bind (wpAny_holding ?_))
  exact wpAny_nextOf_list_end hh hi hl hx hE
theorem map_item {m TI i l : Addr} {f x : Value} {k : Nat} {xs : Array Value} {Q : Option Value → Shared → Prop} (hm : IsMap s.heap m TI f) (hT : IsOne s.heap TI (.ref i)) (hi : s.heap.IsListIter i l k) (hl : s.heap.IsList l xs) (hx : xs[k]? = some x)
    (h : ∀ A' h', h'.IsListIter i l (k + 1) → Heap.SameBut i s.heap h' → wpAny (model prog w) A' (call f [x]) (fun v s' => Q (some v) s') (fun _ _ => False) { s with heap := h' }) (hmi : m ≠ i) :
    wpAny (model prog w) A (pyNext (.ref m)) Q E s := by
  have hTz : s.TypeIs (.ref m) "map" := ⟨_, hm, rfl⟩
  unfold pyNext
  exact wpAny_bind (wpAny_attempt (wpAny_callSpecial?_slot (name := Str.ofString "__next__") hTz slot_map_next'
    (wpAny_call_entry slot_map_next' hTz entry_map_next' (map_next hm hT hi hl hx (fun h' a b => wpAny_mono (h _ h' a b) (fun v s' q => wpAny_pure q) fun _ _ e => e.elim) hmi) (args_map_next' _))))
theorem map_end {m TI i l : Addr} {f : Value} {k : Nat} {xs : Array Value} {Q : Option Value → Shared → Prop} (hh : A.handled = none) (hm : IsMap s.heap m TI f) (hT : IsOne s.heap TI (.ref i)) (hi : s.heap.IsListIter i l k) (hl : s.heap.IsList l xs) (hx : xs[k]? = none)
    (hQ : ∀ h', Heap.ExtBut i s.heap h' → Q none { s with heap := h' }) : wpAny (model prog w) A (pyNext (.ref m)) Q E s := by
  have hTz : s.TypeIs (.ref m) "map" := ⟨_, hm, rfl⟩
  unfold pyNext
  refine wpAny_bind (wpAny_attempt (wpAny_callSpecial?_slot (name := Str.ofString "__next__") hTz slot_map_next'
    (wpAny_call_entry slot_map_next' hTz entry_map_next' (map_stop hh hm hT hi hl hx fun h' e hk he => ?_) (args_map_next' _))))
  obtain ⟨o, ho, hc⟩ := he
  refine wpAny_bind (wpAny_isInstance (T := "StopIteration") (b := true) ⟨o, ho, hc⟩ isSubtype_stop ?_)
  exact wpAny_pure (hQ _ hk)
variable {R : Result → Shared → Prop}
theorem m_loop {S m TI i l : Addr} {vs : List Value} {ss : List Str} (hh : A.handled = none) (hv : StrsAre vs ss) (hlen : ∀ x ∈ ss, x.length ≤ sizeLine) (hn : ss.length ≤ 1000) (a1 : m ≠ S) (a2 : TI ≠ S) (a3 : i ≠ S) (a4 : l ≠ S) (a5 : m ≠ i) (a6 : TI ≠ i) (a7 : l ≠ i) (res : Value) {h₁ : Heap}
    (hR : ∀ h' tk acc c, (∀ b o, b ≠ S → b ≠ i → h₁.get? b = some o → h'.get? b = some o) → h'.get? S = some { cls := .type "list", dict := none, data := .seq acc c, slots := #[] } → StrsAre acc.toList (ss.map Txt.strip) → R (.ok (.ret res)) { s with heap := h', toks := tk }) :
    ∀ (n k : Nat) (h : Heap) (tk c : Nat) (acc : Array Value), ss.length - k = n → k ≤ ss.length → IsMap h m TI (.builtin "str.strip") → IsOne h TI (.ref i) → h.IsListIter i l k → h.IsList l vs.toArray → (∀ b o, b ≠ S → b ≠ i → h₁.get? b = some o → h.get? b = some o) →
      h.get? S = some { cls := .type "list", dict := none, data := .seq acc c, slots := #[] } → StrsAre acc.toList ((ss.take k).map Txt.strip) →
      codeAny (model prog w) A (.builtin "list.extend.loop" ⟨[.ref S, .ref m, res], []⟩) R { s with heap := h, toks := tk } := by
  have hvl := hv.len_eq
  intro n
  induction n with
  | zero =>
    intro k h tk c acc hk hi hm hT hit hl hkeep hS hacc
    have hin : k = ss.length := by omega
    refine codeAny_builtin PySem.F.entry_extend_loop ?_
    rw [Around.under_plainId PySem.F.plain_extend_loop _]
    show wpAny _ A.in1 (pyNext (.ref m) >>= _) _ _ _
    refine wpAny_bind (map_end (s := { s with heap := h, toks := tk }) (A := A.in1) hh hm hT hit hl (by simp; omega) fun h' he => ?_)
    refine wpAny_pure (hR h' tk acc c (fun b o c0 c1 e => he b o c1 (hkeep b o c0 c1 e)) (he S _ (Ne.symm a3) hS) ?_)
    rw [hin, List.take_length] at hacc
    exact hacc
  | succ n ih =>
    intro k h tk c acc hk hi hm hT hit hl hkeep hS hacc
    have hlt : k < ss.length := by omega
    have hs : ss[k]? = some ss[k] := List.getElem?_eq_getElem hlt
    obtain ⟨t, ht⟩ := hv.at hs
    have hsz : acc.size = k := by
      have := hacc.len_eq
      rw [List.length_map, List.length_take, Array.length_toList] at this
      omega
    refine codeAny_builtin PySem.F.entry_extend_loop ?_
    rw [Around.under_plainId PySem.F.plain_extend_loop _]
    show wpAny _ A.in1 (pyNext (.ref m) >>= _) _ _ _
    refine wpAny_bind (map_item (s := { s with heap := h, toks := tk }) hm hT hit hl (by simpa using ht) (fun A' h' hit' hsb => ?_) a5)
    dsimp only at hit' hsb ⊢
    refine SC.strip (fun t' k' => ?_) (hlen _ (List.getElem_mem hlt))
    have hS' := hsb.extBut S _ (Ne.symm a3) hS
    have up : ∀ b o, b ≠ S → h'.get? b = some o → (h'.update S (Obj.mapSeq (·.push (Value.str (Txt.strip ss[k]) t')))).get? b = some o := fun b o hb e => (Heap.get?_update_other _ _ (Ne.symm hb)).trans e
    show wpAny _ A.in1 (updateSeq S (·.push (Value.str (Txt.strip ss[k]) t')) >>= _) _ _ _
    refine wpAny_bind ?_
    refine wpAny_updateSeq hS' rfl (wpAny_pure ⟨plainId_quiet PySem.F.plain_extend_loop _, ih (k + 1) _ k' _ (acc.push (Value.str (Txt.strip ss[k]) t')) (by omega) hlt (up _ _ a1 (hsb.extBut _ _ a5 hm)) (up _ _ a2 (hsb.extBut _ _ a6 hT)) (hit'.at fun o e => up _ o a3 e) ((hl.extBut hsb.extBut a7).at fun o e => up _ o a4 e)
      (fun b o c0 c1 e => up b o c0 (hsb.extBut _ _ c1 (hkeep b o c0 c1 e))) (Heap.get?_update_self _ hS' rfl) ?_⟩) (by rw [hsz, sizeLine_eq]; omega) (by show (acc.push _).size ≤ sizeLine + 1; rw [Array.size_push, hsz, sizeLine_eq]; omega)
    rw [Array.toList_push, List.take_succ, hs, List.map_append]
    exact hacc.append' (.cons _ _ .nil)
end
end Mine
end
section
open PySem PySem.W PyProof.Rows PySem.Calls
set_option Elab.async false
set_option maxRecDepth 100000
set_option maxHeartbeats 400000
namespace Mine
theorem slot_map_iter' : Slot "map" "__iter__" "map.__iter__" :=
  .of (owner := "map") (n := "__iter__") (by rw [typeLookup_type, builtinLookup_eq_fast]; kernel_rfl) (by decide +kernel) (by decide +kernel) (by decide +kernel)
    (by first | exact .inl (by decide +kernel) | exact .inr (by decide +kernel)) (by rw [isSubtype_type]; kernel_rfl)
theorem entry_map_iter' : entryFor table "map.__iter__" = some Builtin.«dict_keyiterator.__iter__» :=
  entryFor_alias (id' := "dict_keyiterator.__iter__") (by kernel_rfl) (by first | rfl | decide +kernel | (unfold String.splitOn; simp +decide [String.splitOnAux])) (by decide +kernel) (by kernel_rfl)
theorem args_map_iter' (a : Value) : argsOk "map.__iter__" ⟨[a], []⟩ := by unfold argsOk; kernel_rfl
theorem m_nolen : typeLookup (.type "map") "__len__" = pure none := by rw [typeLookup_type, builtinLookup_eq_fast]; kernel_rfl
theorem m_nohint : typeLookup (.type "map") "__length_hint__" = pure none := by rw [typeLookup_type, builtinLookup_eq_fast]; kernel_rfl
section
variable {prog : Program} {w : World} {A : Around} {E : Value → Shared → Prop} {s : Shared}
theorem m_hint {z : Addr} (hT : s.TypeIs (.ref z) "map") {Q : Bool → Shared → Prop} (h : Q true s) : wpAny (model prog w) A (Builtin.List.listLengthHint (.ref z)) Q E s := by
  unfold Builtin.List.listLengthHint specialOf
  refine wpAny_bind (wpAny_bind (wpAny_typeOf hT (wpAny_of_eq m_nolen ?_)))
  dsimp only
  refine wpAny_ite_split (fun hab => absurd hab (by decide)) (fun _ => ?_)
  refine wpAny_ite_split (fun hab => absurd hab (by decide)) (fun _ => ?_)
  refine wpAny_bind (wpAny_bind (wpAny_typeOf hT (wpAny_of_eq m_nohint ?_)))
  exact wpAny_pure h
theorem m_iter {m TI : Addr} {f : Value} {Q : Value → Shared → Prop} (hm : IsMap s.heap m TI f) (h : Q (.ref m) s) : wpAny (model prog w) A (pyIter (.ref m)) Q E s := by
  have hT : s.TypeIs (.ref m) "map" := ⟨_, hm, rfl⟩
  refine wpAny_pyIter_slot hT slot_map_iter' (wpAny_call_entry slot_map_iter' hT entry_map_iter' ?_ (args_map_iter' _))
  show wpAny _ _ (ret (.ref m)) _ _ s
  exact wpAny_pure ⟨_, rfl, "map", _, hT, slot_map_next'.lookup, h⟩
theorem m_iterable {m TI : Addr} {f : Value} {Q : Bool → Shared → Prop} (hm : IsMap s.heap m TI f) (h : Q false s) : wpAny (model prog w) A (notIterableAtAll (.ref m)) Q E s := by
  have hT : s.TypeIs (.ref m) "map" := ⟨_, hm, rfl⟩
  unfold notIterableAtAll
  refine wpAny_bind (wpAny_specialOf hT slot_map_iter'.lookup ?_)
  exact wpAny_pure h
variable {R : Result → Shared → Prop}
theorem m_extend {S m TI i l : Addr} {vs : List Value} {ss : List Str} (hh : A.handled = none) (hv : StrsAre vs ss) (hlen : ∀ x ∈ ss, x.length ≤ sizeLine) (hn : ss.length ≤ 1000) (a1 : m ≠ S) (a2 : TI ≠ S) (a3 : i ≠ S) (a4 : l ≠ S) (a5 : m ≠ i) (a6 : TI ≠ i) (a7 : l ≠ i) (res : Value)
    (hm : IsMap s.heap m TI (.builtin "str.strip")) (hT : IsOne s.heap TI (.ref i)) (hi : s.heap.IsListIter i l 0) (hl : s.heap.IsList l vs.toArray)
    (c₀ : Nat) (hS : s.heap.get? S = some { cls := .type "list", data := .seq #[] c₀ })
    (hR : ∀ h' tk acc c, (∀ b o, b ≠ S → b ≠ i → s.heap.get? b = some o → h'.get? b = some o) → h'.get? S = some { cls := .type "list", dict := none, data := .seq acc c, slots := #[] } → StrsAre acc.toList (ss.map Txt.strip) → R (.ok (.ret res)) { s with heap := h', toks := tk }) :
    wpAny (model prog w) A.in1 (Builtin.List.listExtendWith (.ref S) (.ref m) res)
      (fun fin s' => match fin with | .done f => R (.ok f) s' | .again c' => c'.quiet = true ∧ codeAny (model prog w) A c' R s') (fun e s' => R (.error e) s') s := by
  have hTm : s.TypeIs (.ref m) "map" := ⟨_, hm, rfl⟩
  have key : ∀ (h : Heap) (c₁ tk : Nat), (∀ b o, b ≠ S → s.heap.get? b = some o → h.get? b = some o) →
      h.get? S = some { cls := .type "list", data := .seq #[] c₁ } → codeAny (model prog w) A (.builtin "list.extend.loop" ⟨[.ref S, .ref m, res], []⟩) R { s with heap := h, toks := tk } := by
    intro h c₁ tk hk hS₁
    exact m_loop (s := s) (h₁ := s.heap) hh hv hlen hn a1 a2 a3 a4 a5 a6 a7 res hR ss.length 0 h tk c₁ #[] (Nat.sub_zero _) (Nat.zero_le _)
      (hk _ _ a1 hm) (hk _ _ a2 hT) (hi.at fun o e => hk _ o a3 e) (hl.at fun o e => hk _ o a4 e) (fun b o c0 _ e => hk b o c0 e) hS₁ .nil
  unfold Builtin.List.listExtendWith
  refine wpAny_bind (wpAny_typeOf (T := "map") hTm ?_)
  have q1 : Builtin.List.listSameRef (.ref S) (.ref m) = false := by simp [Builtin.List.listSameRef, Ne.symm a1]
  have q2 : (Value.type "map" == Value.type "list") = false := by decide
  have q3 : (Value.type "map" == Value.type "tuple") = false := by decide
  simp only [q1, q2, q3, Bool.or_false, Bool.false_eq_true, if_false]
  refine wpAny_bind (m_iter hm ?_)
  refine wpAny_bind (wpAny_holding (m_hint hTm ?_))
  refine wpAny_ite_split (fun _ => ?_) (fun hab => absurd (by simp) hab)
  refine wpAny_bind (wpAny_rule ?_)
  refine wpAny_bind ?_
  show wpAny _ _ (updateSeq S (·.push .none) >>= fun _ => updateSeq S (·.pop)) _ _ _
  refine wpAny_bind (wpAny_updateSeq hS rfl ?_)
  have hS₂ := Heap.get?_update_self (Obj.mapSeq (·.push Value.none)) hS rfl
  refine wpAny_updateSeq (hz := by seq_fits) hS₂ rfl ?_
  have hS₃ := Heap.get?_update_self (Obj.mapSeq (·.pop)) hS₂ rfl
  refine wpAny_pure ⟨plainId_quiet PySem.F.plain_extend_loop _, key _ _ _ (fun b o hb e => ?_) hS₃⟩
  exact (Heap.get?_update_other _ _ (Ne.symm hb)).trans ((Heap.get?_update_other _ _ (Ne.symm hb)).trans e)
theorem m_collect {m TI i l : Addr} {vs : List Value} {ss : List Str} {R : List Value → Shared → Prop} (hh : A.handled = none) (hv : StrsAre vs ss) (hlen : ∀ x ∈ ss, x.length ≤ sizeLine) (hn : ss.length ≤ 1000) (a5 : m ≠ i) (a6 : TI ≠ i) (a7 : l ≠ i)
    (hm : IsMap s.heap m TI (.builtin "str.strip")) (hT : IsOne s.heap TI (.ref i)) (hi : s.heap.IsListIter i l 0) (hl : s.heap.IsList l vs.toArray)
    (h : ∀ (h' : Heap) (tk : Nat) (us : List Value), (∀ b o, b ≠ i → s.heap.get? b = some o → h'.get? b = some o) → StrsAre us (ss.map Txt.strip) → R us { s with heap := h', toks := tk }) :
    wpAny (model prog w) A (collect (.ref m)) R E s := by
  have n1 : i < s.heap.objs.size := by obtain ⟨_, e, _⟩ := hi; exact Heap.lt_size e
  have n2 : l < s.heap.objs.size := by obtain ⟨_, e, _⟩ := hl; exact Heap.lt_size e
  unfold collect
  refine wpAny_bind (wpAny_runValue (codeAny_builtin entry_proto_collect' ?_))
  rw [Around.under_plainId PySem.F.plain_proto_collect _]
  show wpAny _ A.in1 (newList [] >>= fun l => again (.builtin "list.__iadd__" ⟨[l, .ref m], []⟩)) _ _ s
  refine wpAny_bind (wpAny_newObj_type ?_)
  refine wpAny_pure ⟨plainId_quiet PySem.F.plain_list_iadd _, codeAny_builtin entry_list_iadd' ?_⟩
  rw [Around.under_plainId PySem.F.plain_list_iadd _]
  have hS₁ : (s.heap.push { cls := .type "list", data := .seq ([] : List Value).toArray }).get? s.heap.objs.size = some { cls := .type "list", data := .seq #[] } := Heap.get?_push_size _ rfl
  show wpAny _ A.in1 (Builtin.List.listExtendWith (.ref s.heap.objs.size) (.ref m) (.ref s.heap.objs.size)) _ _ _
  have pu : ∀ b o, s.heap.get? b = some o → (s.heap.push { cls := .type "list", data := .seq ([] : List Value).toArray }).get? b = some o := fun b o e => Heap.get?_push_of_some _ e
  have key := m_extend (prog := prog) (w := w) (A := A) (s := { s with heap := s.heap.push { cls := .type "list", data := .seq ([] : List Value).toArray } })
    (R := fun (q : Result) (s' : Shared) => ∃ (h' : Heap) (tk : Nat) (acc' : Array Value) (c' : Nat), q = .ok (.ret (.ref s.heap.objs.size)) ∧ s' = { s with heap := h', toks := tk } ∧
      (∀ b o, b ≠ i → s.heap.get? b = some o → h'.get? b = some o) ∧ h'.get? s.heap.objs.size = some { cls := .type "list", dict := none, data := .seq acc' c', slots := #[] } ∧ StrsAre acc'.toList (ss.map Txt.strip))
    hh hv hlen hn (Nat.ne_of_lt (Heap.lt_size hm)) (Nat.ne_of_lt (Heap.lt_size hT)) (Nat.ne_of_lt n1) (Nat.ne_of_lt n2) a5 a6 a7 (.ref s.heap.objs.size) (pu _ _ hm) (pu _ _ hT) (hi.at fun o e => pu _ o e) (hl.at fun o e => pu _ o e) 0 hS₁
    (fun h' tk acc' c' hk hS' hacc => ⟨h', tk, acc', c', rfl, rfl, fun b o hb e => hk b o (Nat.ne_of_lt (Heap.lt_size e)) hb (pu b o e), hS', hacc⟩)
  refine wpAny_mono key (fun fin s' x => ?_) fun e s' x => ?_
  · cases fin with
    | done f =>
      obtain ⟨h', tk, acc', c', e, rfl, hk, hS', hacc⟩ := x
      cases e
      show wpAny _ A (load s.heap.objs.size >>= _) _ _ _
      refine wpAny_bind (wpAny_load hS' ?_)
      refine wpAny_pure ?_
      show R acc'.toList _
      exact h h' tk _ hk hacc
    | again c₁ =>
      refine ⟨x.1, codeAny_mono x.2 fun q s₂ y => ?_⟩
      obtain ⟨h', tk, acc', c', rfl, rfl, hk, hS', hacc⟩ := y
      show wpAny _ A (load s.heap.objs.size >>= _) _ _ _
      refine wpAny_bind (wpAny_load hS' ?_)
      refine wpAny_pure ?_
      show R acc'.toList _
      exact h h' tk _ hk hacc
  · obtain ⟨_, _, _, _, e', _⟩ := x
    cases e'
theorem m_star {m TI i l : Addr} {vs : List Value} {ss : List Str} {R : List Value → Shared → Prop} (hh : A.handled = none) (hv : StrsAre vs ss) (hlen : ∀ x ∈ ss, x.length ≤ sizeLine) (hn : ss.length ≤ 1000) (a5 : m ≠ i) (a6 : TI ≠ i) (a7 : l ≠ i)
    (hm : IsMap s.heap m TI (.builtin "str.strip")) (hT : IsOne s.heap TI (.ref i)) (hi : s.heap.IsListIter i l 0) (hl : s.heap.IsList l vs.toArray)
    (h : ∀ (h' : Heap) (tk : Nat) (us : List Value), (∀ b o, b ≠ i → s.heap.get? b = some o → h'.get? b = some o) → StrsAre us (ss.map Txt.strip) → R us { s with heap := h', toks := tk }) :
    W.StarOf (model prog w) A E (.ref m) R s := by
  unfold W.StarOf
  exact m_iterable hm ⟨rfl, m_collect hh hv hlen hn a5 a6 a7 hm hT hi hl h⟩
end
end Mine
end
section
open PySem PySem.W PyProof.Rows
set_option Elab.async false
set_option maxRecDepth 100000
set_option maxHeartbeats 400000
namespace Mine
theorem warmMN : (fun (_ : Params → Frag) (_ : OpenLaw) => True) KF Challenge.rw_in0007_01 := by
  k_fill
  trivial
local macro_rules | `(tactic| x_close) => `(tactic| (refine RetX.use (by assumption) (by assumption) ?_; exact ⟨_, _, _, rfl, rfl⟩))
theorem map_new {w : World} {dp un : Nat} {gd : Option (List Code)} {cn : Str} {cs : Scope} {a L l c : Addr} {ccd : Value} {cl : List (Str × Addr)} {outer : List Env} {env : Env} {xs : Array Value} {Q E : Value → Shared → Prop} {h : Heap} {g : Array GenState} {dr : Drawn} {t : Nat} {os : OsState}
    (X : (KF w.params).In h) (hl : h.get? l = some { cls := .type "list", dict := none, data := .seq xs c, slots := #[] })
    (ret : RetX h (fun v news _ => ∃ m T i, v = .ref m ∧ news = [(m, ({ cls := .type "map", dict := none, data := .fields #[.ref T, .builtin "str.strip"], slots := #[] } : Obj)), (T, ({ cls := .type "tuple", data := .seq #[.ref i] } : Obj)), (i, ({ cls := .type "list_iterator", data := .fields #[.ref l, .int 0 0] } : Obj))]) Q g dr os) :
    wpAny (model pw w) ((ktrTop dp un gd cn cs L a ccd cl outer).deeper env) (call (.type "map") [.builtin "str.strip", .ref l]) Q E ⟨h, g, dr, t, os⟩ := by
  x_run
end Mine
end
section
open PySem PySem.W PyProof.Rows
set_option Elab.async false
set_option maxRecDepth 100000
set_option maxHeartbeats 400000
namespace Mine
theorem warmP2 : (fun (_ : Params → Frag) (_ : OpenLaw) => True) KF Challenge.rw_in0007_01 := by
  k_fill
  trivial
local macro_rules | `(tactic| k_room) => `(tactic| ktr_room)
local macro_rules | `(tactic| k_units) => `(tactic| ktr_units)
theorem strip_attr {w : World} {dp un : Nat} {gd : Option (List Code)} {cn : Str} {cs : Scope} {a L : Addr} {ccd : Value} {cl : List (Str × Addr)} {outer : List Env} {env : Env} {Q E : Value → Shared → Prop} {h : Heap} {g : Array GenState} {dr : Drawn} {t : Nat} {os : OsState} {expr : Bool}
    (X : (KF w.params).In h) (ret : RetN Q (.builtin "str.strip") h g dr os) :
    wpAny (model pw w) ((ktrTop dp un gd cn cs L a ccd cl outer).deeper env) (getAttr (.type "str") (Str.ofString "strip") expr) Q E ⟨h, g, dr, t, os⟩ := by
  have hty : typeOf (.type "str") = pure (.type "type") := by kernel_rfl
  have hlk := PySem.W.KF.slot_tga.lookup
  unfold getAttr getAttrBy
  refine wpAny_bind (wpAny_mkText (wpAny_holding (wpAny_bind (wpAny_of_eq hty (wpAny_bind (wpAny_of_eq hlk ?_))))))
  dsimp only
  rw [if_neg (by decide)]
  unfold getAttrByItsOwn hookBefore callGetattribute boundAndCalled
  refine wpAny_bind (wpAny_of_eq (show (if onTheHeap (.type "type") then typeLookup (.type "type") "__getattr__" else pure none) = pure none from rfl) ?_)
  refine wpAny_bind (wpAny_attempt (wpAny_holding ?_))
  rw [if_neg (by cases expr <;> decide)]
  refine wpAny_bind (wpAny_of_eq (PySem.W.KF.slot_tga.bind _) ?_)
  refine strip_ga X ?_
  intro h6 t6 nw6 D6
  exact handed_on (by kernel_rfl) (ret h6 t6 nw6 D6)
theorem parsec {w : World} {p : Program} {loose : List Str} {mean : ExcName → Option Value} {mg mb : Str → Option Value} {gd : Option (List Code)} {cn : Str} {cs : Scope} {a : Addr} {ccd : Value} {cl : List (Str × Addr)} {outer : List Env} {A₀ : Around} {base h₀ : Heap} {L : Addr} {m : Str → Option Value} {news : List (Addr × Obj)} {s : Shared} {tk : Nat} {Q E : Value → Shared → Prop} {x y z : Str}
    (hx : x.length ≤ 1000) (hsp : (Txt.splitMax x (Str.ofString "=") 1).map Txt.strip = [y, z])
    (B : Below A₀ base outer h₀) (F : Fr h₀ L s.heap m) (X : (KF w.params).In h₀) (N : News h₀ L s.heap news) (T : Top p loose mean mg mb h₀) (hk : cs.kind = .function)
    (ret : ∀ h' tk' b d t1 t2, Fr h₀ L h' m → News h₀ L h' ((b, pairObj d (.str y t1) (.str z t2)) :: (d, ({ cls := .type "dict", data := .dict #[] } : Obj)) :: news) → Q (.ref b) { s with heap := h', toks := tk' }) :
    codeAny (model pw w) (ktrTop (nat_lit 303) (nat_lit 10) gd cn cs L a ccd cl outer) (.call (.ref 211) ⟨[.ref 217, .str x tk], []⟩) (fun r s' => match r with | .ok (.ret v) => Q v s' | .ok _ => False | .error e => E e s') s := by
  obtain ⟨hS0, gS0, dS0, tS0, oS0⟩ := s
  have hd : (nat_lit 303) + 15 < recursionLimit := by decide
  have hun : (nat_lit 10) + 160 < cLine := by decide
  have hxl : x.length ≤ sizeLine := by rw [sizeLine_eq]; omega
  w_on
  k_dflt ktr_enter
  k_steps
  rename Fr _ _ _ _ => F1
  rename News _ _ _ _ => N1
  rename (KF w.params).In _ => X1
  refine strip_attr (X1.keeps F1.keep) ?_
  intro h2 t2 nw2 D2
  have N2 := (memNews D2 F1 N1).right
  have F2 := F1.keeps (memKeep D2)
  clear F1 N1
  k_steps
  rename Fr _ _ _ _ => F3
  rename News _ _ _ _ => N3
  dsimp only at F3 N3 ⊢
  rename_i ll h3 tk3 e1 e2 e3 e4
  refine map_new (X1.keeps F3.keep) (N3 _ (.head _)).1 ?_
  intro v h4 t4 nw4 D4 hv
  obtain ⟨m4, T4, i4, rfl, rfl⟩ := hv
  have N4 := memNews D4 F3 N3
  have F4 := F3.keeps (memKeep D4)
  have off := memOff D4 N3
  have gm := (N4 _ (.head _)).1
  have gT := (N4 _ (.tail _ (.head _))).1
  have gi := (N4 _ (.tail _ (.tail _ (.head _)))).1
  have fi := (N4 _ (.tail _ (.tail _ (.head _)))).2
  have gl := (N4 _ (.tail _ (.tail _ (.tail _ (.head _))))).1
  dsimp only at gm gT gi fi gl
  rw [e1] at e2 e3
  have hlen : (Txt.splitMax x (Str.ofString "=") 1).length = 2 := by simpa using congrArg List.length hsp
  refine m_star rfl e2 (fun u hu => Nat.le_trans (e3 u hu) hxl) (by omega) ?q1 ?q2 ?q3 gm gT ⟨_, gi, rfl, rfl⟩ ⟨_, gl, rfl, _, rfl⟩ ?_
  case q1 => intro e; rw [e, gi] at gm; exact absurd (congrArg Obj.cls (Option.some.inj gm)) (by show ¬ Value.type "list_iterator" = Value.type "map"; decide)
  case q2 => intro e; rw [e, gi] at gT; exact absurd (congrArg Obj.cls (Option.some.inj gT)) (by show ¬ Value.type "list_iterator" = Value.type "tuple"; decide)
  case q3 => intro e; rw [e, gi] at gl; exact absurd (congrArg Obj.cls (Option.some.inj gl)) (by show ¬ Value.type "list_iterator" = Value.type "list"; decide)
  intro h5 t5 us keep5 hus
  dsimp only at keep5
  rw [hsp] at hus
  have F5 : Fr _ _ h5 _ := ⟨F4.ns.at' fun o e => keep5 _ o (Ne.symm fi.1) e, fun b o e => keep5 b o (fun q => by rw [q, fi.2] at e; cases e) (F4.keep b o e), F4.above⟩
  have N5 : News _ _ h5 news := fun p hp => ⟨keep5 _ _ (fun q => (off _ (.tail _ (.tail _ (.head _))) p (.tail _ hp)) q.symm) (N4 p (.tail _ (.tail _ (.tail _ (.tail _ hp))))).1, (N3 p (.tail _ hp)).2⟩
  clear F3 N3 F4 N4
  cases hus with | cons u1 k1 hus =>
  cases hus with | cons u2 k2 hus =>
  cases hus
  refine ⟨X1.keeps F5.keep, ?_⟩
  refine mkpair (X1.keeps F5.keep) ((X1.keeps F5.keep) _ _ (by kernel_rfl)) ?_
  intro v h6 t6 nw6 D6 hv
  obtain ⟨b6, d6, rest, rfl, rfl⟩ := hv
  have N6 := memNews D6 F5 N5
  have F6 := F5.keeps (memKeep D6)
  clear F5 N5
  k_steps
  rename Fr _ _ _ _ => FE
  rename News _ _ _ _ => NE
  exact ret _ _ b6 d6 k1 k2 FE fun p hp => NE p (by
    rcases List.mem_cons.mp hp with rfl | hp
    · exact .head _
    · rcases List.mem_cons.mp hp with rfl | hp
      · exact .tail _ (.head _)
      · exact List.mem_append.mpr (.inr hp))
end Mine
end
section
open PySem PySem.W PyProof.Rows
set_option Elab.async false
set_option maxRecDepth 100000
set_option maxHeartbeats 400000
namespace Mine
theorem warmP3 : (fun (_ : Params → Frag) (_ : OpenLaw) => True) KF Challenge.rw_in0007_01 := by
  k_fill
  trivial
local macro_rules | `(tactic| x_close) => `(tactic| (first | exact RetN.use (by assumption) (by assumption) | exact RetN.use (by assumption) (W.X.Mem.start _)))
theorem pair_type {w : World} {dp un : Nat} {gd : Option (List Code)} {cn : Str} {cs : Scope} {a L b d : Addr} {v1 v2 ccd : Value} {cl : List (Str × Addr)} {outer : List Env} {env : Env} {Q E : Value → Shared → Prop} {h : Heap} {g : Array GenState} {dr : Drawn} {t : Nat} {os : OsState}
    (X : (KF w.params).In h) (hp : h.get? b = some { cls := .ref (nat_lit 217), dict := some d, data := .seq #[v1, v2], slots := #[] }) (ret : RetN Q (.ref (nat_lit 217)) h g dr os) :
    wpAny (model pw w) ((ktrTop dp un gd cn cs L a ccd cl outer).deeper env) (call (.type "type") [.ref b]) Q E ⟨h, g, dr, t, os⟩ := by
  x_run
theorem pair_sub {w : World} {dp un : Nat} {gd : Option (List Code)} {cn : Str} {cs : Scope} {a L : Addr} {ccd : Value} {cl : List (Str × Addr)} {outer : List Env} {env : Env} {Q E : Value → Shared → Prop} {h : Heap} {g : Array GenState} {dr : Drawn} {t : Nat} {os : OsState}
    (X : (KF w.params).In h) (ret : RetN Q (.bool true) h g dr os) :
    wpAny (model pw w) ((ktrTop dp un gd cn cs L a ccd cl outer).deeper env) (call (.builtin "issubclass") [.ref (nat_lit 217), .type "tuple"]) Q E ⟨h, g, dr, t, os⟩ := by
  x_run
theorem tup_ga {w : World} {dp un : Nat} {gd : Option (List Code)} {cn : Str} {cs : Scope} {a L : Addr} {ccd : Value} {cl : List (Str × Addr)} {outer : List Env} {env : Env} {Q E : Value → Shared → Prop} {h : Heap} {g : Array GenState} {dr : Drawn} {t tk : Nat} {os : OsState}
    (X : (KF w.params).In h) (ret : RetN Q (.builtin "tuple.__getitem__") h g dr os) :
    wpAny (model pw w) ((ktrTop dp un gd cn cs L a ccd cl outer).deeper env) (call (.builtin "type.__getattribute__") [.type "tuple", .str (Str.ofString "__getitem__") tk]) Q E ⟨h, g, dr, t, os⟩ := by
  x_run
theorem tup_attr {w : World} {dp un : Nat} {gd : Option (List Code)} {cn : Str} {cs : Scope} {a L : Addr} {ccd : Value} {cl : List (Str × Addr)} {outer : List Env} {env : Env} {Q E : Value → Shared → Prop} {h : Heap} {g : Array GenState} {dr : Drawn} {t : Nat} {os : OsState} {expr : Bool}
    (X : (KF w.params).In h) (ret : RetN Q (.builtin "tuple.__getitem__") h g dr os) :
    wpAny (model pw w) ((ktrTop dp un gd cn cs L a ccd cl outer).deeper env) (getAttr (.type "tuple") (Str.ofString "__getitem__") expr) Q E ⟨h, g, dr, t, os⟩ := by
  have hty : typeOf (.type "tuple") = pure (.type "type") := by kernel_rfl
  have hlk := PySem.W.KF.slot_tga.lookup
  unfold getAttr getAttrBy
  refine wpAny_bind (wpAny_mkText (wpAny_holding (wpAny_bind (wpAny_of_eq hty (wpAny_bind (wpAny_of_eq hlk ?_))))))
  dsimp only
  rw [if_neg (by decide)]
  unfold getAttrByItsOwn hookBefore callGetattribute boundAndCalled
  refine wpAny_bind (wpAny_of_eq (show (if onTheHeap (.type "type") then typeLookup (.type "type") "__getattr__" else pure none) = pure none from rfl) ?_)
  refine wpAny_bind (wpAny_attempt (wpAny_holding ?_))
  rw [if_neg (by cases expr <;> decide)]
  refine wpAny_bind (wpAny_of_eq (PySem.W.KF.slot_tga.bind _) ?_)
  refine tup_ga X ?_
  intro h6 t6 nw6 D6
  exact handed_on (by kernel_rfl) (ret h6 t6 nw6 D6)
theorem tup_meth {w : World} {dp un : Nat} {gd : Option (List Code)} {cn : Str} {cs : Scope} {a L : Addr} {ccd : Value} {cl : List (Str × Addr)} {outer : List Env} {env : Env} {Q : Value × List Value → Shared → Prop} {E : Value → Shared → Prop} {s : Shared} {pl : Sem Bool}
    (X : (KF w.params).In s.heap) (ret : RetN (fun v s' => Q (v, []) s') (.builtin "tuple.__getitem__") s.heap s.gens s.drawn s.os) :
    wpAny (model pw w) ((ktrTop dp un gd cn cs L a ccd cl outer).deeper env) (getMethod (.type "tuple") (Str.ofString "__getitem__") pl) Q E s := by
  have hty : typeOf (.type "tuple") = pure (.type "type") := by kernel_rfl
  have hlk := PySem.W.KF.slot_tga.lookup
  obtain ⟨hh, g, dr, t, os⟩ := s
  have u : wpAny (model pw w) ((ktrTop dp un gd cn cs L a ccd cl outer).deeper env) (do return (← getAttr (.type "tuple") (Str.ofString "__getitem__"), ([] : List Value))) Q E ⟨hh, g, dr, t, os⟩ :=
    wpAny_bind (tup_attr X fun h6 t6 nw6 D6 => wpAny_pure (ret h6 t6 nw6 D6))
  unfold getMethod specialOf
  refine wpAny_bind (wpAny_bind (wpAny_of_eq hty (wpAny_of_eq hlk ?_)))
  dsimp only
  rw [if_pos (by decide +kernel)]
  exact u
local macro_rules | `(tactic| k_room) => `(tactic| ktr_room)
local macro_rules | `(tactic| k_units) => `(tactic| ktr_units)
theorem tgetc {w : World} {p : Program} {loose : List Str} {mean : ExcName → Option Value} {mg mb : Str → Option Value} {dp un : Nat} {gd : Option (List Code)} {cn : Str} {cs : Scope} {a : Addr} {ccd : Value} {cl : List (Str × Addr)} {outer : List Env} {A₀ : Around} {base h₀ : Heap} {L b d : Addr} {m : Str → Option Value} {news : List (Addr × Obj)} {s : Shared} {t1 t2 : Nat} {Q E : Value → Shared → Prop} {x y : Str}
    (B : Below A₀ base outer h₀) (F : Fr h₀ L s.heap m) (X : (KF w.params).In h₀) (N : News h₀ L s.heap ((b, pairObj d (.str x t1) (.str y t2)) :: (d, ({ cls := .type "dict", data := .dict #[] } : Obj)) :: news)) (T : Top p loose mean mg mb h₀) (hk : cs.kind = .function)
    (hd : dp + 15 < recursionLimit) (hun : un + 160 < cLine)
    (ret : ∀ h' tk', Fr h₀ L h' m → News h₀ L h' ((b, pairObj d (.str x t1) (.str y t2)) :: (d, ({ cls := .type "dict", data := .dict #[] } : Obj)) :: news) → Q (.str x t1) { s with heap := h', toks := tk' }) :
    wpAny (model pw w) (ktrTop dp un gd cn cs L a ccd cl outer) (call (.ref 75) [.ref 186, .ref b, .ref 217]) Q E s := by
  obtain ⟨hS0, gS0, dS0, tS0, oS0⟩ := s
  w_on
  refine wpAny_call ?_
  have h68 : hS0.get? (nat_lit 68) = some ⟨.type "tuple", none, .seq #[.none] 0, #[]⟩ := (X.keeps F.keep) _ _ (by kernel_rfl)
  k_dflt (refine' code_def ?k1 ?k2 ?k3 ?k4 ?k5 ?kA ?kF ?kK ?k6 ?k7 ?k8 ?k9 ?kB ?_ ?c2 ?c3 ?c4 ?c5)
  case kA => exact rfl
  case kF => exact rfl
  case kK => assumption
  case k1 => k_asm
  case k2 => k_asm
  case k3 => k_asm
  case k4 => k_asm
  case k5 => k_asm
  case k6 => k_is
  case k7 => k_is
  case k8 => ktr_room
  case k9 => exact BindsTo.of_defaults rfl h68 rfl rfl rfl
  case c5 => decide
  case kB => exact locs rfl
  case c2 => exact rfl
  case c3 => exact rfl
  case c4 => exact rfl
  intro g' L' h' FG' F' N' B' X' T'
  (try dsimp only)
  (try k_fold)
  k_steps
  rename Fr _ _ _ _ => F1
  rename News _ _ _ _ => N1
  rename (KF w.params).In _ => X1
  refine pair_type (X1.keeps F1.keep) (N1 _ (.head _)).1 ?_
  intro h2 t2 nw2 D2
  have N2 := (memNews D2 F1 N1).right
  have F2 := F1.keeps (memKeep D2)
  clear F1 N1
  k_steps
  rename Fr _ _ _ _ => F1
  rename News _ _ _ _ => N1
  refine pair_sub (X1.keeps F1.keep) ?_
  intro h3 t3 nw3 D3
  have N3 := (memNews D3 F1 N1).right
  have F3 := F1.keeps (memKeep D3)
  clear F1 N1
  k_steps
  rename Fr _ _ _ _ => F1
  rename News _ _ _ _ => N1
  refine tup_meth (X1.keeps F1.keep) ?_
  intro h4 t4 nw4 D4
  have N4 := (memNews D4 F1 N1).right
  have F4 := F1.keeps (memKeep D4)
  clear F1 N1
  k_steps
  rename Fr _ _ _ _ => F5
  rename News _ _ _ _ => N5
  refine pr_item (v1 := .str x t1) (v2 := .str y _) (d := d) (od := { cls := .type "dict", data := .dict #[] }) (X1.keeps F5.keep) ⟨(N5 _ (.head _)).1, rfl, rfl, (N5 _ (.tail _ (.head _))).1⟩ (by decide) (by decide) (j := 0) rfl rfl ?_
  k_steps
  rename Fr _ _ _ _ => FE
  rename News _ _ _ _ => NE
  exact ret _ _ FE NE
end Mine
end
section
open PySem PySem.W PyProof.Rows
set_option Elab.async false
set_option maxRecDepth 100000
set_option maxHeartbeats 400000
namespace Mine
theorem warmP4 : (fun (_ : Params → Frag) (_ : OpenLaw) => True) KF Challenge.rw_in0007_01 := by
  k_fill
  trivial
local macro_rules | `(tactic| k_room) => `(tactic| ktr_room)
local macro_rules | `(tactic| k_units) => `(tactic| ktr_units)
theorem tgetv {w : World} {p : Program} {loose : List Str} {mean : ExcName → Option Value} {mg mb : Str → Option Value} {dp un : Nat} {gd : Option (List Code)} {cn : Str} {cs : Scope} {a : Addr} {ccd : Value} {cl : List (Str × Addr)} {outer : List Env} {A₀ : Around} {base h₀ : Heap} {L b d : Addr} {m : Str → Option Value} {news : List (Addr × Obj)} {s : Shared} {t1 t2 : Nat} {Q E : Value → Shared → Prop} {x y : Str}
    (B : Below A₀ base outer h₀) (F : Fr h₀ L s.heap m) (X : (KF w.params).In h₀) (N : News h₀ L s.heap ((b, pairObj d (.str x t1) (.str y t2)) :: (d, ({ cls := .type "dict", data := .dict #[] } : Obj)) :: news)) (T : Top p loose mean mg mb h₀) (hk : cs.kind = .function)
    (hd : dp + 15 < recursionLimit) (hun : un + 160 < cLine)
    (ret : ∀ h' tk', Fr h₀ L h' m → News h₀ L h' ((b, pairObj d (.str x t1) (.str y t2)) :: (d, ({ cls := .type "dict", data := .dict #[] } : Obj)) :: news) → Q (.str y t2) { s with heap := h', toks := tk' }) :
    wpAny (model pw w) (ktrTop dp un gd cn cs L a ccd cl outer) (call (.ref 75) [.ref 189, .ref b, .ref 217]) Q E s := by
  obtain ⟨hS0, gS0, dS0, tS0, oS0⟩ := s
  w_on
  refine wpAny_call ?_
  have h68 : hS0.get? (nat_lit 68) = some ⟨.type "tuple", none, .seq #[.none] 0, #[]⟩ := (X.keeps F.keep) _ _ (by kernel_rfl)
  k_dflt (refine' code_def ?k1 ?k2 ?k3 ?k4 ?k5 ?kA ?kF ?kK ?k6 ?k7 ?k8 ?k9 ?kB ?_ ?c2 ?c3 ?c4 ?c5)
  case kA => exact rfl
  case kF => exact rfl
  case kK => assumption
  case k1 => k_asm
  case k2 => k_asm
  case k3 => k_asm
  case k4 => k_asm
  case k5 => k_asm
  case k6 => k_is
  case k7 => k_is
  case k8 => ktr_room
  case k9 => exact BindsTo.of_defaults rfl h68 rfl rfl rfl
  case c5 => decide
  case kB => exact locs rfl
  case c2 => exact rfl
  case c3 => exact rfl
  case c4 => exact rfl
  intro g' L' h' FG' F' N' B' X' T'
  (try dsimp only)
  (try k_fold)
  k_steps
  rename Fr _ _ _ _ => F1
  rename News _ _ _ _ => N1
  rename (KF w.params).In _ => X1
  refine pair_type (X1.keeps F1.keep) (N1 _ (.head _)).1 ?_
  intro h2 t2 nw2 D2
  have N2 := (memNews D2 F1 N1).right
  have F2 := F1.keeps (memKeep D2)
  clear F1 N1
  k_steps
  rename Fr _ _ _ _ => F1
  rename News _ _ _ _ => N1
  refine pair_sub (X1.keeps F1.keep) ?_
  intro h3 t3 nw3 D3
  have N3 := (memNews D3 F1 N1).right
  have F3 := F1.keeps (memKeep D3)
  clear F1 N1
  k_steps
  rename Fr _ _ _ _ => F1
  rename News _ _ _ _ => N1
  refine tup_meth (X1.keeps F1.keep) ?_
  intro h4 t4 nw4 D4
  have N4 := (memNews D4 F1 N1).right
  have F4 := F1.keeps (memKeep D4)
  clear F1 N1
  k_steps
  rename Fr _ _ _ _ => F5
  rename News _ _ _ _ => N5
  refine pr_item (v1 := .str x t1) (v2 := .str y _) (d := d) (od := { cls := .type "dict", data := .dict #[] }) (X1.keeps F5.keep) ⟨(N5 _ (.head _)).1, rfl, rfl, (N5 _ (.tail _ (.head _))).1⟩ (by decide) (by decide) (j := 1) rfl rfl ?_
  k_steps
  rename Fr _ _ _ _ => FE
  rename News _ _ _ _ => NE
  exact ret _ _ FE NE
end Mine
end
section
open PySem PySem.W PyProof.Rows
set_option Elab.async false
set_option maxRecDepth 100000
set_option maxHeartbeats 400000
namespace Mine
theorem r1 : plainId "tuple.__getattribute__" = true := by decide +kernel
theorem r2 : builtinKind "tuple.__getattribute__" = some .slot ∨ builtinKind "tuple.__getattribute__" = some .method := by first | exact .inl (by decide +kernel) | exact .inr (by decide +kernel)
theorem r3 : splitId "tuple.__getattribute__" = some ("tuple", "__getattribute__") := by decide +kernel
section
variable {w : World} {A : Around} {s : Shared} {b d : Addr} {od : Obj} {v1 v2 : Value} {name : Str} {expr : Bool} {fd : Value} {Q E : Value → Shared → Prop}
theorem pa_get (X : (KF w.params).In s.heap) (I : InstAt s.heap b (pairObj d v1 v2) (nat_lit 217) (some od))
    (hf : findObj (KF w.params) (nat_lit 217) (some od) name = some (.bind (.ref (nat_lit 75)) fd))
    (h : wpAny (model pw w) A.in1 (call (.ref (nat_lit 75)) [fd, .ref b, .ref (nat_lit 217)]) (fun v s' => handedIn v = true ∧ Q v s') (fun _ _ => False) { s with toks := s.toks + 1 }) :
    wpAny (model pw w) A (getAttr (.ref b) name expr) Q E s := by
  have hga : findIn (KF w.params) (.ref (nat_lit 217)) (Str.ofString "__getattribute__") = some (some (.builtin "tuple.__getattribute__")) := by kernel_rfl
  have hgn : findIn (KF w.params) (.ref (nat_lit 217)) (Str.ofString "__getattr__") = some none := by kernel_rfl
  have L1 := looks_findIn (M := model pw w) X hga
  have L2 := looks_findIn (M := model pw w) X hgn
  have L3 := looks_find (M := model pw w) X I hf
  obtain ⟨hh, g, dr, t, os⟩ := s
  unfold getAttr getAttrBy
  refine wpAny_bind (wpAny_mkText (wpAny_holding (wpAny_bind (Looks.at I.type (wpAny_bind (Looks.at L1 ?_))))))
  dsimp only
  rw [if_neg (by decide)]
  unfold getAttrByItsOwn hookBefore callGetattribute boundAndCalled
  show wpAny _ _ (typeLookup (.ref (nat_lit 217)) "__getattr__" >>= _) _ _ _
  refine wpAny_bind (Looks.at L2 ?_)
  refine wpAny_bind (wpAny_attempt (wpAny_holding ?_))
  rw [if_neg (by cases expr <;> decide)]
  refine wpAny_bind (wpAny_of_eq (F.slot_tuple_getattribute.bind _) ?_)
  refine pr_call r2 r3 r1 F.entry_tuple_ga (F.args_tuple_getattribute_2 _ _) X I ?_
  unfold Builtin.«object.__getattribute__»
  refine wpAny_bind (wpAny_of_eq (show slotArgs _ 1 ⟨[.ref b, .str name t], []⟩ = pure (.ref b, [.str name t]) from rfl) ?_)
  dsimp only
  refine wpAny_bind (wpAny_of_eq (show Builtin.ObjectAttr.attrName (.str name t) = pure name from rfl) ?_)
  refine wpAny_bind (Looks.at I.type ?_)
  refine wpAny_bind (Looks.at L3 ?_)
  dsimp only
  show wpAny _ _ (holding [fd] (call (.ref (nat_lit 75)) [fd, .ref b, .ref (nat_lit 217)]) >>= _) _ _ _
  refine wpAny_bind (wpAny_holding (wpAny_mono h (fun v s' z => ?_) fun _ _ z => z.elim))
  exact wpAny_pure (handed_on z.1 z.2)
end
theorem gp_name {w : World} {p : Program} {loose : List Str} {mean : ExcName → Option Value} {mg mb : Str → Option Value} {dp un : Nat} {gd : Option (List Code)} {cn : Str} {cs : Scope} {a : Addr} {ccd : Value} {cl : List (Str × Addr)} {outer : List Env} {A₀ : Around} {base h₀ : Heap} {L b d : Addr} {m : Str → Option Value} {news : List (Addr × Obj)} {s : Shared} {t1 t2 : Nat} {Q E : Value → Shared → Prop} {x y : Str} {expr : Bool}
    (B : Below A₀ base outer h₀) (F : Fr h₀ L s.heap m) (X : (KF w.params).In h₀) (N : News h₀ L s.heap news) (T : Top p loose mean mg mb h₀) (hk : cs.kind = .function)
    (hb : (b, pairObj d (.str x t1) (.str y t2)) ∈ news) (hdd : (d, emptyDict) ∈ news)
    (hd : dp + 15 < recursionLimit) (hun : un + 170 < cLine)
    (ret : ∀ h' tk', Fr h₀ L h' m → News h₀ L h' news → Q (.str x t1) { s with heap := h', toks := tk' }) :
    wpAny (model pw w) (ktrTop dp un gd cn cs L a ccd cl outer) (getAttr (.ref b) (Str.ofString "name") expr) Q E s := by
  have I : InstAt s.heap b (pairObj d (.str x t1) (.str y t2)) (nat_lit 217) (some emptyDict) := ⟨(N _ hb).1, rfl, rfl, (N _ hdd).1⟩
  refine pa_get (X.keeps F.keep) I (by kernel_rfl) (fd := .ref (nat_lit 186)) ?_
  have N' : News h₀ L s.heap ((b, pairObj d (.str x t1) (.str y t2)) :: (d, ({ cls := .type "dict", data := .dict #[] } : Obj)) :: news) := fun p hp => N p (by
    rcases List.mem_cons.mp hp with rfl | hp
    · exact hb
    · rcases List.mem_cons.mp hp with rfl | hp
      · exact hdd
      · exact hp)
  exact tgetc (s := { s with toks := s.toks + 1 }) B F X N' T hk hd (un := un + 1) (by omega) (fun h' tk' F' N2 => ⟨rfl, ret h' tk' F' fun p hp => N2 p (.tail _ (.tail _ hp))⟩)
theorem gp_value {w : World} {p : Program} {loose : List Str} {mean : ExcName → Option Value} {mg mb : Str → Option Value} {dp un : Nat} {gd : Option (List Code)} {cn : Str} {cs : Scope} {a : Addr} {ccd : Value} {cl : List (Str × Addr)} {outer : List Env} {A₀ : Around} {base h₀ : Heap} {L b d : Addr} {m : Str → Option Value} {news : List (Addr × Obj)} {s : Shared} {t1 t2 : Nat} {Q E : Value → Shared → Prop} {x y : Str} {expr : Bool}
    (B : Below A₀ base outer h₀) (F : Fr h₀ L s.heap m) (X : (KF w.params).In h₀) (N : News h₀ L s.heap news) (T : Top p loose mean mg mb h₀) (hk : cs.kind = .function)
    (hb : (b, pairObj d (.str x t1) (.str y t2)) ∈ news) (hdd : (d, emptyDict) ∈ news)
    (hd : dp + 15 < recursionLimit) (hun : un + 170 < cLine)
    (ret : ∀ h' tk', Fr h₀ L h' m → News h₀ L h' news → Q (.str y t2) { s with heap := h', toks := tk' }) :
    wpAny (model pw w) (ktrTop dp un gd cn cs L a ccd cl outer) (getAttr (.ref b) (Str.ofString "value") expr) Q E s := by
  have I : InstAt s.heap b (pairObj d (.str x t1) (.str y t2)) (nat_lit 217) (some emptyDict) := ⟨(N _ hb).1, rfl, rfl, (N _ hdd).1⟩
  refine pa_get (X.keeps F.keep) I (by kernel_rfl) (fd := .ref (nat_lit 189)) ?_
  have N' : News h₀ L s.heap ((b, pairObj d (.str x t1) (.str y t2)) :: (d, ({ cls := .type "dict", data := .dict #[] } : Obj)) :: news) := fun p hp => N p (by
    rcases List.mem_cons.mp hp with rfl | hp
    · exact hb
    · rcases List.mem_cons.mp hp with rfl | hp
      · exact hdd
      · exact hp)
  exact tgetv (s := { s with toks := s.toks + 1 }) B F X N' T hk hd (un := un + 1) (by omega) (fun h' tk' F' N2 => ⟨rfl, ret h' tk' F' fun p hp => N2 p (.tail _ (.tail _ hp))⟩)
end Mine
end
section
open PySem PySem.W PyProof.Rows
set_option Elab.async false
set_option maxRecDepth 100000
set_option maxHeartbeats 400000
namespace Mine
abbrev Call := Str × Str × Int
def trD (q : Call) : Dat := .tuple [.str q.1, .str q.2.1, .int q.2.2]
def txOf (q : Call) : Str := ((Str.ofString "\t" ++ q.1) ++ Str.ofString " = ") ++ q.2.1 ++ Str.ofString "\n"
def POk (q : Call) : Prop := (txOf q).length ≤ 1000 ∧ (Txt.splitMax (txOf q) (Str.ofString "=") 1).map Txt.strip = [q.1, q.2.1]
def tabs (C : List Call) (k : Str) : List (Str × Int) := C.foldl (fun D q => if q.2.1 = k then add1 D q.1 q.2.2 else D) []
def keyIns (K : List Str) (k : Str) : List Str := if k ∈ K then K else K ++ [k]
def keysOf (C : List Call) : List Str := C.foldl (fun K q => keyIns K q.2.1) []
theorem tabs_snoc (C : List Call) (q : Call) (x : Str) : tabs (C ++ [q]) x = if q.2.1 = x then add1 (tabs C x) q.1 q.2.2 else tabs C x := by
  unfold tabs; rw [List.foldl_append]; rfl
theorem keys_snoc (C : List Call) (q : Call) : keysOf (C ++ [q]) = keyIns (keysOf C) q.2.1 := by
  unfold keysOf; rw [List.foldl_append]; rfl
theorem tabs_length (C : List Call) (x : Str) : (tabs C x).length ≤ C.length := by
  unfold tabs
  have : ∀ (C : List Call) (D : List (Str × Int)), (C.foldl (fun D q => if q.2.1 = x then add1 D q.1 q.2.2 else D) D).length ≤ D.length + C.length := by
    intro C
    induction C with
    | nil => intro D; exact Nat.le_refl _
    | cons q C ih =>
      intro D
      have h1 := ih (if q.2.1 = x then add1 D q.1 q.2.2 else D)
      have h2 : (if q.2.1 = x then add1 D q.1 q.2.2 else D).length ≤ D.length + 1 := by
        split
        · exact add1_length _ _ _
        · omega
      rw [List.foldl_cons, List.length_cons]; omega
  have := this C []
  simpa using this
theorem stored_cons_ne {p : Str × Value} {r : List (Str × Value)} {k : Str} {v : Value} (h : p.1 ≠ k) : stored (p :: r) k v = p :: stored r k v := by
  unfold stored
  rw [List.any_cons]
  simp only [h, decide_false, Bool.false_or]
  split
  · rw [List.map_cons, if_neg h]
  · rfl
theorem stored_cons_eq {p : Str × Value} {r : List (Str × Value)} {k : Str} {v : Value} (h : p.1 = k) : stored (p :: r) k v = (k, v) :: r.map (fun kv => if kv.1 = k then (kv.1, v) else kv) := by
  unfold stored
  rw [if_pos (by simp [h]), List.map_cons, if_pos h, h]
theorem valueAt_map_ne {k x : Str} {v : Value} (hx : x ≠ k) : ∀ (r : List (Str × Value)), valueAt (r.map (fun kv => if kv.1 = k then (kv.1, v) else kv)) x = valueAt r x
  | [] => rfl
  | p :: r => by
    rw [List.map_cons, valueAt_cons, valueAt_cons, valueAt_map_ne hx r]
    by_cases h : p.1 = k
    · rw [if_pos h, if_neg (show ¬ p.1 = x from fun e => hx (by rw [← e, h])), if_neg (show ¬ p.1 = x from fun e => hx (by rw [← e, h]))]
    · rw [if_neg h]
theorem valueAt_stored {k : Str} {v : Value} (x : Str) : ∀ (r : List (Str × Value)), valueAt (stored r k v) x = if x = k then some v else valueAt r x
  | [] => by
    show valueAt [(k, v)] x = _
    rw [valueAt_cons]
    by_cases h : x = k
    · rw [if_pos h, if_pos h.symm]
    · rw [if_neg h, if_neg (fun e => h e.symm)]
  | p :: r => by
    by_cases hp : p.1 = k
    · rw [stored_cons_eq hp, valueAt_cons]
      by_cases h : x = k
      · rw [if_pos h, if_pos h.symm]
      · rw [if_neg h, if_neg (fun e => h e.symm), valueAt_map_ne h, valueAt_cons, if_neg (fun e => h (by rw [← e, hp]))]
    · rw [stored_cons_ne hp, valueAt_cons, valueAt_stored x r, valueAt_cons]
      by_cases h : x = k
      · rw [if_pos h, if_neg (by rw [h]; exact hp), if_pos h]
      · rw [if_neg h, if_neg h]
theorem keys_stored {k : Str} {v : Value} : ∀ (r : List (Str × Value)), (stored r k v).map (·.1) = keyIns (r.map (·.1)) k
  | [] => rfl
  | p :: r => by
    by_cases hp : p.1 = k
    · rw [stored_cons_eq hp]
      unfold keyIns
      rw [if_pos (by rw [List.map_cons, hp]; exact .head _), List.map_cons, List.map_cons, List.map_map, hp]
      congr 1
      refine List.map_congr_left fun q _ => ?_
      show (if q.1 = k then (q.1, v) else q).1 = q.1
      split <;> rfl
    · rw [stored_cons_ne hp, List.map_cons, keys_stored r, List.map_cons]
      unfold keyIns
      by_cases h : k ∈ r.map (·.1)
      · rw [if_pos h, if_pos (.tail _ h)]
      · rw [if_neg h, if_neg (by intro e; cases e with | head => exact hp rfl | tail _ e => exact h e)]; rfl
theorem keyIns_idem (K : List Str) (k : Str) : keyIns (keyIns K k) k = keyIns K k := by
  unfold keyIns
  by_cases h : k ∈ K
  · rw [if_pos h, if_pos h]
  · rw [if_neg h, if_pos (by simp)]
theorem keysOf_length (C : List Call) : (keysOf C).length ≤ C.length := by
  unfold keysOf
  have : ∀ (C : List Call) (K : List Str), (C.foldl (fun K q => keyIns K q.2.1) K).length ≤ K.length + C.length := by
    intro C
    induction C with
    | nil => intro K; exact Nat.le_refl _
    | cons q C ih =>
      intro K
      have h1 := ih (keyIns K q.2.1)
      have h2 : (keyIns K q.2.1).length ≤ K.length + 1 := by
        unfold keyIns
        split <;> simp
      rw [List.foldl_cons, List.length_cons]; omega
  have := this C []
  simpa using this
theorem TabsIn.store {w : World} {n n' : List (Addr × Obj)} {kvs kvs' : List (Str × Value)} {C : List Call} {q : Call} {r : Addr} {o : Obj} {kr : List (Str × Value)} (TI : TabsIn w n kvs (tabs C)) (hs : ∀ p ∈ n, p ∈ n') (hm : (r, o) ∈ n') (hr : (r == sysModules) = false) (hd : o.IsDictOf (sk w) kr) (hi : IntD kr (add1 (tabs C q.2.1) q.1 q.2.2))
    (hv : ∀ x, valueAt kvs' x = if x = q.2.1 then some (.ref r) else valueAt kvs x) : TabsIn w n' kvs' (tabs (C ++ [q])) := by
  intro x
  rw [hv x, tabs_snoc]
  by_cases h : x = q.2.1
  · rw [if_pos h, if_pos h.symm, h]
    exact ⟨r, o, kr, rfl, hr, hm, hd, hi⟩
  · rw [if_neg h, if_neg (fun e => h e.symm)]
    exact TI.mono hs x
theorem bk_read {w : World} {p : Program} {loose : List Str} {mean : ExcName → Option Value} {mg mb : Str → Option Value} {dp un : Nat} {gd : Option (List Code)} {cn : Str} {cs : Scope} {a : Addr} {ccd : Value} {cl : List (Str × Addr)} {outer : List Env} {A₀ : Around} {base h₀ : Heap} {L : Addr} {m : Str → Option Value} {news : List (Addr × Obj)} {s : Shared} {d dx : Addr} {es : Array DictEntry} {ep : Nat} {k : Str} {t : Tok} {Q E : Value → Shared → Prop} {C : List Call} {news0 : List (Addr × Obj)}
    (B : Below A₀ base outer h₀) (F : Fr h₀ L s.heap m) (X : (KF w.params).In h₀) (N : News h₀ L s.heap ((d, bookObj dx es ep) :: (dx, emptyDict) :: news)) (T : Top p loose mean mg mb h₀) (hk : cs.kind = .function)
    (hd : dp + 15 < recursionLimit) (hun : un + 170 < cLine) {kvs : List (Str × Value)} (BD : BookDat (sk w) es kvs) (hsz : kvs.length ≤ sizeLine) (TI : TabsIn w news0 kvs (tabs C)) (hds : (d == sysModules) = false) (hnd : ∀ p ∈ news, p.1 ≠ d)
    (ret : ∀ u ou ku pre es' ep' kvs' h' tk', Fr h₀ L h' m → News h₀ L h' ((d, bookObj dx es' ep') :: (dx, emptyDict) :: (pre ++ news)) → (∀ p ∈ pre, d < p.1 ∧ ∀ q ∈ news, q.1 < p.1) → (u, ou) ∈ pre ++ news0 → (u == sysModules) = false → ou.IsDictOf (sk w) ku → IntD ku (tabs C k) →
      BookDat (sk w) es' kvs' → kvs'.length ≤ kvs.length + 1 → (∀ v x, valueAt (stored kvs' k v) x = if x = k then some v else valueAt kvs x) → (∀ v, (stored kvs' k v).map (·.1) = keyIns (kvs.map (·.1)) k) → Q (.ref u) { s with heap := h', toks := tk' }) :
    wpAny (model pw w) (ktrTop dp un gd cn cs L a ccd cl outer) (getItem (.ref d) (.str k t)) Q E s := by
  have TIk := TI k
  cases hv : valueAt kvs k with
  | some v =>
    rw [hv] at TIk
    obtain ⟨b, o, kt, rfl, hl, hm, hdo, hi⟩ := TIk
    have I : InstAt s.heap d (bookObj dx es ep) (nat_lit 122) (some emptyDict) := ⟨(N _ (.head _)).1, rfl, rfl, (N (dx, emptyDict) (.tail _ (.head _))).1⟩
    exact bk_hit (X.keeps F.keep) I BD hv (ret b o kt [] es ep kvs s.heap _ F N (fun _ h => nomatch h) hm hl hdo hi BD (Nat.le_succ _) (fun v x => valueAt_stored x kvs) fun v => keys_stored kvs)
  | none =>
    rw [hv] at TIk
    refine bk_miss B F X N T hk hd hun BD hsz hv hds hnd fun nd o es' ep' h' tk' F' N' l ld lo hdo BD' => ?_
    refine ret nd o [] [(nd, o)] es' ep' _ h' tk' F' (fun p hp => N' p ?_) (fun p hp => by rw [List.mem_singleton.mp hp]; exact ⟨ld, l⟩) (.head _) lo hdo (by rw [TIk]; trivial) BD' ?_ (fun v x => ?_) fun v => ?_
    · rcases List.mem_cons.mp hp with rfl | hp
      · exact .tail _ (.head _)
      · rcases List.mem_cons.mp hp with rfl | hp
        · exact .tail _ (.tail _ (.head _))
        · rcases List.mem_cons.mp hp with rfl | hp
          · exact .head _
          · exact .tail _ (.tail _ (.tail _ hp))
    · have h1 := congrArg List.length (keys_stored (k := k) (v := Value.ref nd) kvs)
      rw [List.length_map] at h1
      rw [h1]
      unfold keyIns
      split <;> simp
    · rw [valueAt_stored, valueAt_stored]
      by_cases h : x = k
      · rw [if_pos h, if_pos h]
      · rw [if_neg h, if_neg h, if_neg h]
    · rw [keys_stored, keys_stored, keyIns_idem]
end Mine
end
section
open PySem PySem.W PyProof.Rows
set_option Elab.async false
set_option maxRecDepth 100000
set_option maxHeartbeats 400000
namespace Mine
theorem bk_method {w : World} {A : Around} {E : Value → Shared → Prop} {s : Shared} {d dx : Addr} {es : Array DictEntry} {ep : Nat} {od : Obj} {name : Str} {f : Value} {T : String} {pl : Sem Bool} {Q : Value × List Value → Shared → Prop} (X : (KF w.params).In s.heap) (I : InstAt s.heap d (bookObj dx es ep) (nat_lit 122) (some od)) (hdx : s.heap.get? dx = some od)
    (hf : findIn (KF w.params) (.ref (nat_lit 122)) name = some (some f)) (ht : Looks (model pw w) s.heap (typeOf f) (.type T)) (hT : (Value.type T != .type "function" && Value.type T != .type "method_descriptor" && Value.type T != .type "wrapper_descriptor") = false)
    (hn : nsLook name od = pure none) (h : Q (f, [.ref d]) s) : wpAny (model pw w) A (getMethod (.ref d) name pl) Q E s := by
  have hga : findIn (KF w.params) (.ref (nat_lit 122)) (Str.ofString "__getattribute__") = some (some (.builtin "collections.defaultdict.__getattribute__")) := by kernel_rfl
  have hgn : findIn (KF w.params) (.ref (nat_lit 122)) (Str.ofString "__getattr__") = some none := by kernel_rfl
  have L1 := looks_findIn (M := model pw w) X hga
  have L2 := looks_findIn (M := model pw w) X hgn
  have L3 := looks_findIn (M := model pw w) X hf
  have hob := I.at_
  obtain ⟨hh, g, dr, t, os⟩ := s
  unfold getMethod specialOf
  refine wpAny_bind (wpAny_bind (Looks.at I.type (Looks.at L1 ?_)))
  dsimp only
  rw [if_neg (by decide +kernel)]
  refine wpAny_bind (wpAny_bind (Looks.at I.type (Looks.at L2 ?_)))
  refine wpAny_bind (wpAny_bind (Looks.at I.type (Looks.at L3 ?_)))
  dsimp only
  refine wpAny_bind (Looks.at ht ?_)
  rw [if_neg (by rw [hT]; decide)]
  refine wpAny_bind (wpAny_loadPart hob ?_)
  dsimp only
  refine wpAny_bind ?_
  unfold nsGet
  refine wpAny_bind (wpAny_loadPart hdx ?_)
  rw [hn]
  refine wpAny_pure ?_
  rw [if_neg (by decide)]
  exact wpAny_bind (wpAny_rule (wpAny_pure h))
end Mine
end
section
open PySem PySem.W PyProof.Rows
set_option Elab.async false
set_option maxRecDepth 100000
set_option maxHeartbeats 4000000
namespace Mine
theorem warmBk : (fun (_ : Params → Frag) (_ : OpenLaw) => True) KF Challenge.rw_in0007_01 := by
  k_fill
  trivial
local macro_rules | `(tactic| k_room) => `(tactic| ktr_room)
local macro_rules | `(tactic| k_units) => `(tactic| ktr_units)
local macro_rules | `(tactic| walk_at "exec For Tuple Name cons nil") => `(tactic| refine Halt.at ?_)
local macro_rules | `(tactic| walk_at "binaryOp Add str str") => `(tactic| refine Halt.at ?_)
local macro_rules | `(tactic| walk_at "call ref") => `(tactic| refine Halt.at ?_)
theorem kdn1 {w : World} {s : Shared} {h₀ : Heap} {L d : Addr} {m : Str → Option Value} {news : List (Addr × Obj)} {g : Obj → List (Addr × Obj)} {o : Obj} {Q : Value → Shared → Prop} {k : Str} {t : Tok} {v : Value} (F : Fr h₀ L s.heap m) (N : News h₀ L s.heap news) (U : UpdF d o news g) (hd : o.IsDictOf (sk w) [])
    (h : ∀ h' o', Fr h₀ L h' m → News h₀ L h' (g o') → o'.IsDictOf (sk w) [(k, v)] → Q (.ref d) { s with heap := h', toks := s.toks + 1 }) : KdnMade pw w (sk w) d Q [(.str k t, v)] s :=
  kdn_made_str F N U hd rfl (by simp [strPairs]) h
theorem bookc {w : World} {p : Program} {loose : List Str} {mean : ExcName → Option Value} {mg mb : Str → Option Value} {gd : Option (List Code)} {cn : Str} {cs : Scope} {a : Addr} {ccd : Value} {cl : List (Str × Addr)} {outer : List Env} {A₀ : Around} {base h₀ : Heap} {L : Addr} {m : Str → Option Value} {news : List (Addr × Obj)} {s : Shared} {l : Addr} {vs : List Value} {n : Nat} {Q E : Value → Shared → Prop}
    (B : Below A₀ base outer h₀) (F : Fr h₀ L s.heap m) (X : (KF w.params).In h₀) (N : News h₀ L s.heap ((nat_lit 114, tabObj #[]) :: news)) (T : Top p loose mean mg mb h₀) (hk : cs.kind = .function) (codeHd : CodeHd h₀ (nat_lit 118) (nat_lit 114)) (hn114 : ∀ p ∈ news, p.1 ≠ (nat_lit 114))
    (hl : (l, listOf vs.toArray n) ∈ news) {C : List Call} (hC : DatAll news vs (C.map trD)) (bC : C.length ≤ 11) (hP : ∀ q ∈ C, POk q)
    (ret : ∀ d kvs h' tk' news' ps, Fr h₀ L h' m → News h₀ L h' (news' ++ news) → (nat_lit 114, tabObj ps) ∈ news' → (∀ p ∈ news', ∀ q ∈ news, q.1 ≠ p.1) → FrozenIn w news' d kvs → TabsIn w news' kvs (tabs C) → kvs.map (·.1) = keysOf C → Q (.ref d) { s with heap := h', toks := tk' }) :
    wpAny (model pw w) (ktrTop (nat_lit 302) (nat_lit 7) gd cn cs L a ccd cl outer) (call (.ref 234) [.ref l]) Q E s := by
  w_on
  refine wpAny_call ?_
  k_dflt ktr_enter
  k_steps
  refine Halt.go ?_
  rename Fr _ _ _ _ => F1
  rename News _ _ _ _ => N1
  rename_i g1 L1 h1 FG1 B1 X1 T1
  refine mk_book F1 X1 N1 ?_
  intro d dx h2 tk2 F2 N2 hdn hds
  have hd114 : d ≠ (nat_lit 114) := fun e => (hdn (nat_lit 114, tabObj #[]) (.head _)).1 e.symm
  have hdx114 : dx ≠ (nat_lit 114) := by
    intro e
    have h1 := (N2 _ (.tail _ (.head _))).1
    have h2 := (N2 _ (.tail _ (.tail _ (.head _)))).1
    dsimp only at h1 h2
    rw [e, h2] at h1
    cases h1
  have hdxn : ∀ p ∈ news, p.1 ≠ dx := fun p hp => (hdn p (.tail _ hp)).2
  clear F1 N1
  k_steps
  refine Halt.go ?_
  rename Fr _ _ _ _ => F3
  rename News _ _ _ _ => N3
  rename_i h3
  with_unfolding_all refine' For_turns F3 ?_
  k_whole
  with_unfolding_all ((refine ld F3 (by rfl) ?_); (refine iter_listTurns (by rfl) F3 N3 (.tail _ (.tail _ (.tail _ hl))) (by rfl) (by rfl) ?_))
  intro I hI
  have hId : d < I := hI _ (.head _)
  have hIdx : dx < I := hI _ (.tail _ (.head _))
  have hI114 : (nat_lit 114) < I := hI _ (.tail _ (.tail _ (.head _)))
  have hnn : ∀ p ∈ news, p.1 < I := fun p hp => hI p (.tail _ (.tail _ (.tail _ hp)))
  refine itemsInv (α := Value) (f := Itm.val) (fun r mm n' => ∃ es ep kvs rest Dd Dr, n' = (d, bookObj dx es ep) :: (dx, emptyDict) :: (nat_lit 114, tabObj #[]) :: rest ∧ (∃ fr, rest = fr ++ news ∧ (∀ p ∈ fr, ∀ q ∈ news, q.1 ≠ p.1) ∧ TabsIn w fr kvs (tabs Dd)) ∧ (∀ p ∈ rest, p.1 ≠ nat_lit 114) ∧ (∀ p ∈ rest, p.1 ≠ dx) ∧ (∀ p ∈ rest, p.1 ≠ d) ∧ (∀ p ∈ rest, p.1 ≠ I) ∧
    BookDat (sk w) es kvs ∧ kvs.map (·.1) = keysOf Dd ∧ C = Dd ++ Dr ∧ DatAll news r (Dr.map trD) ∧ mm (Str.ofString "book") = some (.ref d)) ?step ?done vs _ _ ?start
  case start => exact ⟨_, _, [], news, [], C, rfl, ⟨[], rfl, (fun _ h => nomatch h), fun _ => rfl⟩, hn114, hdxn, fun p hp => (hdn p (.tail _ hp)).1, fun p hp => Nat.ne_of_lt (hnn p hp), bookDat0, rfl, rfl, hC, by with_unfolding_all rfl⟩
  case step =>
    clear F3 N3
    rintro v r mm n' ⟨es, ep, kvs, rest, Dd, Dr, rfl, ⟨fr, hfr, hfn, TI⟩, hr114, hrdx, hrd, hrI, BD, hks, hDD, hr, m1⟩ v' h tk rfl F
    have hsub : ∀ p ∈ news, p ∈ rest := fun p hp => by rw [hfr]; exact List.mem_append_right _ hp
    refine AllObj.cons fun oI cI => AllObj.nil fun N => ?_
    refine absG fun G E9 hG => ?_
    have F := putF F m1
    cases Dr with
    | nil => cases hr
    | cons q Dr =>
      cases hr with
      | cons hq hr =>
        unfold trD at hq
        cases hq with
        | tuple hm hd2 =>
          cases hd2 with
          | cons hk hd2 =>
            cases hk
            cases hd2 with
            | cons hi hd2 =>
              cases hi
              cases hd2 with
              | cons hj hd2 =>
                cases hj
                cases hd2
                rename_i T2 k2 u1 u2 u3
                have hT2 : IsTup h T2 #[.str q.1 u1, .str q.2.1 u2, .int q.2.2 u3] := ⟨_, (N _ (.tail _ (.tail _ (.tail _ (.tail _ (hsub _ hm)))))).1, rfl, _, rfl⟩
                have hq := hP q (by rw [hDD]; simp)
                k_steps
                have z0 := hq.1
                unfold txOf at z0
                simp only [strLen_append] at z0
                have zA : (Str.ofString "\t").length + q.1.length ≤ sizeLine := by rw [sizeLine_eq]; omega
                have zB : (Str.ofString "\t" ++ q.1).length + (Str.ofString " = ").length ≤ sizeLine := by rw [sizeLine_eq]; simp only [strLen_append]; omega
                have zC : (Str.ofString "\t" ++ q.1 ++ Str.ofString " = ").length + q.2.1.length ≤ sizeLine := by rw [sizeLine_eq]; simp only [strLen_append]; omega
                have zD : (Str.ofString "\t" ++ q.1 ++ Str.ofString " = " ++ q.2.1).length + (Str.ofString "\n").length ≤ sizeLine := by rw [sizeLine_eq]; simp only [strLen_append]; omega
                refine PyProof.Rows.add_str (fun t1 tk1 => ?_) zA
                dsimp only []
                k_steps
                refine PyProof.Rows.add_str (fun t2 tk2 => ?_) zB
                dsimp only []
                k_steps
                refine PyProof.Rows.add_str (fun t3 tk3 => ?_) zC
                dsimp only []
                k_steps
                refine PyProof.Rows.add_str (fun t4 tk4 => ?_) zD
                dsimp only []
                k_steps
                rename Fr _ _ _ _ => F4
                rename News _ _ _ _ => N4
                refine call_meth N4 (.head _) ?_
                refine parsec hq.1 hq.2 B1 F4 X1 N4 T1 rfl ?_
                intro h5 tk5 b dp t5 t6 F5 N5
                clear F4 N4
                dsimp only []
                k_steps
                rename Fr _ _ _ _ => F6
                rename News _ _ _ _ => N6
                rename_i h6
                have hbd : b ≠ d := by
                  intro e
                  have h1 := (N6 _ (.head _)).1
                  have h2 := (N6 (d, bookObj dx es ep) (.tail _ (.tail _ (.tail _ (.tail _ (.head _)))))).1
                  dsimp only at h1 h2
                  rw [e, h2] at h1
                  cases h1
                have hpd : dp ≠ d := by
                  intro e
                  have h1 := (N6 _ (.tail _ (.head _))).1
                  have h2 := (N6 (d, bookObj dx es ep) (.tail _ (.tail _ (.tail _ (.tail _ (.head _)))))).1
                  dsimp only at h1 h2
                  rw [e, h2] at h1
                  cases h1
                have N7 : News g1 L1 h6 ((d, bookObj dx es ep) :: (dx, emptyDict) :: (b, pairObj dp (Value.str q.1 t5) (Value.str q.2.1 t6)) :: (dp, emptyDict) :: (I, oI) :: (nat_lit 114, tabObj #[]) :: rest) := fun p hp => N6 p (by
                  simp only [List.mem_cons, List.mem_append] at hp ⊢
                  rcases hp with e | e | e | e | e | e | e <;> simp [e])
                clear N6
                refine gp_value B1 F6 X1 N7 T1 rfl (.tail _ (.tail _ (.head _))) (.tail _ (.tail _ (.tail _ (.head _)))) (by show (303 : Nat) + 15 < recursionLimit; decide) (by show (10 : Nat) + 170 < cLine; decide) ?_
                intro h8 tk8 F8 N8
                clear F6 N7
                dsimp only []
                k_steps
                have I8 : InstAt h8 d (bookObj dx es ep) (nat_lit 122) (some emptyDict) := ⟨(N8 _ (.head _)).1, rfl, rfl, (N8 (dx, emptyDict) (.tail _ (.head _))).1⟩
                have hkl : kvs.length ≤ 11 := by
                  have h1 := congrArg List.length hks
                  have h2 := keysOf_length Dd
                  rw [List.length_map] at h1
                  rw [hDD, List.length_append] at bC
                  omega
                have hxd : dx ≠ d := by
                  intro e
                  have h1 := (N8 _ (.head _)).1
                  have h2 := (N8 (dx, emptyDict) (.tail _ (.head _))).1
                  dsimp only at h1 h2
                  rw [e, h1] at h2
                  cases h2
                have N8' : News g1 L1 h8 ((d, bookObj dx es ep) :: (dx, emptyDict) :: (dx, emptyDict) :: (b, pairObj dp (Value.str q.1 t5) (Value.str q.2.1 t6)) :: (dp, emptyDict) :: (I, oI) :: (nat_lit 114, tabObj #[]) :: rest) := fun p hp => N8 p (by
                  simp only [List.mem_cons] at hp ⊢
                  rcases hp with e | e | e | e | e | e | e | e <;> simp [e])
                refine bk_sub (X1.keeps F8.keep) I8 ?_
                refine bk_read B1 F8 X1 N8' T1 rfl (by show (303 : Nat) + 15 < recursionLimit; decide) (by show (10 : Nat) + 170 < cLine; decide) BD (by rw [sizeLine_eq]; omega) TI hds ?hnd ?_
                case hnd =>
                  intro p hp
                  simp only [List.mem_cons] at hp
                  rcases hp with rfl | rfl | rfl | rfl | rfl | hp
                  · exact hxd
                  · exact hbd
                  · exact hpd
                  · exact Nat.ne_of_gt hId
                  · exact Ne.symm hd114
                  · exact hrd p hp
                intro u ou ku pre es' ep' kvs' h9 tk9 F9 N9 hpre mu lu du iu BD' hlen hva hke
                obtain ⟨rest9, hr9⟩ : ∃ r, r = pre ++ rest := ⟨_, rfl⟩
                have N10 : News g1 L1 h9 ((b, pairObj dp (Value.str q.1 t5) (Value.str q.2.1 t6)) :: (dp, emptyDict) :: (I, oI) :: (d, bookObj dx es' ep') :: (dx, emptyDict) :: (nat_lit 114, tabObj #[]) :: rest9) := fun p hp => N9 p (by
                  rw [hr9] at hp
                  simp only [List.mem_cons, List.mem_append] at hp ⊢
                  rcases hp with e | e | e | e | e | e | e | e <;> simp [e])
                have mu : (u, ou) ∈ rest9 := by
                  rw [hr9, hfr]
                  rcases List.mem_append.mp mu with h | h
                  · exact List.mem_append_left _ h
                  · exact List.mem_append_right _ (List.mem_append_left _ h)
                have hr9a : ∀ p ∈ rest9, p.1 ≠ nat_lit 114 ∧ p.1 ≠ dx ∧ p.1 ≠ d ∧ p.1 ≠ I := by
                  intro p hp
                  rw [hr9] at hp
                  rcases List.mem_append.mp hp with hp | hp
                  · have h1 := (hpre p hp).2
                    exact ⟨Nat.ne_of_gt (h1 (nat_lit 114, _) (.tail _ (.tail _ (.tail _ (.tail _ (.head _)))))), Nat.ne_of_gt (h1 (dx, _) (.head _)), Nat.ne_of_gt (hpre p hp).1, Nat.ne_of_gt (h1 (I, _) (.tail _ (.tail _ (.tail _ (.head _)))))⟩
                  · exact ⟨hr114 p hp, hrdx p hp, hrd p hp, hrI p hp⟩
                have hr9s : ∀ p ∈ rest, p ∈ rest9 := fun p hp => by rw [hr9]; exact List.mem_append_right _ hp
                have hbd2 : b ≠ d := hbd
                clear F8 N8 N8' N9 I8
                dsimp only []
                k_steps
                refine kdn_eval (knd := sk w) F9 N10 T1.nolimit (by rfl) (by rfl) (List.cons_ne_nil _ _) (Nat.le_of_ble_eq_true (by rfl)) ?_
                intro dd h10 od10 F10 N10' l10 lo10 hd10
                clear F9 N10
                dsimp only []
                k_steps
                refine gp_name B1 F10 X1 N10' T1 rfl (.tail _ (.head _)) (.tail _ (.tail _ (.head _))) (by show (303 : Nat) + 15 < recursionLimit; decide) (by show (10 : Nat) + 170 < cLine; decide) ?_
                intro h11 tk11 F11 N11
                clear F10 N10'
                dsimp only []
                k_steps
                refine kdn1 F11 N11 (UpdF.head fun p hp => Nat.ne_of_lt (l10 p hp)) hd10 ?_
                intro h12 o12 F12 N12 d12
                clear F11 N11
                dsimp only []
                dsimp only at N12
                k_steps
                have hDl : Dd.length ≤ 11 := by rw [hDD, List.length_append] at bC; omega
                refine addc B1 F12 X1 N12 T1 rfl (.tail _ (.tail _ (.tail _ (.tail _ (.tail _ (.tail _ (.tail _ mu))))))) du lu (.head _) d12 lo10 iu (IntD.one q.1 q.2.2 _) (by have := tabs_length Dd q.2.1; omega) (by show 1 ≤ 1000; decide) (by show (303 : Nat) + 5 < recursionLimit; decide) (by show (10 : Nat) + 60 < cLine; decide) ?_
                intro r3 o3 kr3 h13 tk13 F13 N13 l13 lo13 d13 i13
                clear F12 N12
                dsimp only []
                k_steps
                refine gp_value B1 F13 X1 N13 T1 rfl (.tail _ (.tail _ (.head _))) (.tail _ (.tail _ (.tail _ (.head _)))) (by show (303 : Nat) + 15 < recursionLimit; decide) (by show (10 : Nat) + 170 < cLine; decide) ?_
                intro h14 tk14 F14 N14
                clear F13 N13
                dsimp only []
                k_steps
                have I14 : InstAt h14 d (bookObj dx es' ep') (nat_lit 122) (some emptyDict) := ⟨(N14 (d, _) (.tail _ (.tail _ (.tail _ (.tail _ (.tail _ (.head _))))))).1, rfl, rfl, (N14 (dx, emptyDict) (.tail _ (.tail _ (.tail _ (.tail _ (.tail _ (.tail _ (.head _)))))))).1⟩
                refine bk_store (X1.keeps F14.keep) I14 BD' (by rw [sizeLine_eq]; omega) ?_
                intro h15 es2 ep2 hget BD2 sb
                dsimp only at sb
                have m14 := N14 (d, bookObj dx es' ep') (.tail _ (.tail _ (.tail _ (.tail _ (.tail _ (.head _))))))
                have F15 := F14.change sb m14.2.1 m14.2.2
                have N15 := News.setIn (own := [(r3, o3), (dd, o12), (b, pairObj dp (Value.str q.1 t5) (Value.str q.2.1 t6)), (dp, emptyDict), (I, oI)]) (rest := (dx, emptyDict) :: (nat_lit 114, tabObj #[]) :: rest9) N14 (by
                  intro p hp
                  simp only [List.mem_cons, List.not_mem_nil, or_false] at hp
                  rcases hp with rfl | rfl | rfl | rfl | rfl
                  · exact Nat.ne_of_gt (l13 (d, _) (.tail _ (.tail _ (.tail _ (.tail _ (.head _))))))
                  · exact Nat.ne_of_gt (l10 (d, _) (.tail _ (.tail _ (.tail _ (.head _)))))
                  · exact hbd
                  · exact hpd
                  · exact Nat.ne_of_gt hId) (by
                  intro p hp
                  rcases List.mem_cons.mp hp with rfl | hp
                  · exact hxd
                  · rcases List.mem_cons.mp hp with rfl | hp
                    · exact Ne.symm hd114
                    · exact (hr9a p hp).2.2.1) sb hget
                clear F14 N14
                dsimp only []
                k_steps
                have hr3 : ∀ p ∈ (r3, o3) :: rest9, p.1 ≠ nat_lit 114 ∧ p.1 ≠ dx ∧ p.1 ≠ d ∧ p.1 ≠ I := by
                  intro p hp
                  rcases List.mem_cons.mp hp with rfl | hp
                  · exact ⟨Nat.ne_of_gt (l13 (nat_lit 114, _) (.tail _ (.tail _ (.tail _ (.tail _ (.tail _ (.tail _ (.head _)))))))), Nat.ne_of_gt (l13 (dx, _) (.tail _ (.tail _ (.tail _ (.tail _ (.tail _ (.head _))))))), Nat.ne_of_gt (l13 (d, _) (.tail _ (.tail _ (.tail _ (.tail _ (.head _)))))), Nat.ne_of_gt (l13 (I, _) (.tail _ (.tail _ (.tail _ (.head _)))))⟩
                  · exact hr9a p hp
                refine hG _ ⟨_, _, _, (d, bookObj dx es2 ep2) :: (dx, emptyDict) :: (nat_lit 114, tabObj #[]) :: (r3, o3) :: rest9, rfl, (by assumption), ?hN, ?ho, ⟨.tail _ (.tail _ (.tail _ (.tail _ (hr9s _ (hsub _ hl))))), trivial⟩, es2, ep2, stored kvs' q.2.1 (.ref r3), (r3, o3) :: rest9, Dd ++ [q], Dr, rfl, ⟨(r3, o3) :: (pre ++ fr), by rw [hr9, hfr, List.cons_append, List.append_assoc], ?hfn, TI.store (fun p hp => .tail _ (List.mem_append_right _ hp)) (.head _) lo13 d13 i13 (fun x => hva _ x)⟩, fun p hp => (hr3 p hp).1, fun p hp => (hr3 p hp).2.1, fun p hp => (hr3 p hp).2.2.1, fun p hp => (hr3 p hp).2.2.2, BD2, by rw [hke, hks, keys_snoc], by rw [hDD, List.append_assoc]; rfl, hr, by with_unfolding_all rfl⟩
                case hN =>
                  intro p hp
                  refine (by assumption : News g1 L1 h15 _) p ?_
                  simp only [List.mem_cons, List.mem_append, List.not_mem_nil, or_false] at hp ⊢
                  rcases hp with e | e | e | e | e | e <;> simp [e]
                case hfn =>
                  intro p hp q hq
                  rcases List.mem_cons.mp hp with rfl | hp
                  · exact Nat.ne_of_lt (l13 q (.tail _ (.tail _ (.tail _ (.tail _ (.tail _ (.tail _ (.tail _ (hr9s _ (hsub _ hq))))))))))
                  · rcases List.mem_append.mp hp with hp | hp
                    · exact Nat.ne_of_lt ((hpre p hp).2 q (.tail _ (.tail _ (.tail _ (.tail _ (.tail _ (hsub _ hq)))))))
                    · exact hfn p hp q hq
                case ho =>
                  intro p hp q hq
                  rw [List.mem_singleton.mp hq]
                  rcases List.mem_cons.mp hp with rfl | hp
                  · exact Nat.ne_of_lt hId
                  · rcases List.mem_cons.mp hp with rfl | hp
                    · exact Nat.ne_of_lt hIdx
                    · rcases List.mem_cons.mp hp with rfl | hp
                      · exact Nat.ne_of_lt hI114
                      · exact (hr3 p hp).2.2.2
  case done =>
    clear F3 N3
    rintro mm n' ⟨es, ep, kvs, rest, Dd, Dr, rfl, ⟨fr, hfr, hfn, TI⟩, hr114, hrdx, hrd, hrI, BD, hks, hDD, hr, m1⟩ h tk F N
    cases Dr with
    | cons e Dr => cases hr
    | nil =>
      rw [List.append_nil] at hDD
      subst hDD
      have F := putF F m1
      k_steps
      have I8 : InstAt h d (bookObj dx es ep) (nat_lit 122) (some emptyDict) := ⟨(N _ (.head _)).1, rfl, rfl, (N (dx, emptyDict) (.tail _ (.head _))).1⟩
      refine bk_method (X1.keeps F.keep) I8 (N (dx, emptyDict) (.tail _ (.head _))).1 (f := .ref (nat_lit 119)) (T := "function") (by kernel_rfl) (looks_typeIn (X1.keeps F.keep) (by kernel_rfl)) (by decide) (by rfl) ?_
      k_steps
      have CH1 := codeHd.keeps FG1.keep
      refine freezec B1 F X1 N T1 rfl CH1 hr114 hrdx ⟨hd114, hdx114⟩ hrd (by show (303 : Nat) + 15 < recursionLimit; decide) (by show (10 : Nat) + 160 < cLine; decide) BD hds ?_
      intro h5 tk5 news5 ps F5 N5 FZ hps h5n
      k_steps
      subst hfr
      refine ret d kvs _ _ (news5 ++ fr) ps (by assumption) (by rw [List.append_assoc]; assumption) (List.mem_append_left _ hps) ?_ (FZ.mono fun p hp => List.mem_append_left _ hp) (TI.mono fun p hp => List.mem_append_right _ hp) hks
      intro p hp q hq
      rcases List.mem_append.mp hp with hp | hp
      · exact h5n p hp q (List.mem_append_right _ hq)
      · exact hfn p hp q hq
end Mine
end
section
open PySem PySem.W PyProof.Rows PySem.Calls PyProof.Rows.LCg
set_option Elab.async false
set_option maxRecDepth 100000
set_option maxHeartbeats 400000
namespace Mine
section
variable {prog : Program} {w : World} {A : Around} {E : Value → Shared → Prop} {s : Shared} {it d : Addr} {i ep : Nat} {es : Array DictEntry} {od : Obj} {ok ov : Value}
/-- the prefix of a turn: the iterator's fields, the entries, the epoch -/
theorem bi_iter {vw : Addr} {Q : Value → Shared → Prop} (hv : s.heap.IsItemsView vw d) (ho : s.heap.get? d = some od) (hd : od.data = .dict es ep)
    (hQ : Q (.ref s.heap.objs.size) { s with heap := s.heap.push { cls := .type "dict_itemiterator", data := .fields #[.none, .bool false, .ref d, .int 0 0, .int es.size 0, .int ep 0, .none, .none] } }) :
    wpAny (model prog w) A (pyIter (.ref vw)) Q E s := by
  obtain ⟨o2, g1, g2, g3⟩ := id hv
  refine wpAny_pyIter_slot hv.typeIs PySem.F.slot_dict_items_iter (wpAny_call_entry PySem.F.slot_dict_items_iter hv.typeIs PySem.F.entry_dict_items_iter ?_ (PySem.F.args_dict_items_iter_1 _))
  unfold Builtin.«dict_items.__iter__» Builtin.Dict_items.dictOf Builtin.Dict_items.newIterator
  refine wpAny_bind (wpAny_pure (wpAny_bind (wpAny_bind (wpAny_field g1 g3 (x := .ref d) rfl (wpAny_pure ?_)))))
  refine wpAny_bind (wpAny_bind (wpAny_dictEntries ho hd (wpAny_bind (wpAny_dictEpoch ho hd ?_))))
  simp only [show Builtin.Dict_items.ownsTuple "dict_itemiterator" = true from by decide, if_true]
  refine wpAny_newObj_type (wpAny_pure ⟨_, rfl, "dict_itemiterator", _, ⟨_, Heap.get?_push_size _ rfl, rfl⟩, PySem.F.slot_dict_itemiterator_next.lookup, ?_⟩) (by simp only [sizeOk, Builtin.Dict_items.ownedTupleFields, List.size_toArray, List.length_append, List.length_cons, List.length_nil, sizeLine_eq]; omega)
  simpa [rawInt, Builtin.Dict_items.ownedTupleFields] using hQ
theorem bi_item {e : DictEntry} {Q : Option Value → Shared → Prop} (hit : IsItemIter s.heap it d i es.size ep ok ov) (ho : s.heap.get? d = some od) (hd : od.data = .dict es ep) (he : es[i]? = some e)
    (hQ : ∀ h', IsItemIterOut h' it d (i + 1) es.size ep e.key e.val s.heap.objs.size → h'.get? s.heap.objs.size = some { cls := .type "tuple", data := .seq #[e.key, e.val] } →
      (∀ b o, b ≠ it → s.heap.get? b = some o → h'.get? b = some o) → Q (some (.ref s.heap.objs.size)) { s with heap := h' }) :
    wpAny (model prog w) A (pyNext (.ref it)) Q E s := by
  obtain ⟨hp, g, dr, tk, os⟩ := s
  have hT : Shared.TypeIs ⟨hp, g, dr, tk, os⟩ (.ref it) "dict_itemiterator" := ⟨_, hit, rfl⟩
  have hlt : i < es.size := by
    rcases Nat.lt_or_ge i es.size with h | h
    · exact h
    · rw [Array.getElem?_eq_none h] at he; cases he
  have hei : es[i] = e := by rw [Array.getElem?_eq_getElem hlt] at he; exact Option.some.inj he
  have hil : it < hp.objs.size := Heap.lt_size hit
  unfold pyNext
  refine wpAny_bind (wpAny_attempt (wpAny_callSpecial?_slot (name := Str.ofString "__next__") hT PySem.F.slot_dict_itemiterator_next (wpAny_call_entry PySem.F.slot_dict_itemiterator_next hT PySem.F.entry_dict_itemiterator_next ?_ (PySem.F.args_dict_itemiterator_next_1 _))))
  refine wpAny_bind (wpAny_pure (wpAny_bind (wpAny_bind ?_)))
  first | refine wpAny_bind (wpAny_typeNameOfWhole_itemiter hT (wpAny_pure ?_)) | refine wpAny_bind (wpAny_typeNameOf_itemiter hT (wpAny_pure ?_))
  refine wpAny_bind (wpAny_fieldsOf hit rfl ?_)
  simp only [show Builtin.Dict_items.ownsTuple "dict_itemiterator" = true from by decide, if_true]
  show wpAny _ _ (if (Value.ref d == Value.none) = true then _ else _) _ _ _
  rw [if_neg (show ¬ ((Value.ref d == Value.none) = true) from Bool.false_ne_true)]
  refine wpAny_bind (wpAny_pure (wpAny_bind (wpAny_dictEntries ho hd ?_)))
  rw [if_neg (by simp)]
  refine wpAny_bind (wpAny_pure (wpAny_bind (wpAny_dictEpoch ho hd ?_)))
  rw [if_neg (by simp)]
  refine wpAny_pure ?_
  simp only [show ¬ ((i : Int) < 0) from by omega, if_false, Int.toNat_natCast, Array.getElem?_eq_getElem hlt, hei]
  refine wpAny_bind ?_
  first | refine wpAny_bind (wpAny_typeNameOfWhole_itemiter hT (wpAny_pure ?_)) | refine wpAny_bind (wpAny_typeNameOf_itemiter hT (wpAny_pure ?_))
  refine wpAny_bind (wpAny_isOneOf_itemiter hT ?_)
  show wpAny _ _ (setField (.ref it) 3 (rawInt ((i : Int) + 1)) >>= _) _ _ ⟨hp, g, dr, tk, os⟩
  refine wpAny_bind (wpAny_setField_rec hit (by simp) fun h₁ a1 b1 => ?_)
  have a1' : IsItemIter h₁ it d (i + 1) es.size ep ok ov := by
    have q : ((i + 1 : Nat) : Int) = (i : Int) + 1 := by omega
    unfold IsItemIter; rw [q]; simpa [rawInt] using a1
  have b1' : Heap.SameBut it hp h₁ := b1
  clear a1 b1
  have hT₁ : Shared.TypeIs ⟨h₁, g, dr, tk, os⟩ (.ref it) "dict_itemiterator" := ⟨_, a1', rfl⟩
  refine wpAny_bind (wpAny_holding (wpAny_bind (wpAny_isOneOf_itemiter hT₁ (wpAny_bind (wpAny_isOneOf_itemiter hT₁ ?_)))))
  show wpAny _ _ (Builtin.Dict_items.pairFromOwner (.ref it) 6 e.key e.val) _ _ ⟨h₁, g, dr, tk, os⟩
  unfold Builtin.Dict_items.pairFromOwner
  refine wpAny_bind (wpAny_newTuple ?_)
  have z1 : h₁.objs.size = hp.objs.size := b1'.1
  obtain ⟨h₂, e2⟩ : ∃ h₂, h₂ = h₁.push { cls := .type "tuple", data := .seq #[e.key, e.val] } := ⟨_, rfl⟩
  have a2 : IsItemIter h₂ it d (i + 1) es.size ep ok ov := by rw [e2]; exact Heap.get?_push_of_some _ a1'
  have t2 : h₂.get? hp.objs.size = some { cls := .type "tuple", data := .seq #[e.key, e.val] } := by rw [e2, ← z1]; exact Heap.get?_push_size _ rfl
  have k2 : ∀ b o, b ≠ it → hp.get? b = some o → h₂.get? b = some o := fun b o hb q => by rw [e2]; exact Heap.get?_push_of_some _ (b1'.extBut b o hb q)
  show wpAny _ _ (Builtin.Dict_items.ownedTupleIsFree (.ref it) >>= _) _ _ ⟨h₁.push { cls := .type "tuple", data := .seq #[e.key, e.val] }, g, dr, tk, os⟩
  rw [z1, ← e2]
  clear e2 a1' b1' hT₁ z1 h₁
  refine wpAny_bind ?_
  unfold Builtin.Dict_items.ownedTupleIsFree
  refine wpAny_bind (wpAny_field a2 rfl (x := .none) rfl (wpAny_pure ?_))
  simp only [if_true]
  refine wpAny_bind (wpAny_field a2 rfl (x := ok) rfl (wpAny_bind (wpAny_field a2 rfl (x := ov) rfl ?_)))
  refine wpAny_bind (wpAny_setField_rec a2 (by simp) fun h₃ a3 b3 => ?_)
  have a3' : IsItemIter h₃ it d (i + 1) es.size ep e.key ov := a3
  refine wpAny_bind (wpAny_setField_rec a3' (by simp) fun h₄ a4 b4 => ?_)
  have a4' : IsItemIter h₄ it d (i + 1) es.size ep e.key e.val := a4
  refine wpAny_bind (wpAny_setField_rec a4' (by simp) fun h₅ a5 b5 => ?_)
  have a5' : IsItemIterOut h₅ it d (i + 1) es.size ep e.key e.val hp.objs.size := a5
  refine wpAny_bind (wpAny_setField_rec a5' (by simp) fun h₆ a6 b6 => ?_)
  have a6' : IsItemIterOut h₆ it d (i + 1) es.size ep e.key e.val hp.objs.size := a6
  have b3' : Heap.SameBut it h₂ h₃ := b3
  have b4' : Heap.SameBut it h₃ h₄ := b4
  have b5' : Heap.SameBut it h₄ h₅ := b5
  have b6' : Heap.SameBut it h₅ h₆ := b6
  have up : ∀ b o, b ≠ it → h₂.get? b = some o → h₆.get? b = some o := fun b o hb q => b6'.extBut b o hb (b5'.extBut b o hb (b4'.extBut b o hb (b3'.extBut b o hb q)))
  refine wpAny_bind (wpAny_letGo (wpAny_pure (wpAny_pure ⟨_, rfl, wpAny_pure (hQ h₆ a6' (up _ _ (Nat.ne_of_gt hil) t2) fun b o hb q => up b o hb (k2 b o hb q))⟩)))
theorem bi_end {Q : Option Value → Shared → Prop} (hh : A.handled = none) (hit : IsItemIter s.heap it d es.size es.size ep ok ov) (ho : s.heap.get? d = some od) (hd : od.data = .dict es ep)
    (hQ : ∀ h', Heap.ExtBut it s.heap h' → Q none { s with heap := h' }) : wpAny (model prog w) A (pyNext (.ref it)) Q E s := by
  have hT : s.TypeIs (.ref it) "dict_itemiterator" := ⟨_, hit, rfl⟩
  unfold pyNext
  refine wpAny_bind (wpAny_attempt (wpAny_callSpecial?_slot (name := Str.ofString "__next__") hT PySem.F.slot_dict_itemiterator_next (wpAny_call_entry PySem.F.slot_dict_itemiterator_next hT PySem.F.entry_dict_itemiterator_next ?_ (PySem.F.args_dict_itemiterator_next_1 _))))
  refine wpAny_bind (wpAny_pure (wpAny_bind (wpAny_bind ?_)))
  first | refine wpAny_bind (wpAny_typeNameOfWhole_itemiter hT (wpAny_pure ?_)) | refine wpAny_bind (wpAny_typeNameOf_itemiter hT (wpAny_pure ?_))
  refine wpAny_bind (wpAny_fieldsOf hit rfl ?_)
  simp only [show Builtin.Dict_items.ownsTuple "dict_itemiterator" = true from by decide, if_true]
  show wpAny _ _ (if (Value.ref d == Value.none) = true then _ else _) _ _ s
  rw [if_neg (show ¬ ((Value.ref d == Value.none) = true) from Bool.false_ne_true)]
  refine wpAny_bind (wpAny_pure (wpAny_bind (wpAny_dictEntries ho hd ?_)))
  rw [if_neg (by simp)]
  refine wpAny_bind (wpAny_pure (wpAny_bind (wpAny_dictEpoch ho hd ?_)))
  rw [if_neg (by simp)]
  refine wpAny_pure ?_
  simp only [show ¬ ((es.size : Int) < 0) from by omega, if_false, Int.toNat_natCast, Array.getElem?_eq_none (Nat.le_refl es.size)]
  refine wpAny_bind ?_
  first | refine wpAny_bind (wpAny_typeNameOfWhole_itemiter hT (wpAny_pure ?_)) | refine wpAny_bind (wpAny_typeNameOf_itemiter hT (wpAny_pure ?_))
  show wpAny _ _ (setField (.ref it) 2 .none >>= _) _ _ s
  refine wpAny_bind (wpAny_setField hit rfl (by simp) ?_)
  show wpAny _ _ (newExc (.type "StopIteration") [] >>= _) _ _ _
  refine wpAny_bind ?_
  simp only [newExc, newTuple]
  refine wpAny_bind (wpAny_newObj_type ?_ (by size_fits))
  refine wpAny_bind (m := firstArgMember _ _) (wpAny_of_eq (a := Value.none) (by first | rfl | (simp only [firstArgMember]; rfl)) ?_)
  refine wpAny_newObj_type ?_ (by size_fits)
  simp only [raiseNew]
  refine wpAny_bind (wpAny_handled ?_)
  rw [show A.in1.handled = none from hh]
  refine wpAny_bind (wpAny_pure (wpAny_throw ?_))
  refine wpAny_bind (wpAny_isInstance (T := "StopIteration") (b := true) ⟨_, Heap.get?_push_size _ rfl, rfl⟩ isSubtype_stop ?_)
  exact wpAny_pure (hQ _ (((Heap.SameBut.update ..).extBut.push _).push _))
/-- the book's turns, for a block -/
theorem bi_turns {elts : List Expr} {kk : Nat} {pos : Pos} (hh : A.handled = none) (I : Addr) (hne : d ≠ I) (hd : od.data = .dict es ep) :
    KTurns prog w A (.Tuple elts kk pos) I [I, d] [I] es.size
      (fun i v h => ∃ T e, v = .ref T ∧ es[i]? = some e ∧ IsTup h T #[e.key, e.val])
      (fun i v h => ∃ T e, v = .ref T ∧ es[i]? = some e ∧ IsTup h T #[e.key, e.val] ∧ IsItemIterOut h I d (i + 1) es.size ep e.key e.val T ∧ h.get? d = some od ∧ T ≠ I)
      (fun i h => (∃ ok ov, IsItemIter h I d i es.size ep ok ov) ∧ h.get? d = some od) where
  sub := fun b hb => by simp at hb; simp [hb]
  frame := fun i h h' st hk => by
    obtain ⟨⟨ok, ov, he⟩, hm⟩ := st
    exact ⟨⟨ok, ov, hk I (by simp) _ he⟩, hk d (by simp) _ hm⟩
  item := fun i s Q E hi st hQ => by
    obtain ⟨⟨ok, ov, he⟩, hm⟩ := st
    have hx : es[i]? = some es[i] := Array.getElem?_eq_getElem hi
    refine bi_item he hm hd hx fun h' ho hT hk => ?_
    exact hQ (.ref s.heap.objs.size) h' s.toks ⟨s.heap.objs.size, es[i], rfl, hx, ⟨_, hT, rfl, _, rfl⟩, ho, hk d _ hne hm, Nat.ne_of_gt (Heap.lt_size he)⟩ fun b o hb e => hk b o (fun h => hb (by simp [h])) e
  go := fun i v s Q E hm hQ => by
    obtain ⟨T, e, rfl, hx, hT, ho, hdd, hTI⟩ := hm
    refine wpAny_letOwnedTupleGo_items ho fun h' he hs => ?_
    exact hQ h' ⟨T, e, rfl, hx, hT.extBut hs.extBut hTI⟩ ⟨⟨_, _, he⟩, hs.extBut d _ hne hdd⟩ fun b o hb e => hs.extBut b o (fun h => hb (by simp [h])) e
  done := fun s Q E st hQ => by
    obtain ⟨⟨ok, ov, he⟩, hm⟩ := st
    exact bi_end hh he hm hd fun h' hx => hQ h' s.toks fun b o hb e => hx b o (fun h => hb (by simp [h])) e
end
section
variable {w : World} {A : Around} {E : Value → Shared → Prop} {s : Shared} {d dx : Addr} {od : Obj} {es : Array DictEntry} {ep : Nat} {h₀ : Heap} {L : Addr} {m : Str → Option Value} {news : List (Addr × Obj)}
theorem kind_it : builtinKind "dict.items" = some .slot ∨ builtinKind "dict.items" = some .method := .inr (by kernel_rfl)
theorem split_it : splitId "dict.items" = some ("dict", "items") := by kernel_rfl
theorem bk_items {Q : Value → Shared → Prop} (X : (KF w.params).In s.heap) (I : InstAt s.heap d (bookObj dx es ep) (nat_lit 122) (some od)) (hds : (d == sysModules) = false)
    (h : Q (.ref s.heap.objs.size) { s with heap := s.heap.push { cls := .type "dict_items", data := .fields #[.ref d] } }) :
    wpAny (model pw w) A (call (.builtin "dict.items") [.ref d]) Q E s := by
  refine bk_call kind_it split_it PySem.F.slot_dict_items.plain PySem.F.entry_dict_items (PySem.F.args_dict_items_1 _) X I ?_
  unfold Builtin.«dict.items»
  refine wpAny_bind ?_
  unfold Builtin.Dict.noArgs
  refine wpAny_bind (notOrd X I ?_)
  show wpAny _ _ (pure d) _ _ s
  refine wpAny_pure ?_
  show wpAny _ _ (Builtin.Dict.showsAll d >>= _) _ _ s
  unfold Builtin.Dict.showsAll
  rw [if_neg (by rw [hds]; exact Bool.false_ne_true)]
  refine wpAny_bind (wpAny_pure ?_)
  exact wpAny_bind (wpAny_newObj_type (wpAny_pure h))
theorem srcBook {vw : Addr} {kvs : List (Str × Value)} {Q : Value → Shared → Prop} (hh : A.handled = none) (F : Fr h₀ L s.heap m) (N : News h₀ L s.heap news) (hv : s.heap.IsItemsView vw d) (hm : (d, bookObj dx es ep) ∈ news) (B : BookDat (sk w) es kvs)
    (k : ∀ I h', Fr h₀ L h' m → News h₀ L h' news → (∀ p ∈ news, p.1 < I) → L < I → h₀.get? I = none → (∀ elts kk pos, Src pw w A (.Tuple elts kk pos) I [I, d] "dict_itemiterator" (kvs.map fun p => Itm.pair (fun t => Value.str p.1 t) p.2) h') → Q (.ref I) { s with heap := h' }) :
    wpAny (model pw w) A (pyIter (.ref vw)) Q E s := by
  refine bi_iter hv (N _ hm).1 rfl ?_
  have hne : d ≠ s.heap.objs.size := Nat.ne_of_lt (Heap.lt_size (N _ hm).1)
  refine k _ _ (F.push _) (fun p hp => ⟨Heap.get?_push_of_some _ (N p hp).1, (N p hp).2⟩) (fun p hp => Heap.lt_size (N p hp).1) F.ns.lt (next_is_new F) ?_
  intro elts kk pos
  refine ⟨_, _, _, _, ?_, bi_turns (od := bookObj dx es ep) hh s.heap.objs.size hne rfl, ?_, ?_, ⟨⟨.none, .none, Heap.get?_push_size _ rfl⟩, Heap.get?_push_of_some _ (N _ hm).1⟩, fun s Q E st q => ?_⟩
  · rw [List.length_map, B.size]
  · rintro i v h ⟨T, e, rfl, hx, hT⟩
    have hi : i < kvs.length := by
      rcases Nat.lt_or_ge i es.size with h | h
      · rw [← B.size]; exact h
      · rw [Array.getElem?_eq_none h] at hx; cases hx
    obtain ⟨hk, hv⟩ := B.2.1.get? (i := i) (e := e) (k := kvs[i].1) (v := kvs[i].2) (by simpa using hx) (by simp [hi])
    obtain ⟨t, ht⟩ := Value.isStrOf_shape hk
    rw [ht, hv] at hT
    exact ⟨.pair (fun t => Value.str kvs[i].1 t) kvs[i].2, by rw [List.getElem?_map]; simp [hi], T, t, rfl, hT⟩
  · rintro i h ⟨⟨ok, ov, he⟩, _⟩
    exact ⟨_, he, rfl⟩
  · obtain ⟨⟨ok, ov, he⟩, _⟩ := st
    exact kcp_self he q
end
end Mine
end
section
open PySem PySem.W PyProof.Rows PySem.Calls PyProof.Rows.LCg
set_option Elab.async false
set_option maxRecDepth 100000
set_option maxHeartbeats 400000
namespace Mine
section
variable {prog : Program} {w : World} {A : Around} {s : Shared} {env : Env} {h₀ : Heap}
/-- one turn of a list's block, by its answers `ys` -/
def TurnOk (prog : Program) (w : World) (A : Around) (env : Env) (h₀ : Heap) {α : Type} (f : α → Itm) (ys : α → List Dat) (target elt : Expr) (ifs : List Expr) (D : Addr) (n0 nA : List (Addr × Obj)) (Mp : (Str → Option Value) → Prop) (s : Shared) (a : α) : Prop :=
  ∀ (E : Value → Shared → Prop) (Kp : Shared → Prop) v h tk m nn, (f a).Is v h → Mp m → Fr h₀ env.locals h m → News h₀ env.locals h nn → (∀ p ∈ nA, p ∈ nn) →
    (∀ y h' tk' m' tl, Mp m' → Fr h₀ env.locals h' m' → News h₀ env.locals h' (tl ++ nn) → (∀ p ∈ tl, ∀ q ∈ nn, q.1 < p.1) → DatAll (tl ++ n0) [y] (ys a) →
      wpAny (model prog w) A (call (.builtin "list.append") [.ref D, y]) (fun _ s' => Kp s') E { s with heap := h', toks := tk' }) →
    (ys a = [] → ∀ h' tk' m', Mp m' → Fr h₀ env.locals h' m' → News h₀ env.locals h' nn → Kp { s with heap := h', toks := tk' }) →
    wpAny (model prog w) A (assign target env v) (fun _ s₃ => bodyL prog w A E env elt ifs (.ref D) Kp s₃) E { s with heap := h, toks := tk }
/-- one turn of the outer clause -/
def TurnOkN (prog : Program) (w : World) (A : Around) (env : Env) (h₀ : Heap) {α : Type} (f : α → Itm) (ys : α → List Dat) (target : Expr) (e iter' : Expr) (depth : Nat) (ifs : List Expr) (D : Addr) (n0 nA : List (Addr × Obj)) (Mp : (Str → Option Value) → Prop) (s : Shared) (lim : Nat) (a : α) : Prop :=
  ∀ (E : Value → Shared → Prop) (Kp : Shared → Prop) v h tk m nn ws, (f a).Is v h → Mp m → Fr h₀ env.locals h m → News h₀ env.locals h ((D, lst ws) :: nn) → (∀ p ∈ nn, p.1 ≠ D) → (∀ p ∈ nA, p ∈ nn) → ws.length + (ys a).length ≤ lim →
    (∀ h' tk' m' ws' tl, Mp m' → Fr h₀ env.locals h' m' → News h₀ env.locals h' ((D, lst (ws ++ ws')) :: (tl ++ nn)) → (∀ p ∈ tl, ∀ q ∈ (D, lst ws) :: nn, q.1 < p.1) → DatAll (tl ++ n0) ws' (ys a) → Kp { s with heap := h', toks := tk' }) →
    wpAny (model prog w) A (assign target env v) (fun _ s₃ => bodyN prog w A E env e iter' depth ifs (.ref D) Kp s₃) E { s with heap := h, toks := tk }
theorem loopL {α : Type} {f : α → Itm} {ys : α → List Dat} {elt target iter : Expr} {ifs : List Expr} {gens : List Comprehension} {scope : Scope} {pos : Pos} {depth : Nat} {D I : Addr} {fp : List Addr} {cls : String} {ws0 : List Value} {n0 nA nL keep : List (Addr × Obj)} {m : Str → Option Value} {Mp : (Str → Option Value) → Prop} {R : Result → Shared → Prop}
    (hg : gens[depth]? = some ⟨target, iter, ifs, 0⟩) (hn : gens[depth + 1]? = none) (hi : ifs.length ≤ 1)
    (xs : List α) (S : Src prog w A target I fp cls (xs.map f) s.heap) (F : Fr h₀ env.locals s.heap m) (N : News h₀ env.locals s.heap ((D, lst ws0) :: nL)) (hM : Mp m) (hs0 : ∀ p ∈ nA, p ∈ nL)
    (hnD : ∀ p ∈ nL, p.1 ≠ D) (hnI : ∀ p ∈ (D, lst ws0) :: nL, p.1 ≠ I) (hk : ∀ p ∈ keep, p ∈ nL) (hI₀ : h₀.get? I = none) (hIC : I ≠ env.locals) (hfp : ∀ b ∈ fp, b = I ∨ (∃ o, (b, o) ∈ keep) ∨ ∃ o, h₀.get? b = some o)
    (hsz : ws0.length + (xs.flatMap ys).length ≤ sizeLine)
    (step : ∀ a ∈ xs, TurnOk prog w A env h₀ f ys target elt ifs D n0 nA Mp s a)
    (done : ∀ h' tk' m' ws pre, Mp m' → Fr h₀ env.locals h' m' → News h₀ env.locals h' ((D, lst (ws0 ++ ws)) :: (pre ++ nL)) → (∀ p ∈ pre, ∀ q ∈ (D, lst ws0) :: nL, q.1 < p.1) → DatAll (pre ++ n0) ws (xs.flatMap ys) → R (.ok .next) { s with heap := h', toks := tk' })
    (hu : A.under (.compLoop (.ListComp elt gens scope pos) depth (.ref I) (.ref D) env) = A := by rfl)
    (hden : (model prog w).den (.compLoop (.ListComp elt gens scope pos) depth (.ref I) (.ref D) env) = (compTurn (.ListComp elt gens scope pos) depth (.ref I) (.ref D) env).onRaise (fun x => do noteFrame x env; theTreesLotGoes x) := by rfl) :
    codeAny (model prog w) A (.compLoop (.ListComp elt gens scope pos) depth (.ref I) (.ref D) env) R s := by
  refine compInv (f := f) (keep := keep) (bodyL prog w A _ env elt ifs (.ref D)) (fun G G' s k h => bodyL_mono G G' s k h) (fun s Q h => turnList hg hn hi h)
    (fun r mm n => ∃ ws pre dn, n = (D, lst (ws0 ++ ws)) :: (pre ++ nL) ∧ xs = dn ++ r ∧ DatAll (pre ++ n0) ws (dn.flatMap ys) ∧ (∀ p ∈ pre, ∀ q ∈ (D, lst ws0) :: nL, q.1 < p.1) ∧ Mp mm)
    ?step ?done xs S F N hnI (fun p hp => .tail _ (hk p hp)) ?start hI₀ hIC hfp hu hden
  case start => exact ⟨[], [], [], by rw [List.append_nil]; rfl, rfl, .nil, (fun _ h => nomatch h), hM⟩
  case done =>
    rintro mm n ⟨ws, pre, dn, rfl, hx, hDD, hpre, hMm⟩ hnI2 h tk F' N'
    rw [List.append_nil] at hx
    subst hx
    exact done h tk mm ws pre hMm F' N' hpre hDD
  case step =>
    rintro a r mm n ⟨ws, pre, dn, rfl, hx, hDD, hpre, hMm⟩ hnI2 v h tk oI hcI hv F' N'
    have hpD : ∀ p ∈ pre, D < p.1 := fun p hp => hpre p hp (D, _) (.head _)
    have hDI : D ≠ I := hnI2 (D, _) (.head _)
    have e2 : (dn.flatMap ys).length + (ys a).length ≤ (xs.flatMap ys).length := by rw [hx, List.flatMap_append, List.length_append, List.flatMap_cons, List.length_append]; omega
    have e3 : ws.length = (dn.flatMap ys).length := hDD.length
    refine step a (by rw [hx]; simp) _ _ v h tk mm _ hv hMm F' N' (fun p hp => .tail _ (.tail _ (List.mem_append_right _ (hs0 p hp)))) ?_ ?_
    · intro y h' tk' m' tl hM' F2 N2 htl hy
      have e1 : (ws0 ++ ws).length ≤ sizeLine := by rw [List.length_append]; omega
      have htD : ∀ p ∈ tl, D < p.1 := fun p hp => htl p hp (D, _) (.tail _ (.head _))
      have N3 : News h₀ env.locals h' ((D, lst (ws0 ++ ws)) :: (I, oI) :: (tl ++ pre ++ nL)) := fun p hp => N2 p (by
        simp only [List.mem_cons, List.mem_append] at hp ⊢
        rcases hp with e | e | (e | e) | e <;> simp [e])
      have U : UpdF D (lst (ws0 ++ ws)) ((D, lst (ws0 ++ ws)) :: (I, oI) :: (tl ++ pre ++ nL)) (fun o => (D, o) :: (I, oI) :: (tl ++ pre ++ nL)) := UpdF.head (by
        intro p hp
        simp only [List.mem_cons, List.mem_append] at hp
        rcases hp with rfl | (hp | hp) | hp
        · exact Ne.symm hDI
        · exact Nat.ne_of_gt (htD p hp)
        · exact Nat.ne_of_gt (hpD p hp)
        · exact hnD p hp)
      refine appL F2 N3 U e1 ?_
      intro h4 F4 N4
      refine ⟨h4, _, m', (D, lst (ws0 ++ (ws ++ [y]))) :: (tl ++ pre ++ nL), rfl, F4, fun p hp => N4 p ?_, ?_, ?_, ws ++ [y], tl ++ pre, dn ++ [a], rfl, by rw [hx]; simp, ?_, ?_, hM'⟩
      · rw [← List.append_assoc ws0] at hp
        simp only [List.mem_cons, List.mem_append] at hp ⊢
        rcases hp with e | e | (e | e) | e <;> simp [e]
      · intro p hp
        simp only [List.mem_cons, List.mem_append] at hp
        rcases hp with rfl | (hp | hp) | hp
        · exact hDI
        · exact Nat.ne_of_gt (htl p hp (I, oI) (.head _))
        · exact hnI2 p (.tail _ (List.mem_append_left _ hp))
        · exact hnI2 p (.tail _ (List.mem_append_right _ hp))
      · intro p hp; exact .tail _ (List.mem_append_right _ (hk p hp))
      · have h1 : DatAll (tl ++ pre ++ n0) ws (dn.flatMap ys) := hDD.mono fun p hp => by
          rcases List.mem_append.mp hp with hp | hp
          · exact List.mem_append_left _ (List.mem_append_right _ hp)
          · exact List.mem_append_right _ hp
        have h2 : DatAll (tl ++ pre ++ n0) [y] (ys a) := hy.mono fun p hp => by
          rcases List.mem_append.mp hp with hp | hp
          · exact List.mem_append_left _ (List.mem_append_left _ hp)
          · exact List.mem_append_right _ hp
        have h3 := h1.append h2
        simpa [List.flatMap_append] using h3
      · intro p hp q hq
        rcases List.mem_append.mp hp with hp | hp
        · rcases List.mem_cons.mp hq with rfl | hq
          · exact htl p hp (D, lst (ws0 ++ ws)) (.tail _ (.head _))
          · exact htl p hp q (.tail _ (.tail _ (List.mem_append_right _ hq)))
        · exact hpre p hp q hq
    · intro he h' tk' m' hM' F2 N2
      exact ⟨h', tk', m', (D, lst (ws0 ++ ws)) :: (pre ++ nL), rfl, F2, N2, hnI2, fun p hp => .tail _ (List.mem_append_right _ (hk p hp)), ws, pre, dn ++ [a], rfl, by rw [hx]; simp, by rw [List.flatMap_append]; simpa [he] using hDD, hpre, hM'⟩
theorem loopN {α : Type} {f : α → Itm} {ys : α → List Dat} {elt target iter iter' target' : Expr} {ifs ifs' : List Expr} {gens : List Comprehension} {scope : Scope} {pos : Pos} {depth : Nat} {D I : Addr} {fp : List Addr} {cls : String} {ws0 : List Value} {n0 nA nL keep : List (Addr × Obj)} {m : Str → Option Value} {Mp : (Str → Option Value) → Prop} {R : Result → Shared → Prop}
    (hg : gens[depth]? = some ⟨target, iter, ifs, 0⟩) (hn : gens[depth + 1]? = some ⟨target', iter', ifs', 0⟩) (hi : ifs.length ≤ 1) (hs : ∀ x, foldedSetIterable iter' env x = pure x)
    (xs : List α) (S : Src prog w A target I fp cls (xs.map f) s.heap) (F : Fr h₀ env.locals s.heap m) (N : News h₀ env.locals s.heap ((D, lst ws0) :: nL)) (hM : Mp m) (hs0 : ∀ p ∈ nA, p ∈ nL)
    (hnD : ∀ p ∈ nL, p.1 ≠ D) (hnI : ∀ p ∈ (D, lst ws0) :: nL, p.1 ≠ I) (hk : ∀ p ∈ keep, p ∈ nL) (hI₀ : h₀.get? I = none) (hIC : I ≠ env.locals) (hfp : ∀ b ∈ fp, b = I ∨ (∃ o, (b, o) ∈ keep) ∨ ∃ o, h₀.get? b = some o)
    (hsz : ws0.length + (xs.flatMap ys).length ≤ sizeLine)
    (step : ∀ a ∈ xs, TurnOkN prog w A env h₀ f ys target (.ListComp elt gens scope pos) iter' depth ifs D n0 nA Mp s (ws0.length + (xs.flatMap ys).length) a)
    (done : ∀ h' tk' m' ws pre, Mp m' → Fr h₀ env.locals h' m' → News h₀ env.locals h' ((D, lst (ws0 ++ ws)) :: (pre ++ nL)) → (∀ p ∈ pre, ∀ q ∈ (D, lst ws0) :: nL, q.1 < p.1) → DatAll (pre ++ n0) ws (xs.flatMap ys) → R (.ok .next) { s with heap := h', toks := tk' })
    (hu : A.under (.compLoop (.ListComp elt gens scope pos) depth (.ref I) (.ref D) env) = A := by rfl)
    (hden : (model prog w).den (.compLoop (.ListComp elt gens scope pos) depth (.ref I) (.ref D) env) = (compTurn (.ListComp elt gens scope pos) depth (.ref I) (.ref D) env).onRaise (fun x => do noteFrame x env; theTreesLotGoes x) := by rfl) :
    codeAny (model prog w) A (.compLoop (.ListComp elt gens scope pos) depth (.ref I) (.ref D) env) R s := by
  refine compInv (f := f) (keep := keep) (bodyN prog w A _ env (.ListComp elt gens scope pos) iter' depth ifs (.ref D)) (fun G G' s k h => bodyN_mono G G' s k h) (fun s Q h => turnNest hg hn hi hs h)
    (fun r mm n => ∃ ws pre dn, n = (D, lst (ws0 ++ ws)) :: (pre ++ nL) ∧ xs = dn ++ r ∧ DatAll (pre ++ n0) ws (dn.flatMap ys) ∧ (∀ p ∈ pre, ∀ q ∈ (D, lst ws0) :: nL, q.1 < p.1) ∧ Mp mm)
    ?step ?done xs S F N hnI (fun p hp => .tail _ (hk p hp)) ?start hI₀ hIC hfp hu hden
  case start => exact ⟨[], [], [], by rw [List.append_nil]; rfl, rfl, .nil, (fun _ h => nomatch h), hM⟩
  case done =>
    rintro mm n ⟨ws, pre, dn, rfl, hx, hDD, hpre, hMm⟩ hnI2 h tk F' N'
    rw [List.append_nil] at hx
    subst hx
    exact done h tk mm ws pre hMm F' N' hpre hDD
  case step =>
    rintro a r mm n ⟨ws, pre, dn, rfl, hx, hDD, hpre, hMm⟩ hnI2 v h tk oI hcI hv F' N'
    have hpD : ∀ p ∈ pre, D < p.1 := fun p hp => hpre p hp (D, _) (.head _)
    have hDI : D ≠ I := hnI2 (D, _) (.head _)
    have e2 : (dn.flatMap ys).length + (ys a).length ≤ (xs.flatMap ys).length := by rw [hx, List.flatMap_append, List.length_append, List.flatMap_cons, List.length_append]; omega
    have e3 : ws.length = (dn.flatMap ys).length := hDD.length
    have N'' : News h₀ env.locals h ((D, lst (ws0 ++ ws)) :: (I, oI) :: (pre ++ nL)) := fun p hp => N' p (by
      simp only [List.mem_cons, List.mem_append] at hp ⊢
      rcases hp with e | e | e | e <;> simp [e])
    refine step a (by rw [hx]; simp) _ _ v h tk mm _ _ hv hMm F' N'' ?_ (fun p hp => .tail _ (List.mem_append_right _ (hs0 p hp))) (by rw [List.length_append]; omega) ?_
    · intro p hp
      simp only [List.mem_cons, List.mem_append] at hp
      rcases hp with rfl | hp | hp
      · exact Ne.symm hDI
      · exact Nat.ne_of_gt (hpD p hp)
      · exact hnD p hp
    · intro h' tk' m' ws' tl hM' F2 N2 htl hy
      refine ⟨h', _, m', (D, lst (ws0 ++ (ws ++ ws'))) :: (tl ++ pre ++ nL), rfl, F2, fun p hp => N2 p ?_, ?_, ?_, ws ++ ws', tl ++ pre, dn ++ [a], rfl, by rw [hx]; simp, ?_, ?_, hM'⟩
      · rw [← List.append_assoc ws0] at hp
        simp only [List.mem_cons, List.mem_append] at hp ⊢
        rcases hp with e | e | (e | e) | e <;> simp [e]
      · intro p hp
        simp only [List.mem_cons, List.mem_append] at hp
        rcases hp with rfl | (hp | hp) | hp
        · exact hDI
        · exact Nat.ne_of_gt (htl p hp (I, oI) (.tail _ (.head _)))
        · exact hnI2 p (.tail _ (List.mem_append_left _ hp))
        · exact hnI2 p (.tail _ (List.mem_append_right _ hp))
      · intro p hp; exact .tail _ (List.mem_append_right _ (hk p hp))
      · have h1 : DatAll (tl ++ pre ++ n0) ws (dn.flatMap ys) := hDD.mono fun p hp => by
          rcases List.mem_append.mp hp with hp | hp
          · exact List.mem_append_left _ (List.mem_append_right _ hp)
          · exact List.mem_append_right _ hp
        have h2 : DatAll (tl ++ pre ++ n0) ws' (ys a) := hy.mono fun p hp => by
          rcases List.mem_append.mp hp with hp | hp
          · exact List.mem_append_left _ (List.mem_append_left _ hp)
          · exact List.mem_append_right _ hp
        have h3 := h1.append h2
        simpa [List.flatMap_append] using h3
      · intro p hp q hq
        rcases List.mem_append.mp hp with hp | hp
        · rcases List.mem_cons.mp hq with rfl | hq
          · exact htl p hp (D, lst (ws0 ++ ws)) (.head _)
          · exact htl p hp q (.tail _ (.tail _ (List.mem_append_right _ hq)))
        · exact hpre p hp q hq
theorem lcomp {α : Type} {f : α → Itm} {ys : α → List Dat} {elt target iter : Expr} {ifs : List Expr} {scope : Scope} {cl : List (Str × Addr)} {pos : Pos} {Mp : (Str → Option Value) → Prop} {Q : Value → Shared → Prop} {E : Value → Shared → Prop}
    (hclos : closureFor scope env = pure cl) (hcell : ∀ y ∈ scope.names, y.2 ≠ .cell) (hkind : scope.kind = .function) (hnames : ∀ y ∈ scope.names, y.2 = .local → scope.names.lookup y.1 = some .local) (hi : ifs.length ≤ 1)
    (h : wpAny (model prog w) A (eval iter env) (fun xv s₁ => wpAny (model prog w) A (pyIter xv) (fun it s₂ => ∃ (I : Addr) (fp : List Addr) (cls : String) (xs : List α) (m : Str → Option Value) (n n0 keep : List (Addr × Obj)), it = .ref I ∧ Src prog w A target I fp cls (xs.map f) s₂.heap ∧ Fr h₀ env.locals s₂.heap m ∧ News h₀ env.locals s₂.heap n ∧
      (∀ p ∈ n, p.1 < I) ∧ env.locals ≠ I ∧ (∀ p ∈ keep, p ∈ n) ∧ h₀.get? I = none ∧ (∀ b ∈ fp, b = I ∨ (∃ o, (b, o) ∈ keep) ∨ ∃ o, h₀.get? b = some o) ∧ (xs.flatMap ys).length ≤ sizeLine ∧ Mp (fun _ => none) ∧
      (∀ D C h₁ tk, (∀ p ∈ n, p.1 < D) → env.locals < D → D < C → ∀ a ∈ xs, TurnOk prog w A (compEnvC scope cl C env) h₀ f ys target elt ifs D n0 n Mp { s₂ with heap := h₁, toks := tk } a) ∧
      (∀ D h' tk' ws pre, Fr h₀ env.locals h' m → News h₀ env.locals h' ((D, lst ws) :: (pre ++ n)) → (∀ p ∈ pre, ∀ q ∈ (D, lst []) :: n, q.1 < p.1) → (∀ p ∈ n, p.1 < D) → DatAll (pre ++ n0) ws (xs.flatMap ys) → Q (.ref D) { s₂ with heap := h', toks := tk' })) E s₁) E s)
    (hs : ∀ x, foldedSetIterable iter env x = pure x := by intro _; rfl) :
    wpAny (model prog w) A (eval (.ListComp elt [⟨target, iter, ifs, 0⟩] scope pos) env) Q E s := by
  refine compList (h₀ := h₀) hclos hcell hkind hnames (wpAny_mono h (fun xv s₁ h₁ => wpAny_mono h₁ (fun it s₂ h₂ => ?_) fun _ _ e => e) fun _ _ e => e) hs
  obtain ⟨I, fp, cls, xs, m, n, n0, keep, rfl, S, F, N, lI, hLI, hk, hI0, hfp, hsz, hM, step, fin⟩ := h₂
  refine ⟨I, fp, cls, xs.map f, m, n, rfl, S, F, N, ?_⟩
  intro D C oL h₁ tk F1 N1 hNs S1 lD lC ln old
  obtain ⟨oI, hoI⟩ := S.at
  have hID := (old I oI hoI).2
  refine loopL (α := α) (f := f) (ys := ys) (ws0 := []) (n0 := n0) (nA := n) (nL := (env.locals, oL) :: n) (keep := keep) (Mp := Mp) (by rfl) (by rfl) hi xs S1 F1 N1 hM (fun p hp => .tail _ hp) ?nD ?nI (fun p hp => .tail _ (hk p hp)) hI0 (Nat.ne_of_lt (Nat.lt_trans hID lC)) hfp (by simpa using hsz) (fun a ha => step D C h₁ tk ln lD lC a ha) ?done
  case nD =>
    intro p hp
    rcases List.mem_cons.mp hp with rfl | hp
    · exact Nat.ne_of_lt lD
    · exact Nat.ne_of_lt (ln p hp)
  case nI =>
    intro p hp
    rcases List.mem_cons.mp hp with rfl | hp
    · exact Nat.ne_of_gt hID
    · rcases List.mem_cons.mp hp with rfl | hp
      · exact hLI
      · exact Nat.ne_of_lt (lI p hp)
  case done =>
    intro h' tk' m' ws pre _ F' N' hpre hD
    refine ⟨rfl, lst ([] ++ ws), pre ++ n, h', tk', m', rfl, F', fun p hp => N' p ?_, ?_, fun h'' tk'' F2 N2 => ?_⟩
    · simp only [List.mem_cons, List.mem_append] at hp ⊢
      rcases hp with e | e | e | e <;> simp [e]
    · intro p hp
      rcases List.mem_append.mp hp with hp | hp
      · exact Nat.ne_of_gt (hpre p hp (env.locals, oL) (.tail _ (.head _)))
      · exact (N p hp).2.1
    · exact fin D h'' tk'' ws pre F2 N2 (fun p hp q hq => hpre p hp q (by
        rcases List.mem_cons.mp hq with rfl | hq
        · exact .head _
        · exact .tail _ (.tail _ hq))) ln hD
theorem ncomp {α : Type} {f : α → Itm} {ys : α → List Dat} {elt target iter target' iter' : Expr} {ifs ifs' : List Expr} {scope : Scope} {cl : List (Str × Addr)} {pos spos py : Pos} {y : Str} {Mp : (Str → Option Value) → Prop} {Q : Flow → Shared → Prop} {E : Value → Shared → Prop}
    (hsw : swapsWith (.ListComp elt [⟨target, iter, ifs, 0⟩, ⟨target', iter', ifs', 0⟩] scope pos) (some (.Name y py)) spos.line env = pure true) (hy : env.kindOf y = some .local) (hp : (env.scope.kind == .class || (env.scope.kind == .module && env.locals != env.globals)) = false)
    (hclos : closureFor scope env = pure cl) (hcell : ∀ y ∈ scope.names, y.2 ≠ .cell) (hkind : scope.kind = .function) (hnames : ∀ y ∈ scope.names, y.2 = .local → scope.names.lookup y.1 = some .local) (hi : ifs.length ≤ 1)
    (h : wpAny (model prog w) A (eval iter env) (fun xv s₁ => wpAny (model prog w) A (pyIter xv) (fun it s₂ => ∃ (I : Addr) (fp : List Addr) (cls : String) (xs : List α) (m : Str → Option Value) (n n0 keep : List (Addr × Obj)), it = .ref I ∧ Src prog w A target I fp cls (xs.map f) s₂.heap ∧ Fr h₀ env.locals s₂.heap m ∧ News h₀ env.locals s₂.heap n ∧
      (∀ p ∈ n, p.1 < I) ∧ env.locals ≠ I ∧ (∀ p ∈ keep, p ∈ n) ∧ h₀.get? I = none ∧ (∀ b ∈ fp, b = I ∨ (∃ o, (b, o) ∈ keep) ∨ ∃ o, h₀.get? b = some o) ∧ (xs.flatMap ys).length ≤ sizeLine ∧ Mp (fun _ => none) ∧
      (∀ D C h₁ tk, (∀ p ∈ n, p.1 < D) → env.locals < D → D < C → ∀ a ∈ xs, TurnOkN prog w A (compEnvC scope cl C env) h₀ f ys target (.ListComp elt [⟨target, iter, ifs, 0⟩, ⟨target', iter', ifs', 0⟩] scope pos) iter' 0 ifs D n0 n Mp { s₂ with heap := h₁, toks := tk } (xs.flatMap ys).length a) ∧
      (∀ D h' tk' ws pre, Fr h₀ env.locals h' (fun z => if z = y then some (.ref D) else m z) → News h₀ env.locals h' ((D, lst ws) :: (pre ++ n)) → (∀ p ∈ pre, ∀ q ∈ (D, lst []) :: n, q.1 < p.1) → (∀ p ∈ n, p.1 < D) → DatAll (pre ++ n0) ws (xs.flatMap ys) → Q .next { s₂ with heap := h', toks := tk' })) E s₁) E s)
    (hs2 : ∀ C x, foldedSetIterable iter' (compEnvC scope cl C env) x = pure x := by intro _ _; rfl)
    (hs : ∀ x, foldedSetIterable iter env x = pure x := by intro _; rfl) :
    wpAny (model prog w) A (exec (.Assign [.Name y py] (.ListComp elt [⟨target, iter, ifs, 0⟩, ⟨target', iter', ifs', 0⟩] scope pos) spos) env) Q E s := by
  refine compUse (h₀ := h₀) hsw hclos hcell hkind hnames (wpAny_mono h (fun xv s₁ h₁ => wpAny_mono h₁ (fun it s₂ h₂ => ?_) fun _ _ e => e) fun _ _ e => e) hs
  obtain ⟨I, fp, cls, xs, m, n, n0, keep, rfl, S, F, N, lI, hLI, hk, hI0, hfp, hsz, hM, step, fin⟩ := h₂
  refine ⟨I, fp, cls, xs.map f, m, n, rfl, S, F, N, ?_⟩
  intro D C oL h₁ tk F1 N1 hNs S1 lD lC ln old
  obtain ⟨oI, hoI⟩ := S.at
  have hID := (old I oI hoI).2
  refine loopN (α := α) (f := f) (ys := ys) (ws0 := []) (n0 := n0) (nA := n) (nL := (env.locals, oL) :: n) (keep := keep) (Mp := Mp) (by rfl) (by rfl) hi (hs2 C) xs S1 F1 N1 hM (fun p hp => .tail _ hp) ?nD ?nI (fun p hp => .tail _ (hk p hp)) hI0 (Nat.ne_of_lt (Nat.lt_trans hID lC)) hfp (by simpa using hsz) (fun a ha => by have := step D C h₁ tk ln lD lC a ha; simpa using this) ?done
  case nD =>
    intro p hp
    rcases List.mem_cons.mp hp with rfl | hp
    · exact Nat.ne_of_lt lD
    · exact Nat.ne_of_lt (ln p hp)
  case nI =>
    intro p hp
    rcases List.mem_cons.mp hp with rfl | hp
    · exact Nat.ne_of_gt hID
    · rcases List.mem_cons.mp hp with rfl | hp
      · exact hLI
      · exact Nat.ne_of_lt (lI p hp)
  case done =>
    intro h' tk' m' ws pre _ F' N' hpre hD
    refine ⟨rfl, lst ([] ++ ws), pre ++ n, h', tk', m', rfl, F', fun p hp => N' p ?_, ?_, fun oC h'' tk'' F2 N2 => ?_⟩
    · simp only [List.mem_cons, List.mem_append] at hp ⊢
      rcases hp with e | e | e | e <;> simp [e]
    · intro p hp
      rcases List.mem_append.mp hp with hp | hp
      · exact Nat.ne_of_gt (hpre p hp (env.locals, oL) (.tail _ (.head _)))
      · exact (N p hp).2.1
    · refine asg1 F2 N2 hy hp ?_
      intro h3 tk3 F3 N3
      refine ⟨h3, _, _, (D, lst ([] ++ ws)) :: (pre ++ n), rfl, F3, N3, fun p hp => ?_, fun h4 tk4 F4 N4 => fin D h4 tk4 ws pre F4 N4 (fun p hp q hq => hpre p hp q (by
        rcases List.mem_cons.mp hq with rfl | hq
        · exact .head _
        · exact .tail _ (.tail _ hq))) ln hD⟩
      have h1 := (N' p (by
        simp only [List.mem_cons, List.mem_append] at hp ⊢
        rcases hp with e | e | e <;> simp [e])).2.1
      exact h1
/-- the inner clause of a block with two -/
theorem innerL {β : Type} {f : β → Itm} {ys : β → List Dat} {elt target iter iter' : Expr} {ifs : List Expr} {gens : List Comprehension} {scope : Scope} {pos : Pos} {depth : Nat} {D : Addr} {ws : List Value} {n0 nA nn keep : List (Addr × Obj)} {Mp : (Str → Option Value) → Prop} {G : Shared → Prop} {E : Value → Shared → Prop}
    (hg : gens[depth + 1]? = some ⟨target, iter, ifs, 0⟩) (hn : gens[depth + 1 + 1]? = none) (hi : ifs.length ≤ 1) (hnD : ∀ p ∈ nn, p.1 ≠ D) (hs0 : ∀ p ∈ nA, p ∈ nn) (hk : ∀ p ∈ keep, p ∈ nn)
    (h : wpAny (model prog w) A (eval iter' env) (fun xv s₁ => wpAny (model prog w) A (pyIter xv) (fun it s₂ => ∃ (I : Addr) (fp : List Addr) (cls : String) (xs : List β) (m : Str → Option Value), it = .ref I ∧ Src prog w A target I fp cls (xs.map f) s₂.heap ∧ Fr h₀ env.locals s₂.heap m ∧ News h₀ env.locals s₂.heap ((D, lst ws) :: nn) ∧
      (∀ p ∈ (D, lst ws) :: nn, p.1 < I) ∧ env.locals ≠ I ∧ h₀.get? I = none ∧ (∀ b ∈ fp, b = I ∨ (∃ o, (b, o) ∈ keep) ∨ ∃ o, h₀.get? b = some o) ∧ ws.length + (xs.flatMap ys).length ≤ sizeLine ∧ Mp m ∧
      (∀ a ∈ xs, TurnOk prog w A env h₀ f ys target elt ifs D n0 nA Mp s₂ a) ∧
      (∀ h' tk' m' ws' pre, Mp m' → Fr h₀ env.locals h' m' → News h₀ env.locals h' ((D, lst (ws ++ ws')) :: (pre ++ nn)) → (∀ p ∈ pre, ∀ q ∈ (D, lst ws) :: nn, q.1 < p.1) → DatAll (pre ++ n0) ws' (xs.flatMap ys) → G { s₂ with heap := h', toks := tk' })) E s₁) E s)
    (hu : ∀ I, A.under (.compLoop (.ListComp elt gens scope pos) (depth + 1) (.ref I) (.ref D) env) = A := by intro _; rfl)
    (hden : ∀ I, (model prog w).den (.compLoop (.ListComp elt gens scope pos) (depth + 1) (.ref I) (.ref D) env) = (compTurn (.ListComp elt gens scope pos) (depth + 1) (.ref I) (.ref D) env).onRaise (fun x => do noteFrame x env; theTreesLotGoes x) := by intro _; rfl) :
    nextClause prog w A (.ListComp elt gens scope pos) iter' depth (.ref D) env G E s := by
  refine nextC hg (wpAny_mono h (fun xv s₁ h₁ => wpAny_mono h₁ (fun it s₂ h₂ => ?_) fun _ _ e => e) fun _ _ e => e)
  obtain ⟨I, fp, cls, xs, m, rfl, S, F, N, lI, hLI, hI0, hfp, hsz, hM, step, fin⟩ := h₂
  refine ⟨I, fp, cls, xs.map f, rfl, S, fun tk => ?_⟩
  exact loopL (s := { s₂ with toks := tk }) (α := β) (f := f) (ys := ys) (ws0 := ws) (n0 := n0) (nA := nA) (nL := nn) (keep := keep) (Mp := Mp) hg hn hi xs S F N hM hs0 hnD (fun p hp => Nat.ne_of_lt (lI p hp)) hk hI0 (Ne.symm hLI) hfp hsz step (fun h' tk' m' ws' pre hM' F' N' o D => ⟨rfl, fin h' tk' m' ws' pre hM' F' N' o D⟩) (hu I) (hden I)
end
end Mine
end
section
open PySem PySem.W PyProof.Rows
set_option Elab.async false
set_option maxRecDepth 100000
set_option maxHeartbeats 8000000
namespace Mine
def forBody : Stmt → List Stmt
  | .For _ _ b _ _ => b
  | _ => []
noncomputable def lawScope : Scope := (by
  refine (fun (k : Scope) (_ : dScope (dTop 15) = k) => k) ?k ?h
  case h => dsimp only [dTop, dIn, nth, clsBody, dArgs, dBody, dScope, docOf, forBody, Challenge.pw_in0007_01]; exact rfl)
noncomputable def law0 : Stmt := (by
  refine (fun (k : Stmt) (_ : nth (dBody (dTop 15)) 0 = k) => k) ?k ?h
  case h => dsimp only [dTop, dIn, nth, clsBody, dArgs, dBody, dScope, docOf, forBody, Challenge.pw_in0007_01]; exact rfl)
noncomputable def law1 : Stmt := (by
  refine (fun (k : Stmt) (_ : nth (dBody (dTop 15)) 1 = k) => k) ?k ?h
  case h => dsimp only [dTop, dIn, nth, clsBody, dArgs, dBody, dScope, docOf, forBody, Challenge.pw_in0007_01]; exact rfl)
noncomputable def law2 : Stmt := (by
  refine (fun (k : Stmt) (_ : nth (dBody (dTop 15)) 2 = k) => k) ?k ?h
  case h => dsimp only [dTop, dIn, nth, clsBody, dArgs, dBody, dScope, docOf, forBody, Challenge.pw_in0007_01]; exact rfl)
noncomputable def law3 : Stmt := (by
  refine (fun (k : Stmt) (_ : nth (dBody (dTop 15)) 3 = k) => k) ?k ?h
  case h => dsimp only [dTop, dIn, nth, clsBody, dArgs, dBody, dScope, docOf, forBody, Challenge.pw_in0007_01]; exact rfl)
noncomputable def law4 : Stmt := (by
  refine (fun (k : Stmt) (_ : nth (dBody (dTop 15)) 4 = k) => k) ?k ?h
  case h => dsimp only [dTop, dIn, nth, clsBody, dArgs, dBody, dScope, docOf, forBody, Challenge.pw_in0007_01]; exact rfl)
noncomputable def law5 : Stmt := (by
  refine (fun (k : Stmt) (_ : nth (dBody (dTop 15)) 5 = k) => k) ?k ?h
  case h => dsimp only [dTop, dIn, nth, clsBody, dArgs, dBody, dScope, docOf, forBody, Challenge.pw_in0007_01]; exact rfl)
noncomputable def law6 : Stmt := (by
  refine (fun (k : Stmt) (_ : nth (dBody (dTop 15)) 6 = k) => k) ?k ?h
  case h => dsimp only [dTop, dIn, nth, clsBody, dArgs, dBody, dScope, docOf, forBody, Challenge.pw_in0007_01]; exact rfl)
noncomputable def law7 : Stmt := (by
  refine (fun (k : Stmt) (_ : nth (dBody (dTop 15)) 7 = k) => k) ?k ?h
  case h => dsimp only [dTop, dIn, nth, clsBody, dArgs, dBody, dScope, docOf, forBody, Challenge.pw_in0007_01]; exact rfl)
noncomputable def law9 : Stmt := (by
  refine (fun (k : Stmt) (_ : nth (dBody (dTop 15)) 9 = k) => k) ?k ?h
  case h => dsimp only [dTop, dIn, nth, clsBody, dArgs, dBody, dScope, docOf, forBody, Challenge.pw_in0007_01]; exact rfl)
noncomputable def law10 : Stmt := (by
  refine (fun (k : Stmt) (_ : nth (dBody (dTop 15)) 10 = k) => k) ?k ?h
  case h => dsimp only [dTop, dIn, nth, clsBody, dArgs, dBody, dScope, docOf, forBody, Challenge.pw_in0007_01]; exact rfl)
noncomputable def law11 : Stmt := (by
  refine (fun (k : Stmt) (_ : nth (dBody (dTop 15)) 11 = k) => k) ?k ?h
  case h => dsimp only [dTop, dIn, nth, clsBody, dArgs, dBody, dScope, docOf, forBody, Challenge.pw_in0007_01]; exact rfl)
noncomputable def law13 : Stmt := (by
  refine (fun (k : Stmt) (_ : nth (dBody (dTop 15)) 13 = k) => k) ?k ?h
  case h => dsimp only [dTop, dIn, nth, clsBody, dArgs, dBody, dScope, docOf, forBody, Challenge.pw_in0007_01]; exact rfl)
noncomputable def lawF0 : Stmt := (by
  refine (fun (k : Stmt) (_ : nth (forBody (nth (dBody (dTop 15)) 8)) 0 = k) => k) ?k ?h
  case h => dsimp only [dTop, dIn, nth, clsBody, dArgs, dBody, dScope, docOf, forBody, Challenge.pw_in0007_01]; exact rfl)
noncomputable def lawF1 : Stmt := (by
  refine (fun (k : Stmt) (_ : nth (forBody (nth (dBody (dTop 15)) 8)) 1 = k) => k) ?k ?h
  case h => dsimp only [dTop, dIn, nth, clsBody, dArgs, dBody, dScope, docOf, forBody, Challenge.pw_in0007_01]; exact rfl)
noncomputable def lawF2 : Stmt := (by
  refine (fun (k : Stmt) (_ : nth (forBody (nth (dBody (dTop 15)) 8)) 2 = k) => k) ?k ?h
  case h => dsimp only [dTop, dIn, nth, clsBody, dArgs, dBody, dScope, docOf, forBody, Challenge.pw_in0007_01]; exact rfl)
noncomputable def lawG0 : Stmt := (by
  refine (fun (k : Stmt) (_ : nth (forBody (nth (dBody (dTop 15)) 12)) 0 = k) => k) ?k ?h
  case h => dsimp only [dTop, dIn, nth, clsBody, dArgs, dBody, dScope, docOf, forBody, Challenge.pw_in0007_01]; exact rfl)
def forOf : Stmt → List Stmt → Stmt
  | .For t i _ o p, b => .For t i b o p
  | s, _ => s
noncomputable def law8 : Stmt := (by
  refine (fun (k : Stmt) (_ : forOf (nth (dBody (dTop 15)) 8) [lawF0, lawF1, lawF2] = k) => k) ?k ?h
  case h => dsimp only [forOf, dTop, dIn, nth, clsBody, dArgs, dBody, dScope, docOf, forBody, Challenge.pw_in0007_01]; exact rfl)
noncomputable def law12 : Stmt := (by
  refine (fun (k : Stmt) (_ : forOf (nth (dBody (dTop 15)) 12) [lawG0] = k) => k) ?k ?h
  case h => dsimp only [forOf, dTop, dIn, nth, clsBody, dArgs, dBody, dScope, docOf, forBody, Challenge.pw_in0007_01]; exact rfl)
end Mine
end
section
open PySem PySem.W PyProof.Rows PySem.Calls PyProof.Rows.LCg
set_option Elab.async false
set_option maxRecDepth 100000
set_option maxHeartbeats 4000000
namespace Mine
theorem warmLA : (fun (_ : Params → Frag) (_ : OpenLaw) => True) KF Challenge.rw_in0007_01 := by
  k_fill
  trivial
local macro_rules | `(tactic| k_room) => `(tactic| ktr_room)
local macro_rules | `(tactic| k_units) => `(tactic| ktr_units)
abbrev lawCl (L : Addr) : List (Str × Addr) := [(Str.ofString "name", L + 4), (Str.ofString "calls", L + 3), (Str.ofString "callees", L + 2), (Str.ofString "callers", L + 1)]
noncomputable abbrev lawEnv (L fa : Addr) (cd : Value) : Env := envX (Str.ofString "law") lawScope L fa cd (lawCl L)
noncomputable abbrev lawTop (gd : Option (List Code)) (L fa : Addr) (cd : Value) (outer : List Env) : Around := ktrTop (nat_lit 302) (nat_lit 7) gd (Str.ofString "law") lawScope L fa cd (lawCl L) outer
abbrev LN (L : Addr) (o1 o2 o3 o4 : Obj) (rest : List (Addr × Obj)) : List (Addr × Obj) := (L + 4, o4) :: (L + 3, o3) :: (L + 2, o2) :: (L + 1, o1) :: rest
def Off (L : Addr) (rest : List (Addr × Obj)) : Prop := ∀ p ∈ rest, (∀ a : Nat, 1 ≤ a → a ≤ 4 → p.1 ≠ L + a) ∨ L + 4 < p.1
def strTup (xs : List Str) (T : Addr) (n : List (Addr × Obj)) : Prop := ∃ vs, (T, ({ cls := .type "tuple", data := .seq vs.toArray } : Obj)) ∈ n ∧ StrsAre vs xs
def pick (l : List Str) (i : Int) : Str := l.getD i.toNat (Str.ofString "")
def callerL : List Str := [Str.ofString "main", Str.ofString "f", Str.ofString "g h", Str.ofString "k"]
def calleeL : List Str := [Str.ofString "f", Str.ofString "g h", Str.ofString "k", Str.ofString "x = y"]
def mkC (i : Int) : Str × Str × Int := (pick callerL (i.fmod 4), pick calleeL ((i.fdiv 4).fmod 4), (i.fdiv 16).fmod 199 - 99)
def ysA : Value → List Dat
  | .int i _ => [.tuple [.str (mkC i).1, .str (mkC i).2.1, .int (mkC i).2.2]]
  | _ => []
theorem strs_get : ∀ {vs : List Value} {l : List Str}, StrsAre vs l → ∀ (j : Nat), j < l.length → ∃ x, vs[j]? = some (.str (l.getD j (Str.ofString "")) x)
  | _, _, .nil, j, h => absurd h (Nat.not_lt_zero _)
  | _, _, .cons y t r, 0, _ => ⟨t, rfl⟩
  | _, _, .cons y t r, j + 1, h => by
    obtain ⟨x, e⟩ := strs_get r j (Nat.lt_of_succ_lt_succ h)
    exact ⟨x, e⟩
theorem pick_at {vs : List Value} {l : List Str} {i : Int} (h : StrsAre vs l) (h0 : 0 ≤ i) (h1 : i < l.length) : ∃ j x, seqIndex? i vs.length = some j ∧ vs[j]? = some (.str (pick l i) x) := by
  have e : vs.length = l.length := h.len_eq
  obtain ⟨x, hx⟩ := strs_get h i.toNat (by omega)
  have h2 : ¬ i < 0 := by omega
  have h3 : i < (vs.length : Int) := by rw [e]; exact h1
  exact ⟨i.toNat, x, by simp [seqIndex?, h2, h0, h3], hx⟩
theorem offNe (L : Nat) {a b : Nat} (h : a ≠ b) : L + a ≠ L + b := fun e => h (Nat.add_left_cancel e)
theorem Off.ne {L : Addr} {rest : List (Addr × Obj)} (O : Off L rest) {p : Addr × Obj} (hp : p ∈ rest) {a : Nat} (ha : 1 ≤ a) (hb : a ≤ 4) : p.1 ≠ L + a := by
  intro e
  rcases O p hp with h | h
  · exact h a ha hb e
  · rw [e] at h; exact absurd (Nat.lt_of_add_lt_add_left h) (Nat.not_lt.mpr hb)
theorem ysA_flat : ∀ {ws : List Value} {ks : List Int}, IntsAre ws ks → ws.flatMap ysA = ks.map fun i => .tuple [.str (mkC i).1, .str (mkC i).2.1, .int (mkC i).2.2]
  | _, _, .nil => rfl
  | _, _, .cons a t r => by rw [List.flatMap_cons, ysA_flat r]; rfl
theorem ysA_int : ∀ {ws : List Value} {ks : List Int}, IntsAre ws ks → ∀ a ∈ ws, ∃ k u, a = .int k u
  | _, _, .nil, a, h => by cases h
  | _, _, .cons a t r, b, h => by
    rcases List.mem_cons.mp h with rfl | h
    · exact ⟨_, _, rfl⟩
    · exact ysA_int r b h
theorem unputF {h₀ h : Heap} {L : Addr} {m : Str → Option Value} {x : Str} {v : Value} (F : Fr h₀ L h (fun y => if y = x then some v else m y)) (e : m x = some v) : Fr h₀ L h m := by
  have : (fun y => if y = x then some v else m y) = m := by
    funext y
    by_cases hy : y = x
    · simp [hy, e]
    · simp [hy]
  rw [this] at F; exact F
theorem seg2 {w : World} {p : Program} {loose : List Str} {mean : ExcName → Option Value} {mg mb : Str → Option Value} {gd : Option (List Code)} {fa : Addr} {cd : Value} {outer : List Env} {A₀ : Around} {base h₀ : Heap} {L : Addr} {m : Str → Option Value} {o1 o2 o3 o4 : Obj} {rest : List (Addr × Obj)} {s : Shared} {Q : Flow → Shared → Prop} {E : Value → Shared → Prop}
    {sc T1 T2 : Addr} {vs : List Value} {ns : List Int}
    (B : Below A₀ base outer h₀) (F : Fr h₀ L s.heap m) (X : (KF w.params).In h₀) (N : News h₀ L s.heap (LN L o1 o2 o3 o4 rest)) (T : Top p loose mean mg mb h₀) (O : Off L rest)
    (t1 : strTup callerL T1 rest) (t2 : strTup calleeL T2 rest)
    (c1 : o1.data = .cell (some (.ref T1))) (c2 : o2.data = .cell (some (.ref T2))) (c3 : ∃ v, o3.data = .cell v)
    (hs : h₀.IsList sc vs.toArray) (hi : IntsAre vs ns) (hl : ns.length ≤ 63) (hm : m (Str.ofString "script") = some (.ref sc))
    (ret : ∀ D ws pre h' tk' o3', Fr h₀ L h' m → News h₀ L h' (LN L o1 o2 o3' o4 ((D, lst ws) :: (pre ++ rest))) → o3'.data = .cell (some (.ref D)) → Off L ((D, lst ws) :: (pre ++ rest)) → DatAll (pre ++ rest) ws ((ns.take 6).map fun i => .tuple [.str (mkC i).1, .str (mkC i).2.1, .int (mkC i).2.2]) → Q .next { s with heap := h', toks := tk' }) :
    wpAny (model pw w) (lawTop gd L fa cd outer) (exec law2 (lawEnv L fa cd)) Q E s := by
  obtain ⟨hS0, gS0, dS0, tS0, oS0⟩ := s
  unfold law2
  dsimp only [lawTop, lawEnv, lawScope, lawCl, LN] at *
  have F := putF F hm
  refine wpAny_Assign_Name ?_
  refine lcomp (h₀ := h₀) (α := Value) (f := Itm.val) (ys := ysA) (Mp := fun _ => True) (cl := [(Str.ofString "callers", L + 1), (Str.ofString "callees", L + 2)]) ?hclos (by decide) (by rfl) (by decide) (by decide) ?_
  case hclos => with_unfolding_all rfl
  k_steps
  rename Fr _ _ _ _ => F1
  rename News _ _ _ _ => N1
  rename_i D1 ws h1 hI1 hC1 hL1 l1
  dsimp only []
  refine srcList (by rfl) F1 N1 (.head _) rfl rfl ?_
  intro I h2 F2 N2 lI lL hI0 S2
  refine ⟨I, _, _, ws, _, _, [], [(D1, W.listOf ws.toArray 0)], rfl, S2 _, F2, N2, lI, Nat.ne_of_lt lL, ?kp, hI0, ?fp, ?sz, trivial, ?step, ?fin⟩
  case kp => intro p hp; rw [List.mem_singleton.mp hp]; exact .head _
  case fp =>
    intro b hb
    rcases List.mem_cons.mp hb with rfl | hb
    · exact .inl rfl
    · rw [List.mem_singleton.mp hb]; exact .inr (.inl ⟨_, .head _⟩)
  case sz => rw [ysA_flat hI1, List.length_map, sizeLine_eq]; omega
  case step =>
    intro D C h3 tk3 ln lD lC a ha E2 Kp v h tk m2 nn hv _ Fc Nc hsub hadd hskip
    obtain ⟨k, u, rfl⟩ := ysA_int hI1 a ha
    cases hv
    refine asg1 Fc Nc (by rfl) (by rfl) ?_
    intro h4 tk4 F4 N4
    unfold bodyL afterTests
    dsimp only []
    have m1 : ∀ p ∈ LN L o1 o2 o3 o4 rest, p ∈ nn := fun p hp => hsub p (.tail _ hp)
    have e0 : (0:Int) ≤ k.fmod 4 := Int.fmod_nonneg_of_pos _ (by decide)
    have e1 : k.fmod 4 < 4 := Int.fmod_lt_of_pos _ (by decide)
    have f0 : (0:Int) ≤ (k.fdiv 4).fmod 4 := Int.fmod_nonneg_of_pos _ (by decide)
    have f1 : (k.fdiv 4).fmod 4 < 4 := Int.fmod_lt_of_pos _ (by decide)
    obtain ⟨va, hva, hsa⟩ := t1
    obtain ⟨vb, hvb, hsb⟩ := t2
    obtain ⟨j1, x1, p1, q1⟩ := pick_at hsa e0 e1
    obtain ⟨j2, x2, p2, q2⟩ := pick_at hsb f0 f1
    have tA : IsTup h4 T1 va.toArray := ⟨_, (N4 _ (m1 _ (.tail _ (.tail _ (.tail _ (.tail _ hva)))))).1, rfl, _, rfl⟩
    have tB : IsTup h4 T2 vb.toArray := ⟨_, (N4 _ (m1 _ (.tail _ (.tail _ (.tail _ (.tail _ hvb)))))).1, rfl, _, rfl⟩
    refine Tuple_ ?_
    refine spliced_cons ?_
    refine Subscript_ ?_
    refine lcf_cell N4 (by rfl) (m1 _ (.tail _ (.tail _ (.tail _ (.head _))))) c1 ?_ (by rfl) (by rfl)
    refine wpAny_BinOp ?_
    refine cn_own F4 (by rfl) ?_
    refine wpAny_Constant_int ?_
    refine mod_int' (by decide) ?_
    refine item_tupleL tA (by omega) (by omega) p1 q1 ?_
    refine spliced_cons ?_
    refine Subscript_ ?_
    refine lcf_cell N4 (by rfl) (m1 _ (.tail _ (.tail _ (.head _)))) c2 ?_ (by rfl) (by rfl)
    refine wpAny_BinOp ?_
    refine wpAny_BinOp ?_
    refine cn_own F4 (by rfl) ?_
    refine wpAny_Constant_int ?_
    refine floordiv_int (by decide) ?_
    refine wpAny_Constant_int ?_
    refine mod_int' (by decide) ?_
    refine item_tupleL tB (by omega) (by omega) p2 q2 ?_
    refine spliced_cons ?_
    refine wpAny_BinOp ?_
    refine wpAny_BinOp ?_
    refine wpAny_BinOp ?_
    refine cn_own F4 (by rfl) ?_
    refine wpAny_Constant_int ?_
    refine floordiv_int (by decide) ?_
    refine wpAny_Constant_int ?_
    refine mod_int' (by decide) ?_
    refine wpAny_Constant_int ?_
    refine sub_int ?_
    refine spliced_nil ?_
    refine newTuple_N F4 N4 ?_
    intro h5 F5 N5
    dsimp only []
    dsimp only at F5 N5
    refine hadd _ _ _ _ [_] trivial F5 N5 (fun p hp q hq => by rw [List.mem_singleton.mp hp]; exact Heap.lt_size (N4 q hq).1) ?_
    exact .one (.tuple (.head _) (.cons (.str _ _) (.cons (.str _ _) (.cons (.int _ _) .nil))))
  case fin =>
    intro D h' tk' ws2 pre F3 N3 hpre ln hD
    rw [ysA_flat hI1] at hD
    have hLD : L + 4 < D := ln (L + 4, o4) (.tail _ (.head _))
    have hp4 : ∀ p ∈ pre, L + 4 < p.1 := fun p hp => hpre p hp (L + 4, o4) (.tail _ (.tail _ (.head _)))
    have N4 : News h₀ L h' ((L + 3, o3) :: (L + 4, o4) :: (L + 2, o2) :: (L + 1, o1) :: (D, lst ws2) :: (pre ++ ((D1, W.listOf ws.toArray 0) :: rest))) := fun p hp => N3 p (by
      simp only [List.mem_cons, List.mem_append] at hp ⊢
      rcases hp with e | e | e | e | e | e | e | e <;> simp [e])
    have hD1 : L + 4 < D1 := l1.1
    obtain ⟨v3, c3⟩ := c3
    have O2 : Off L ((D, lst ws2) :: (pre ++ (D1, W.listOf ws.toArray 0) :: rest)) := by
      intro p hp
      simp only [List.mem_cons, List.mem_append] at hp
      rcases hp with rfl | hp | rfl | hp
      · exact .inr hLD
      · exact .inr (hp4 p hp)
      · exact .inr hD1
      · exact O p hp
    k_dflt (refine' storeX_C F3 N4 ?c (UpdF.head ?ne) c3 ?_ ?a ?b; (case a => rfl); (case b => rfl); (case c => rfl); k_whole)
    case ne =>
      intro p hp
      rcases List.mem_cons.mp hp with rfl | hp
      · exact offNe L (by decide)
      · rcases List.mem_cons.mp hp with rfl | hp
        · exact offNe L (by decide)
        · rcases List.mem_cons.mp hp with rfl | hp
          · exact offNe L (by decide)
          · exact O2.ne hp (by decide) (by decide)
    intro h5 oC5 F5 N5 dC5
    (try dsimp only at N5 dC5 F5)
    refine ret D ws2 (pre ++ [(D1, W.listOf ws.toArray 0)]) _ _ oC5 (unputF F5 hm) (fun p hp => N5 p ?_) dC5 (by rw [List.append_assoc]; exact O2) (hD.mono ?_)
    · simp only [List.mem_cons, List.mem_append, List.not_mem_nil, or_false] at hp ⊢
      rcases hp with e | e | e | e | e | (e | e) | e <;> simp [e]
    · intro p hp; exact List.mem_append_left _ (by simpa using Or.inl hp)
end Mine
end
section
open PySem PySem.W PyProof.Rows PySem.Calls PyProof.Rows.LCg
set_option Elab.async false
set_option maxRecDepth 100000
set_option maxHeartbeats 4000000
namespace Mine
theorem warmLB : (fun (_ : Params → Frag) (_ : OpenLaw) => True) KF Challenge.rw_in0007_01 := by
  k_fill
  trivial
local macro_rules | `(tactic| k_room) => `(tactic| ktr_room)
local macro_rules | `(tactic| k_units) => `(tactic| ktr_units)
theorem seg0 {w : World} {p : Program} {loose : List Str} {mean : ExcName → Option Value} {mg mb : Str → Option Value} {gd : Option (List Code)} {fa : Addr} {cd : Value} {outer : List Env} {A₀ : Around} {base h₀ : Heap} {L : Addr} {m : Str → Option Value} {o1 o2 o3 o4 : Obj} {rest : List (Addr × Obj)} {s : Shared} {Q : Flow → Shared → Prop} {E : Value → Shared → Prop}
    (B : Below A₀ base outer h₀) (F : Fr h₀ L s.heap m) (X : (KF w.params).In h₀) (N : News h₀ L s.heap (LN L o1 o2 o3 o4 rest)) (T : Top p loose mean mg mb h₀) (O : Off L rest)
    (cc : ∃ v, o1.data = .cell v)
    (ret : ∀ T1 h' tk' oc rest', Fr h₀ L h' m → News h₀ L h' (LN L oc o2 o3 o4 rest') → (∀ p ∈ rest, p ∈ rest') → oc.data = .cell (some (.ref T1)) → Off L rest' → strTup callerL T1 rest' → Q .next { s with heap := h', toks := tk' }) :
    wpAny (model pw w) (lawTop gd L fa cd outer) (exec law0 (lawEnv L fa cd)) Q E s := by
  obtain ⟨hS0, gS0, dS0, tS0, oS0⟩ := s
  unfold law0
  dsimp only [lawTop, lawEnv, lawScope, lawCl, LN] at *
  k_steps
  rename Fr _ _ _ _ => F1
  rename News _ _ _ _ => N1
  rename_i T1 h1 l1
  dsimp only [] at l1 ⊢
  obtain ⟨oT, N1, hoT⟩ : ∃ oT, News h₀ L h1 ((T1, oT) :: LN L o1 o2 o3 o4 rest) ∧ ∃ vs, oT = ({ cls := .type "tuple", data := .seq vs.toArray } : Obj) ∧ StrsAre vs callerL := ⟨_, N1, _, rfl, .cons _ _ (.cons _ _ (.cons _ _ (.cons _ _ .nil)))⟩
  have N2 : News h₀ L h1 ((L + 1, o1) :: (L + 4, o4) :: (L + 3, o3) :: (L + 2, o2) :: (T1, oT) :: rest) := fun p hp => N1 p (by
    simp only [List.mem_cons] at hp ⊢
    rcases hp with e | e | e | e | e | e <;> simp [e])
  have hT : L + 4 < T1 := l1.1
  have O2 : Off L ((T1, oT) :: rest) := by
    intro p hp
    rcases List.mem_cons.mp hp with rfl | hp
    · exact .inr hT
    · exact O p hp
  obtain ⟨v3, c3⟩ := cc
  k_dflt (refine' storeX_C F1 N2 ?c (UpdF.head ?ne) c3 ?_ ?a ?b; (case a => rfl); (case b => rfl); (case c => rfl); k_whole)
  case ne =>
    intro p hp
    rcases List.mem_cons.mp hp with rfl | hp
    · exact offNe L (by decide)
    · rcases List.mem_cons.mp hp with rfl | hp
      · exact offNe L (by decide)
      · rcases List.mem_cons.mp hp with rfl | hp
        · exact offNe L (by decide)
        · exact O2.ne hp (by decide) (by decide)
  intro h5 oC5 F5 N5 dC5
  (try dsimp only at N5 dC5 F5)
  obtain ⟨vs, rfl, hvs⟩ := hoT
  refine ret T1 _ _ oC5 ((T1, _) :: rest) F5 (fun p hp => N5 p ?_) (fun p hp => .tail _ hp) dC5 O2 ⟨_, .head _, hvs⟩
  simp only [List.mem_cons] at hp ⊢
  rcases hp with e | e | e | e | e | e <;> simp [e]
theorem seg1 {w : World} {p : Program} {loose : List Str} {mean : ExcName → Option Value} {mg mb : Str → Option Value} {gd : Option (List Code)} {fa : Addr} {cd : Value} {outer : List Env} {A₀ : Around} {base h₀ : Heap} {L : Addr} {m : Str → Option Value} {o1 o2 o3 o4 : Obj} {rest : List (Addr × Obj)} {s : Shared} {Q : Flow → Shared → Prop} {E : Value → Shared → Prop}
    (B : Below A₀ base outer h₀) (F : Fr h₀ L s.heap m) (X : (KF w.params).In h₀) (N : News h₀ L s.heap (LN L o1 o2 o3 o4 rest)) (T : Top p loose mean mg mb h₀) (O : Off L rest)
    (cc : ∃ v, o2.data = .cell v)
    (ret : ∀ T1 h' tk' oc rest', Fr h₀ L h' m → News h₀ L h' (LN L o1 oc o3 o4 rest') → (∀ p ∈ rest, p ∈ rest') → oc.data = .cell (some (.ref T1)) → Off L rest' → strTup calleeL T1 rest' → Q .next { s with heap := h', toks := tk' }) :
    wpAny (model pw w) (lawTop gd L fa cd outer) (exec law1 (lawEnv L fa cd)) Q E s := by
  obtain ⟨hS0, gS0, dS0, tS0, oS0⟩ := s
  unfold law1
  dsimp only [lawTop, lawEnv, lawScope, lawCl, LN] at *
  k_steps
  rename Fr _ _ _ _ => F1
  rename News _ _ _ _ => N1
  rename_i T1 h1 l1
  dsimp only [] at l1 ⊢
  obtain ⟨oT, N1, hoT⟩ : ∃ oT, News h₀ L h1 ((T1, oT) :: LN L o1 o2 o3 o4 rest) ∧ ∃ vs, oT = ({ cls := .type "tuple", data := .seq vs.toArray } : Obj) ∧ StrsAre vs calleeL := ⟨_, N1, _, rfl, .cons _ _ (.cons _ _ (.cons _ _ (.cons _ _ .nil)))⟩
  have N2 : News h₀ L h1 ((L + 2, o2) :: (L + 4, o4) :: (L + 3, o3) :: (L + 1, o1) :: (T1, oT) :: rest) := fun p hp => N1 p (by
    simp only [List.mem_cons] at hp ⊢
    rcases hp with e | e | e | e | e | e <;> simp [e])
  have hT : L + 4 < T1 := l1.1
  have O2 : Off L ((T1, oT) :: rest) := by
    intro p hp
    rcases List.mem_cons.mp hp with rfl | hp
    · exact .inr hT
    · exact O p hp
  obtain ⟨v3, c3⟩ := cc
  k_dflt (refine' storeX_C F1 N2 ?c (UpdF.head ?ne) c3 ?_ ?a ?b; (case a => rfl); (case b => rfl); (case c => rfl); k_whole)
  case ne =>
    intro p hp
    rcases List.mem_cons.mp hp with rfl | hp
    · exact offNe L (by decide)
    · rcases List.mem_cons.mp hp with rfl | hp
      · exact offNe L (by decide)
      · rcases List.mem_cons.mp hp with rfl | hp
        · exact offNe L (by decide)
        · exact O2.ne hp (by decide) (by decide)
  intro h5 oC5 F5 N5 dC5
  (try dsimp only at N5 dC5 F5)
  obtain ⟨vs, rfl, hvs⟩ := hoT
  refine ret T1 _ _ oC5 ((T1, _) :: rest) F5 (fun p hp => N5 p ?_) (fun p hp => .tail _ hp) dC5 O2 ⟨_, .head _, hvs⟩
  simp only [List.mem_cons] at hp ⊢
  rcases hp with e | e | e | e | e | e <;> simp [e]
end Mine
end
section
open PySem PySem.W PyProof.Rows PySem.Calls PyProof.Rows.LCg
set_option Elab.async false
set_option maxRecDepth 100000
set_option maxHeartbeats 4000000
namespace Mine
theorem warmLD : (fun (_ : Params → Frag) (_ : OpenLaw) => True) KF Challenge.rw_in0007_01 := by
  k_fill
  trivial
local macro_rules | `(tactic| k_room) => `(tactic| ktr_room)
local macro_rules | `(tactic| k_units) => `(tactic| ktr_units)
local macro_rules | `(tactic| walk_at "binaryOp Add ref ref") => `(tactic| refine Halt.at ?_)
def extraL : List Call := [(Str.ofString "g h", Str.ofString "x = y", 2), (Str.ofString "f", Str.ofString "g h", 3), (Str.ofString "main", Str.ofString "g h", -5), (Str.ofString "main", Str.ofString "f", 7), (Str.ofString "g h", Str.ofString "k", 11)]
def tupOf (b : Obj) (q : Call) : Prop := ∃ x y z, b = ({ cls := .type "tuple", data := .seq [.str q.1 x, .str q.2.1 y, .int q.2.2 z].toArray } : Obj)
theorem seg3 {w : World} {p : Program} {loose : List Str} {mean : ExcName → Option Value} {mg mb : Str → Option Value} {gd : Option (List Code)} {fa : Addr} {cd : Value} {outer : List Env} {A₀ : Around} {base h₀ : Heap} {L : Addr} {m : Str → Option Value} {o1 o2 o3 o4 : Obj} {rest : List (Addr × Obj)} {s : Shared} {Q : Flow → Shared → Prop} {E : Value → Shared → Prop} {D : Addr} {ws : List Value} {cs : List (Str × Str × Int)}
    (B : Below A₀ base outer h₀) (F : Fr h₀ L s.heap m) (X : (KF w.params).In h₀) (N : News h₀ L s.heap (LN L o1 o2 o3 o4 rest)) (T : Top p loose mean mg mb h₀) (O : Off L rest)
    (c3 : o3.data = .cell (some (.ref D))) (hD : (D, lst ws) ∈ rest) (hd : DatAll rest ws (cs.map trD)) (hl : cs.length ≤ 6)
    (ret : ∀ D2 ws2 n2 h' tk' oc rest', Fr h₀ L h' m → News h₀ L h' (LN L o1 o2 oc o4 ((D2, W.listOf ws2.toArray n2) :: rest')) → (∀ p ∈ rest, p ∈ rest') → oc.data = .cell (some (.ref D2)) → Off L ((D2, W.listOf ws2.toArray n2) :: rest') → DatAll rest' ws2 ((cs ++ extraL).map trD) → Q .next { s with heap := h', toks := tk' }) :
    wpAny (model pw w) (lawTop gd L fa cd outer) (exec law3 (lawEnv L fa cd)) Q E s := by
  obtain ⟨hS0, gS0, dS0, tS0, oS0⟩ := s
  unfold law3
  dsimp only [lawTop, lawEnv, lawScope, lawCl, LN] at *
  refine wpAny_Assign_Name ?_
  k_steps
  refine Halt.go ?_
  rename Fr _ _ _ _ => F1
  rename News _ _ _ _ => N1
  rename_i d1 g1 l1 d2 g2 l2 d3 g3 l3 d4 g4 l4 d5 g5 l5 l6 g6 l7
  dsimp only [] at l1 l2 l3 l4 l5 l7 ⊢
  have hwl : ws.length = cs.length := by have := hd.length; rw [List.length_map] at this; exact this
  have gen : ∀ {n : List (Addr × Obj)} {d : Addr} {b : Obj} {q : Call}, tupOf b q → (d, b) ∈ n → DatIn n (.ref d) (trD q) := by
    rintro n d b q ⟨x, y, z, rfl⟩ hm
    exact .tuple hm (.cons (.str _ _) (.cons (.str _ _) (.cons (.int _ _) .nil)))
  obtain ⟨b1, b2, b3, b4, b5, lo, N1, e1, e2, e3, e4, e5, elo⟩ : ∃ b1 b2 b3 b4 b5 lo, News h₀ L g6 ((l6, lo) :: (d5, b5) :: (d4, b4) :: (d3, b3) :: (d2, b2) :: (d1, b1) :: LN L o1 o2 o3 o4 rest) ∧ tupOf b1 (Str.ofString "g h", Str.ofString "x = y", 2) ∧ tupOf b2 (Str.ofString "f", Str.ofString "g h", 3) ∧ tupOf b3 (Str.ofString "main", Str.ofString "g h", -5) ∧ tupOf b4 (Str.ofString "main", Str.ofString "f", 7) ∧ tupOf b5 (Str.ofString "g h", Str.ofString "k", 11) ∧ lo = W.listOf #[Value.ref d1, Value.ref d2, Value.ref d3, Value.ref d4, Value.ref d5] 0 :=
    ⟨_, _, _, _, _, _, N1, ⟨_, _, _, rfl⟩, ⟨_, _, _, rfl⟩, ⟨_, _, _, rfl⟩, ⟨_, _, _, rfl⟩, ⟨_, _, _, rfl⟩, rfl⟩
  subst elo
  have N2 : News h₀ L g6 ((L + 3, o3) :: (L + 4, o4) :: (L + 2, o2) :: (L + 1, o1) :: ([(d5, b5), (d4, b4), (d3, b3), (d2, b2), (d1, b1)] ++ rest)) := fun p hp => N1 p (by
    simp only [List.mem_cons, List.mem_append, List.not_mem_nil, or_false] at hp ⊢
    rcases hp with e | e | e | e | (e | e | e | e | e) | e <;> simp [e])
  have hda : DatAll [(d5, b5), (d4, b4), (d3, b3), (d2, b2), (d1, b1)] [Value.ref d1, Value.ref d2, Value.ref d3, Value.ref d4, Value.ref d5] (extraL.map trD) :=
    .cons (gen e1 (.tail _ (.tail _ (.tail _ (.tail _ (.head _)))))) (.cons (gen e2 (.tail _ (.tail _ (.tail _ (.head _))))) (.cons (gen e3 (.tail _ (.tail _ (.head _)))) (.cons (gen e4 (.tail _ (.head _))) (.cons (gen e5 (.head _)) .nil))))
  have htl : ∀ p ∈ [(d5, b5), (d4, b4), (d3, b3), (d2, b2), (d1, b1)], L + 4 < p.1 := by
    intro p hp
    simp only [List.mem_cons, List.not_mem_nil, or_false] at hp
    rcases hp with rfl | rfl | rfl | rfl | rfl
    · exact l5.2.2.2.2.1
    · exact l4.2.2.2.1
    · exact l3.2.2.1
    · exact l2.2.1
    · exact l1.1
  generalize [(d5, b5), (d4, b4), (d3, b3), (d2, b2), (d1, b1)] = tl at N2 hda htl
  have hl2 : g6.IsList l6 #[Value.ref d1, Value.ref d2, Value.ref d3, Value.ref d4, Value.ref d5] := ⟨_, (N1 _ (.head _)).1, rfl, _, rfl⟩
  have hl1 : g6.IsList D ws.toArray := ⟨_, (N2 _ (.tail _ (.tail _ (.tail _ (.tail _ (List.mem_append_right _ hD)))))).1, rfl, _, rfl⟩
  refine add_lists (ws := [Value.ref d1, Value.ref d2, Value.ref d3, Value.ref d4, Value.ref d5]) F1 N2 hl1 hl2 ?_
  intro g7 F7 N7
  have lD2 : ∀ p ∈ (L + 3, o3) :: (L + 4, o4) :: (L + 2, o2) :: (L + 1, o1) :: (tl ++ rest), p.1 < g6.objs.size := fun p hp => Heap.lt_size (N2 p hp).1
  dsimp only [] at F7 N7 ⊢
  generalize g6.objs.size = D2 at N7 lD2 ⊢
  have N8 : News h₀ L g7 ((L + 3, o3) :: (L + 4, o4) :: (L + 2, o2) :: (L + 1, o1) :: (D2, W.listOf (ws ++ [Value.ref d1, Value.ref d2, Value.ref d3, Value.ref d4, Value.ref d5]).toArray 0) :: (tl ++ rest)) := fun p hp => N7 p (by
    simp only [List.mem_cons, List.mem_append] at hp ⊢
    rcases hp with e | e | e | e | e | e | e <;> simp [e])
  have O2 : Off L ((D2, W.listOf (ws ++ [Value.ref d1, Value.ref d2, Value.ref d3, Value.ref d4, Value.ref d5]).toArray 0) :: (tl ++ rest)) := by
    intro p hp
    rcases List.mem_cons.mp hp with rfl | hp
    · exact .inr (lD2 (L + 4, o4) (.tail _ (.head _)))
    · rcases List.mem_append.mp hp with hp | hp
      · exact .inr (htl p hp)
      · exact O p hp
  k_dflt (refine' storeX_C F7 N8 ?c (UpdF.head ?ne) c3 ?_ ?a ?b; (case a => rfl); (case b => rfl); (case c => rfl); k_whole)
  case ne =>
    intro p hp
    rcases List.mem_cons.mp hp with rfl | hp
    · exact offNe L (by decide)
    · rcases List.mem_cons.mp hp with rfl | hp
      · exact offNe L (by decide)
      · rcases List.mem_cons.mp hp with rfl | hp
        · exact offNe L (by decide)
        · exact O2.ne hp (by decide) (by decide)
  intro h5 oC5 F5 N5 dC5
  (try dsimp only at N5 dC5 F5)
  refine ret D2 (ws ++ [Value.ref d1, Value.ref d2, Value.ref d3, Value.ref d4, Value.ref d5]) 0 _ _ oC5 (tl ++ rest) F5 (fun p hp => N5 p ?_) (fun p hp => List.mem_append_right _ hp) dC5 O2 ?_
  · simp only [List.mem_cons, List.mem_append] at hp ⊢
    rcases hp with e | e | e | e | e | e | e <;> simp [e]
  · rw [List.map_append]
    exact (hd.mono fun p hp => List.mem_append_right _ hp).append (hda.mono fun p hp => List.mem_append_left _ hp)
end Mine
end
section
open PySem PySem.W PyProof.Rows PySem.Calls PyProof.Rows.LCg
set_option Elab.async false
set_option maxRecDepth 100000
set_option maxHeartbeats 4000000
namespace Mine
theorem warmLE : (fun (_ : Params → Frag) (_ : OpenLaw) => True) KF Challenge.rw_in0007_01 := by
  k_fill
  trivial
local macro_rules | `(tactic| k_room) => `(tactic| ktr_room)
local macro_rules | `(tactic| k_units) => `(tactic| ktr_units)
local macro_rules | `(tactic| walk_at "subscriptTail Name BinOp ref int") => `(tactic| refine Halt.at ?_)
theorem unput2 {h₀ h : Heap} {L : Addr} {m : Str → Option Value} {x a : Str} {v u : Value} (F : Fr h₀ L h (fun y => if y = a then some u else if y = x then some v else m y)) (e : m x = some v) : Fr h₀ L h (fun y => if y = a then some u else m y) := by
  have : (fun y => if y = a then some u else if y = x then some v else m y) = (fun y => if y = a then some u else m y) := by
    funext y
    by_cases hy : y = x
    · simp [hy, e]
    · simp [hy]
  rw [this] at F; exact F
theorem seg4 {w : World} {p : Program} {loose : List Str} {mean : ExcName → Option Value} {mg mb : Str → Option Value} {gd : Option (List Code)} {fa : Addr} {cd : Value} {outer : List Env} {A₀ : Around} {base h₀ : Heap} {L : Addr} {m : Str → Option Value} {o1 o2 o3 o4 : Obj} {rest : List (Addr × Obj)} {s : Shared} {Q : Flow → Shared → Prop} {E : Value → Shared → Prop} {sc T2 : Addr} {vs : List Value} {ns : List Int}
    (B : Below A₀ base outer h₀) (F : Fr h₀ L s.heap m) (X : (KF w.params).In h₀) (N : News h₀ L s.heap (LN L o1 o2 o3 o4 rest)) (T : Top p loose mean mg mb h₀) (O : Off L rest)
    (t2 : strTup calleeL T2 rest)
    (c2 : o2.data = .cell (some (.ref T2)))
    (hs : h₀.IsList sc vs.toArray) (hi : IntsAre vs ns) (hl : ns.length ≤ 63) (hm : m (Str.ofString "script") = some (.ref sc))
    (ret : ∀ h' tk' t, Fr h₀ L h' (fun y => if y = Str.ofString "start" then some (.str (pick calleeL (((ns.take 6).sum.fdiv 16 + 3).fmod 4)) t) else m y) → News h₀ L h' (LN L o1 o2 o3 o4 rest) → Q .next { s with heap := h', toks := tk' }) :
    wpAny (model pw w) (lawTop gd L fa cd outer) (exec law4 (lawEnv L fa cd)) Q E s := by
  obtain ⟨hS0, gS0, dS0, tS0, oS0⟩ := s
  unfold law4
  dsimp only [lawTop, lawEnv, lawScope, lawCl, LN] at *
  have F := putF F hm
  k_steps
  refine Halt.go ?_
  rename Fr _ _ _ _ => F1
  rename News _ _ _ _ => N1
  rename_i D1 ws h1 hI1 hC1 hL1 l1 h2 tk2 t3
  dsimp only []
  obtain ⟨vb, hvb, hsb⟩ := t2
  obtain ⟨j2, x2, p2, q2⟩ := pick_at (i := ((ns.take 6).sum.fdiv 16 + 3).fmod 4) hsb (Int.fmod_nonneg_of_pos _ (by decide)) (Int.fmod_lt_of_pos _ (by decide))
  have e0 : (0:Int) ≤ ((ns.take 6).sum.fdiv 16 + 3).fmod 4 := Int.fmod_nonneg_of_pos _ (by decide)
  have e1 : ((ns.take 6).sum.fdiv 16 + 3).fmod 4 < 4 := Int.fmod_lt_of_pos _ (by decide)
  have tB : IsTup h2 T2 vb.toArray := ⟨_, (N1 _ (.tail _ (.tail _ (.tail _ (.tail _ (.tail _ hvb)))))).1, rfl, _, rfl⟩
  refine item_tupleL tB (by omega) (by omega) p2 q2 ?_
  k_steps
  rename Fr _ _ _ _ => F3
  rename News _ _ _ _ => N3
  exact ret _ _ x2 (unput2 F3 hm) (fun p hp => N3 p (.tail _ hp))
end Mine
end
section
open PySem PySem.W PyProof.Rows PySem.Calls PyProof.Rows.LCg
set_option Elab.async false
set_option maxRecDepth 100000
set_option maxHeartbeats 4000000
namespace Mine
theorem warmLF : (fun (_ : Params → Frag) (_ : OpenLaw) => True) KF Challenge.rw_in0007_01 := by
  k_fill
  trivial
local macro_rules | `(tactic| k_room) => `(tactic| ktr_room)
local macro_rules | `(tactic| k_units) => `(tactic| ktr_units)
local macro_rules | `(tactic| walk_at "call ref") => `(tactic| refine Halt.at ?_)
theorem seg5 {w : World} {p : Program} {loose : List Str} {mean : ExcName → Option Value} {mg mb : Str → Option Value} {gd : Option (List Code)} {fa : Addr} {cd : Value} {outer : List Env} {A₀ : Around} {base h₀ : Heap} {L : Addr} {m : Str → Option Value} {o1 o2 o3 o4 : Obj} {rest : List (Addr × Obj)} {s : Shared} {Q : Flow → Shared → Prop} {E : Value → Shared → Prop} {l : Addr} {vs : List Value} {n : Nat} {C : List Call}
    (B : Below A₀ base outer h₀) (F : Fr h₀ L s.heap m) (X : (KF w.params).In h₀) (N : News h₀ L s.heap (LN L o1 o2 o3 o4 ((nat_lit 114, tabObj #[]) :: rest))) (T : Top p loose mean mg mb h₀)
    (c3 : o3.data = .cell (some (.ref l))) (hl : (l, W.listOf vs.toArray n) ∈ rest) (hC : DatAll rest vs (C.map trD)) (bC : C.length ≤ 11) (hP : ∀ q ∈ C, POk q)
    (h114 : ∀ p ∈ LN L o1 o2 o3 o4 rest, p.1 ≠ nat_lit 114) (codeHd : CodeHd h₀ (nat_lit 118) (nat_lit 114))
    (ret : ∀ d kvs news' ps h' tk', Fr h₀ L h' (fun y => if y = Str.ofString "book" then some (.ref d) else m y) → News h₀ L h' (LN L o1 o2 o3 o4 (news' ++ rest)) → (nat_lit 114, tabObj ps) ∈ news' → (∀ p ∈ news', ∀ q ∈ LN L o1 o2 o3 o4 rest, q.1 ≠ p.1) → FrozenIn w news' d kvs → TabsIn w news' kvs (tabs C) → kvs.map (·.1) = keysOf C → Q .next { s with heap := h', toks := tk' }) :
    wpAny (model pw w) (lawTop gd L fa cd outer) (exec law5 (lawEnv L fa cd)) Q E s := by
  obtain ⟨hS0, gS0, dS0, tS0, oS0⟩ := s
  unfold law5
  dsimp only [lawTop, lawEnv, lawScope, lawCl, LN] at *
  k_steps
  refine Halt.go ?_
  have N2 : News h₀ L hS0 ((nat_lit 114, tabObj #[]) :: (L + 4, o4) :: (L + 3, o3) :: (L + 2, o2) :: (L + 1, o1) :: rest) := fun p hp => N p (by
    simp only [List.mem_cons] at hp ⊢
    rcases hp with e | e | e | e | e | e <;> simp [e])
  refine bookc B F X N2 T rfl codeHd h114 (.tail _ (.tail _ (.tail _ (.tail _ hl)))) (hC.mono fun p hp => .tail _ (.tail _ (.tail _ (.tail _ hp)))) bC hP ?_
  intro d kvs h' tk' news' ps F2 N2 m114 hne FZ TI hks
  dsimp only []
  clear F N
  k_steps
  rename Fr _ _ _ _ => F3
  rename News _ _ _ _ => N3
  refine ret d kvs news' ps _ _ F3 (fun p hp => N3 p ?_) m114 hne FZ TI hks
  simp only [List.mem_cons, List.mem_append] at hp ⊢
  rcases hp with e | e | e | e | e | e <;> simp [e]
end Mine
end
section
open PySem PySem.W PyProof.Rows PySem.Calls PyProof.Rows.LCg
set_option Elab.async false
set_option maxRecDepth 100000
set_option maxHeartbeats 4000000
namespace Mine
theorem warmLG : (fun (_ : Params → Frag) (_ : OpenLaw) => True) KF Challenge.rw_in0007_01 := by
  k_fill
  trivial
local macro_rules | `(tactic| k_room) => `(tactic| ktr_room)
local macro_rules | `(tactic| k_units) => `(tactic| ktr_units)
theorem kdn1' {w : World} {s : Shared} {h₀ : Heap} {L d : Addr} {m : Str → Option Value} {news : List (Addr × Obj)} {g : Obj → List (Addr × Obj)} {o : Obj} {Q : Value → Shared → Prop} {k : Str} {t : Tok} {v : Value} (F : Fr h₀ L s.heap m) (N : News h₀ L s.heap news) (U : UpdF d o news g) (hd : o.IsDictOf (sk w) [])
    (h : ∀ h' o', Fr h₀ L h' m → News h₀ L h' (g o') → o'.IsDictOf (sk w) [(k, v)] → Q (.ref d) { s with heap := h', toks := s.toks + 1 }) : KdnMade pw w (sk w) d Q [(.str k t, v)] s :=
  kdn_made_str F N U hd rfl (by simp [strPairs]) h
theorem seg6 {w : World} {p : Program} {loose : List Str} {mean : ExcName → Option Value} {mg mb : Str → Option Value} {gd : Option (List Code)} {fa : Addr} {cd : Value} {outer : List Env} {A₀ : Around} {base h₀ : Heap} {L : Addr} {m : Str → Option Value} {o1 o2 o3 o4 : Obj} {rest : List (Addr × Obj)} {s : Shared} {Q : Flow → Shared → Prop} {E : Value → Shared → Prop} {st : Str} {tt : Tok}
    (B : Below A₀ base outer h₀) (F : Fr h₀ L s.heap m) (X : (KF w.params).In h₀) (N : News h₀ L s.heap (LN L o1 o2 o3 o4 rest)) (T : Top p loose mean mg mb h₀) (O : Off L rest)
    (hm : m (Str.ofString "start") = some (.str st tt))
    (ret : ∀ d o kt h' tk', Fr h₀ L h' (fun y => if y = Str.ofString "level" then some (.ref d) else m y) → News h₀ L h' ((d, o) :: LN L o1 o2 o3 o4 rest) → (∀ p ∈ LN L o1 o2 o3 o4 rest, p.1 < d) → (d == sysModules) = false → o.IsDictOf (sk w) kt → IntD kt [(st, 1)] → Q .next { s with heap := h', toks := tk' }) :
    wpAny (model pw w) (lawTop gd L fa cd outer) (exec law6 (lawEnv L fa cd)) Q E s := by
  obtain ⟨hS0, gS0, dS0, tS0, oS0⟩ := s
  unfold law6
  dsimp only [lawTop, lawEnv, lawScope, lawCl, LN] at *
  have F := putF F hm
  refine wpAny_Assign_Name ?_
  refine kdn_eval (knd := sk w) F N T.nolimit (by rfl) (by rfl) (List.cons_ne_nil _ _) (Nat.le_of_ble_eq_true (by rfl)) ?_
  intro dd h10 od10 F10 N10' l10 lo10 hd10
  dsimp only []
  rename_i F0
  clear F F0 N
  k_steps
  refine kdn1' (s := ⟨h10, gS0, dS0, _, oS0⟩) F10 N10' (UpdF.head fun p hp => Nat.ne_of_lt (l10 p hp)) hd10 ?_
  intro h12 o12 F12 N12 d12
  dsimp only []
  (try dsimp only at N12 F12)
  clear F10 N10'
  k_steps
  rename Fr _ _ _ _ => F3
  rename News _ _ _ _ => N3
  exact ret dd o12 _ _ _ (unput2 F3 hm) N3 l10 lo10 d12 (IntD.one _ _ _)
theorem seg7 {w : World} {p : Program} {loose : List Str} {mean : ExcName → Option Value} {mg mb : Str → Option Value} {gd : Option (List Code)} {fa : Addr} {cd : Value} {outer : List Env} {A₀ : Around} {base h₀ : Heap} {L : Addr} {m : Str → Option Value} {o1 o2 o3 o4 : Obj} {rest : List (Addr × Obj)} {s : Shared} {Q : Flow → Shared → Prop} {E : Value → Shared → Prop} {st : Str} {tt : Tok}
    (B : Below A₀ base outer h₀) (F : Fr h₀ L s.heap m) (X : (KF w.params).In h₀) (N : News h₀ L s.heap (LN L o1 o2 o3 o4 rest)) (T : Top p loose mean mg mb h₀) (O : Off L rest)
    (hm : m (Str.ofString "start") = some (.str st tt))
    (ret : ∀ l ws n tl h' tk', Fr h₀ L h' (fun y => if y = Str.ofString "chains" then some (.ref l) else m y) → News h₀ L h' ((l, W.listOf ws.toArray n) :: (tl ++ LN L o1 o2 o3 o4 rest)) → DatAll tl ws [.tuple [.str st, .int 1]] → (∀ p ∈ (l, W.listOf ws.toArray n) :: tl, ∀ q ∈ LN L o1 o2 o3 o4 rest, q.1 < p.1) → Q .next { s with heap := h', toks := tk' }) :
    wpAny (model pw w) (lawTop gd L fa cd outer) (exec law7 (lawEnv L fa cd)) Q E s := by
  obtain ⟨hS0, gS0, dS0, tS0, oS0⟩ := s
  unfold law7
  dsimp only [lawTop, lawEnv, lawScope, lawCl, LN] at *
  have F := putF F hm
  k_steps
  rename Fr _ _ _ _ => F3
  rename News _ _ _ _ => N3
  rename_i D1 g1 l1 l2 g2 l3 g3
  have a1 : ∀ q ∈ LN L o1 o2 o3 o4 rest, q.1 < D1 := tb_ltOf (show AllLt D1 (LN L o1 o2 o3 o4 rest) from l1)
  have a2 : ∀ q ∈ LN L o1 o2 o3 o4 rest, q.1 < l2 := tb_ltOf (show AllLt l2 (LN L o1 o2 o3 o4 rest) from l3.2)
  refine ret l2 [.ref D1] 0 [(D1, _)] _ _ (unput2 F3 hm) N3 (.one (.tuple (.head _) (.cons (.str _ _) (.cons (.int _ _) .nil)))) ?_
  intro p hp q hq
  rcases List.mem_cons.mp hp with rfl | hp
  · exact a2 q hq
  · rw [List.mem_singleton.mp hp]; exact a1 q hq
end Mine
end
section
open PySem PySem.W PyProof.Rows PySem.Calls PyProof.Rows.LCg
set_option Elab.async false
set_option maxRecDepth 100000
set_option maxHeartbeats 4000000
namespace Mine
theorem warmLH : (fun (_ : Params → Frag) (_ : OpenLaw) => True) KF Challenge.rw_in0007_01 := by
  k_fill
  trivial
local macro_rules | `(tactic| k_room) => `(tactic| ktr_room)
local macro_rules | `(tactic| k_units) => `(tactic| ktr_units)
local macro_rules | `(tactic| walk_at "call ref") => `(tactic| refine Halt.at ?_)
theorem frEq {h₀ h : Heap} {L : Addr} {f g : Str → Option Value} (F : Fr h₀ L h f) (e : ∀ y, f y = g y) : Fr h₀ L h g := (funext e : f = g) ▸ F
theorem segB1 {w : World} {p : Program} {loose : List Str} {mean : ExcName → Option Value} {mg mb : Str → Option Value} {gd : Option (List Code)} {fa : Addr} {cd : Value} {outer : List Env} {A₀ : Around} {base h₀ : Heap} {L : Addr} {m : Str → Option Value} {o1 o2 o3 o4 : Obj} {rest : List (Addr × Obj)} {s : Shared} {Q : Flow → Shared → Prop} {E : Value → Shared → Prop} {d t : Addr} {ot : Obj} {kt kvs : List (Str × Value)} {TB : Str → List (Str × Int)} {Dt : List (Str × Int)}
    (B : Below A₀ base outer h₀) (F : Fr h₀ L s.heap m) (X : (KF w.params).In h₀) (N : News h₀ L s.heap (LN L o1 o2 o3 o4 rest)) (T : Top p loose mean mg mb h₀) (O : Off L rest)
    (hb : m (Str.ofString "book") = some (.ref d)) (hlv : m (Str.ofString "level") = some (.ref t)) (FR : FrozenIn w rest d kvs) (TI : TabsIn w rest kvs TB) (hTB : ∀ k, (TB k).length ≤ 20 ∧ ∀ e ∈ TB k, Builtin.Int.intBits e.2 ≤ 64)
    (ht : (t, ot) ∈ rest) (dt : ot.IsDictOf (sk w) kt) (lt : (t == sysModules) = false) (it : IntD kt Dt) (bt : Dt.length ≤ 20)
    (ret : ∀ r o kr h' tk', Fr h₀ L h' (fun y => if y = Str.ofString "level" then some (.ref r) else m y) → News h₀ L h' (LN L o1 o2 o3 o4 ((r, o) :: rest)) → (∀ q ∈ LN L o1 o2 o3 o4 rest, q.1 < r) → (r == sysModules) = false → o.IsDictOf (sk w) kr → IntD kr (climb TB Dt) → Q .next { s with heap := h', toks := tk' }) :
    wpAny (model pw w) (lawTop gd L fa cd outer) (exec lawF0 (lawEnv L fa cd)) Q E s := by
  obtain ⟨hS0, gS0, dS0, tS0, oS0⟩ := s
  unfold lawF0
  dsimp only [lawTop, lawEnv, lawScope, lawCl, LN] at *
  have F := putF (putF F hb) (x := Str.ofString "level") (v := .ref t) (by with_unfolding_all exact hlv)
  k_steps
  refine Halt.go ?_
  rename Fr _ _ _ _ => F1
  have hsub : ∀ p ∈ rest, p ∈ (L + 4, o4) :: (L + 3, o3) :: (L + 2, o2) :: (L + 1, o1) :: rest := fun p hp => .tail _ (.tail _ (.tail _ (.tail _ hp)))
  refine climbc B F1 X N T rfl (FR.mono hsub) (TI.mono hsub) hTB (hsub _ ht) dt lt it bt (by show (302 : Nat) + 40 < recursionLimit; decide) (by show (7 : Nat) + 400 < cLine; decide) ?_
  intro r o kr h' tk' F2 N2 lr lo dr ir
  dsimp only []
  clear F1 N
  k_steps
  rename Fr _ _ _ _ => F3
  rename News _ _ _ _ => N3
  refine ret r o kr _ _ (frEq F3 ?_) (fun p hp => N3 p ?_) lr lo dr ir
  · intro y
    by_cases h1 : y = Str.ofString "level"
    · simp [h1]
    · by_cases h2 : y = Str.ofString "book"
      · simp only [h1, if_false, if_pos h2]; rw [h2, hb]
      · simp [h1, h2]
  · simp only [List.mem_cons] at hp ⊢
    rcases hp with e | e | e | e | e | e <;> simp [e]
end Mine
end
section
open PySem PySem.W PyProof.Rows PySem.Calls PyProof.Rows.LCg
set_option Elab.async false
set_option maxRecDepth 100000
set_option maxHeartbeats 4000000
namespace Mine
theorem warmLZ : (fun (_ : Params → Frag) (_ : OpenLaw) => True) KF Challenge.rw_in0007_01 := by
  k_fill
  trivial
local macro_rules | `(tactic| k_room) => `(tactic| ktr_room)
local macro_rules | `(tactic| k_units) => `(tactic| ktr_units)
theorem zipD {α : Type} {n : List (Addr × Obj)} {g : α → Dat} : ∀ {vs : List Value} {l : List α}, DatAll n vs (l.map g) → ∃ xs : List (Value × α), xs.map (·.1) = vs ∧ xs.map (·.2) = l ∧ ∀ p ∈ xs, DatIn n p.1 (g p.2)
  | [], [], _ => ⟨[], rfl, rfl, fun _ h => nomatch h⟩
  | _ :: _, [], h => nomatch h
  | [], _ :: _, h => nomatch h
  | v :: vs, a :: l, h => by
    cases h with
    | cons h1 h2 =>
      obtain ⟨xs, e1, e2, e3⟩ := zipD h2
      refine ⟨(v, a) :: xs, by rw [List.map_cons, e1], by rw [List.map_cons, e2], fun p hp => ?_⟩
      rcases List.mem_cons.mp hp with rfl | hp
      · exact h1
      · exact e3 p hp
theorem tup2_of {n : List (Addr × Obj)} {v : Value} {q : Str × Int} (h : DatIn n v (prD q)) : ∃ T x y k, v = .ref T ∧ (T, ({ cls := .type "tuple", data := .seq #[.str q.1 x, .int q.2 y] k } : Obj)) ∈ n := by
  unfold prD at h
  cases h with
  | tuple hm hd =>
    cases hd with
    | cons h1 hd =>
      cases h1
      cases hd with
      | cons h2 hd =>
        cases h2
        cases hd
        exact ⟨_, _, _, _, rfl, hm⟩
theorem tup3_of {n : List (Addr × Obj)} {v : Value} {q : Call} (h : DatIn n v (trD q)) : ∃ T x y z k, v = .ref T ∧ (T, ({ cls := .type "tuple", data := .seq #[.str q.1 x, .str q.2.1 y, .int q.2.2 z] k } : Obj)) ∈ n := by
  unfold trD at h
  cases h with
  | tuple hm hd =>
    cases hd with
    | cons h1 hd =>
      cases h1
      cases hd with
      | cons h2 hd =>
        cases h2
        cases hd with
        | cons h3 hd =>
          cases h3
          cases hd
          exact ⟨_, _, _, _, _, rfl, hm⟩
end Mine
end
section
open PySem PySem.W PyProof.Rows PySem.Calls PyProof.Rows.LCg
set_option Elab.async false
set_option maxRecDepth 100000
set_option maxHeartbeats 4000000
namespace Mine
theorem warmLI : (fun (_ : Params → Frag) (_ : OpenLaw) => True) KF Challenge.rw_in0007_01 := by
  k_fill
  trivial
local macro_rules | `(tactic| k_room) => `(tactic| ktr_room)
local macro_rules | `(tactic| k_units) => `(tactic| ktr_units)
/-- the answers of one chain -/
def ysI (C : List Call) (q : Str × Int) : List (Str × Int) := (C.filter fun c => c.2.1 = q.1).map fun c => (c.1, q.2 * c.2.2)
theorem ysI_le (C : List Call) (q : Str × Int) : (ysI C q).length ≤ C.length := by
  unfold ysI
  rw [List.length_map]
  exact List.length_filter_le _ _
theorem flatMap_le {α β : Type} {k : Nat} {g : α → List β} (h : ∀ a, (g a).length ≤ k) : ∀ (l : List α), (l.flatMap g).length ≤ l.length * k
  | [] => by simp
  | a :: l => by
    have h1 := flatMap_le h l
    have h2 := h a
    rw [List.flatMap_cons, List.length_append, List.length_cons, Nat.add_mul]
    omega
theorem filt {t : Str} {k : Int} : ∀ (cx : List (Value × Call)), cx.flatMap (fun p => if p.2.2.1 = t then [prD (p.2.1, k * p.2.2.2)] else []) = (ysI (cx.map (·.2)) (t, k)).map prD
  | [] => rfl
  | p :: cx => by
    rw [List.flatMap_cons, filt cx, List.map_cons]
    unfold ysI
    by_cases h : p.2.2.1 = t
    · rw [if_pos h, List.filter_cons_of_pos (by simpa using h)]; rfl
    · rw [if_neg h, List.filter_cons_of_neg (by simpa using h)]; rfl
theorem segB2 {w : World} {p : Program} {loose : List Str} {mean : ExcName → Option Value} {mg mb : Str → Option Value} {gd : Option (List Code)} {fa : Addr} {cd : Value} {outer : List Env} {A₀ : Around} {base h₀ : Heap} {L : Addr} {m : Str → Option Value} {o1 o2 o3 o4 : Obj} {rest : List (Addr × Obj)} {s : Shared} {Q : Flow → Shared → Prop} {E : Value → Shared → Prop} {l lc : Addr} {vs vc : List Value} {n nc : Nat} {C : List Call} {H : List (Str × Int)}
    (B : Below A₀ base outer h₀) (F : Fr h₀ L s.heap m) (X : (KF w.params).In h₀) (N : News h₀ L s.heap (LN L o1 o2 o3 o4 rest)) (T : Top p loose mean mg mb h₀) (O : Off L rest)
    (c3 : o3.data = .cell (some (.ref lc))) (hlc : (lc, W.listOf vc.toArray nc) ∈ rest) (hC : DatAll rest vc (C.map trD)) (bC : C.length ≤ 11)
    (hch : m (Str.ofString "chains") = some (.ref l)) (hl : (l, W.listOf vs.toArray n) ∈ rest) (hH : DatAll rest vs (H.map prD)) (bH : H.length ≤ 200) (hbC : ∀ c ∈ C, Builtin.Int.intBits c.2.2 ≤ 64)
    (ret : ∀ D ws pre h' tk', Fr h₀ L h' (fun y => if y = Str.ofString "chains" then some (.ref D) else m y) → News h₀ L h' ((D, lst ws) :: (pre ++ LN L o1 o2 o3 o4 rest)) → (∀ p ∈ (D, lst ws) :: pre, ∀ q ∈ LN L o1 o2 o3 o4 rest, q.1 < p.1) → DatAll pre ws ((H.flatMap (ysI C)).map prD) → Q .next { s with heap := h', toks := tk' }) :
    wpAny (model pw w) (lawTop gd L fa cd outer) (exec lawF1 (lawEnv L fa cd)) Q E s := by
  obtain ⟨hS0, gS0, dS0, tS0, oS0⟩ := s
  unfold lawF1
  dsimp only [lawTop, lawEnv, lawScope, lawCl, LN] at *
  obtain ⟨xs, hx1, hx2, hx3⟩ := zipD hH
  refine ncomp (h₀ := h₀) (α := Value × (Str × Int)) (f := fun p => Itm.val p.1) (ys := fun p => (ysI C p.2).map prD) (Mp := fun _ => True) (cl := [(Str.ofString "calls", L + 3)]) ?hsw (by rfl) (by rfl) ?hclos (by decide) (by rfl) (by decide) (by decide) ?_
  case hclos => with_unfolding_all rfl
  case hsw => with_unfolding_all rfl
  have F := putF F hch
  k_steps
  rename Fr _ _ _ _ => F1
  refine srcList (by rfl) F1 N (.tail _ (.tail _ (.tail _ (.tail _ hl)))) rfl rfl ?_
  intro I h2 F2 N2 lI lL hI0 S2
  refine ⟨I, _, _, xs, _, _, [], [(l, W.listOf vs.toArray n)], rfl, by rw [show xs.map (fun p => Itm.val p.1) = vs.map Itm.val by rw [← hx1, List.map_map]; rfl]; exact S2 _, F2, N2, lI, Nat.ne_of_lt lL, ?kp, hI0, ?fp, ?sz, trivial, ?step, ?fin⟩
  case kp => intro p hp; rw [List.mem_singleton.mp hp]; exact .tail _ (.tail _ (.tail _ (.tail _ hl)))
  case fp =>
    intro b hb
    rcases List.mem_cons.mp hb with rfl | hb
    · exact .inl rfl
    · rw [List.mem_singleton.mp hb]; exact .inr (.inl ⟨_, .head _⟩)
  case sz =>
    have h1 := flatMap_le (k := 11) (g := fun p : Value × (Str × Int) => (ysI C p.2).map prD) (fun p => by rw [List.length_map]; exact Nat.le_trans (ysI_le C p.2) bC) xs
    have h2 : xs.length = H.length := by rw [← hx2, List.length_map]
    rw [sizeLine_eq]; omega
  case step =>
    intro D Cc h3 tk3 ln lD lC a ha E2 Kp v h tk m2 nn ws hv _ Fc Nc hnD hsub hlim hcont
    obtain ⟨T1, x1, y1, k1, e1, hm1⟩ := tup2_of (hx3 a ha)
    replace hv : v = .ref T1 := by rw [← e1]; exact hv
    subst hv
    have hT1 : IsTup h T1 #[.str a.2.1 x1, .int a.2.2 y1] := ⟨_, (Nc _ (.tail _ (hsub _ (.tail _ (.tail _ (.tail _ (.tail _ hm1))))))).1, rfl, _, rfl⟩
    refine asg2 (by rfl) Fc Nc hT1 (by rfl) (by rfl) (by rfl) ?_
    intro h4 tk4 F4 N4
    unfold bodyN afterTests
    dsimp only []
    obtain ⟨cx, hc1, hc2, hc3⟩ := zipD hC
    refine innerL (h₀ := h₀) (ws := ws) (β := Value × Call) (f := fun p => Itm.val p.1) (ys := fun p => if p.2.2.1 = a.2.1 then [prD (p.2.1, a.2.2 * p.2.2.2)] else []) (n0 := []) (nA := nn) (keep := [(lc, W.listOf vc.toArray nc)]) (Mp := fun mm => mm (Str.ofString "top") = some (.str a.2.1 x1) ∧ mm (Str.ofString "ways") = some (.int a.2.2 y1)) (by rfl) (by rfl) (by decide) hnD (fun p hp => hp) ?kp2 ?_
    case kp2 => intro p hp; rw [List.mem_singleton.mp hp]; exact hsub _ (.tail _ (.tail _ (.tail _ (.tail _ hlc))))
    refine lcf_cell N4 (by rfl) (.tail _ (hsub _ (.tail _ (.head _)))) c3 ?_ (by rfl) (by rfl)
    refine srcList (by rfl) F4 N4 (.tail _ (hsub _ (.tail _ (.tail _ (.tail _ (.tail _ hlc)))))) rfl rfl ?_
    intro J h5 F5 N5 lJ lLJ hJ0 S5
    refine ⟨J, _, _, cx, _, rfl, by rw [show cx.map (fun p => Itm.val p.1) = vc.map Itm.val by rw [← hc1, List.map_map]; rfl]; exact S5 _, F5, N5, lJ, Nat.ne_of_lt lLJ, hJ0, ?fp2, ?sz2, ⟨by with_unfolding_all rfl, by with_unfolding_all rfl⟩, ?step2, ?fin2⟩
    case step2 =>
      intro c hc E3 K3 v3 h6 tk6 m6 n6 hv3 hM6 F6 N6 hsub6 hadd hskip
      obtain ⟨T2, x2, y2, z2, k2, e2, hm2⟩ := tup3_of (hc3 c hc)
      replace hv3 : v3 = .ref T2 := by rw [← e2]; exact hv3
      subst hv3
      have hT2 : IsTup h6 T2 #[.str c.2.1 x2, .str c.2.2.1 y2, .int c.2.2.2 z2] := ⟨_, (N6 _ (hsub6 _ (hsub _ (.tail _ (.tail _ (.tail _ (.tail _ hm2))))))).1, rfl, _, rfl⟩
      refine asg3 (by rfl) F6 N6 hT2 (by rfl) (by rfl) (by rfl) (by rfl) ?_
      intro h7 tk7 F7 N7
      unfold bodyL afterTests
      dsimp only []
      refine wpAny_isTrue_Compare1 ?_
      refine cn_own F7 (by rfl) ?_
      refine cn_own F7 (by with_unfolding_all exact hM6.1) ?_
      refine eq_str ?_
      try refine wpAny_truthy_bool ?_
      by_cases hcc : c.2.2.1 = a.2.1
      · rw [if_pos (by simpa using hcc)]
        refine Tuple_ ?_
        refine spliced_cons ?_
        refine cn_own F7 (by rfl) ?_
        refine spliced_cons ?_
        refine wpAny_BinOp ?_
        refine cn_own F7 (by with_unfolding_all exact hM6.2) ?_
        refine cn_own F7 (by rfl) ?_
        refine mul_int ?_ ?_
        · refine spliced_nil ?_
          refine newTuple_N F7 N7 ?_
          intro h8 F8 N8
          dsimp only []
          dsimp only at F8 N8
          refine hadd _ _ _ _ [_] ?_ F8 N8 (fun p hp q hq => by rw [List.mem_singleton.mp hp]; exact Heap.lt_size (N7 q hq).1) ?_
          · exact ⟨by with_unfolding_all exact hM6.1, by with_unfolding_all exact hM6.2⟩
          · dsimp only
            rw [if_pos hcc]
            exact .one (.tuple (.head _) (.cons (.str _ _) (.cons (.int _ _) .nil)))
        · exact IntMulOk.of_right (hbC c.2 (by rw [← hc2]; exact List.mem_map_of_mem hc))
      · rw [if_neg (by simpa using hcc)]
        exact hskip (by dsimp only; rw [if_neg hcc]) _ _ _ ⟨by with_unfolding_all exact hM6.1, by with_unfolding_all exact hM6.2⟩ F7 N7
    case fp2 =>
      intro b hb
      rcases List.mem_cons.mp hb with rfl | hb
      · exact .inl rfl
      · rw [List.mem_singleton.mp hb]; exact .inr (.inl ⟨_, .head _⟩)
    case sz2 =>
      rw [filt, hc2]
      have h1 := flatMap_le (k := 11) (g := fun p : Value × (Str × Int) => (ysI C p.2).map prD) (fun p => by rw [List.length_map]; exact Nat.le_trans (ysI_le C p.2) bC) xs
      have h2 : xs.length = H.length := by rw [← hx2, List.length_map]
      have h4 : ws.length + (List.map prD (ysI C a.2)).length ≤ (List.flatMap (fun p : Value × (Str × Int) => (ysI C p.2).map prD) xs).length := hlim
      have h3 : ws.length + (List.map prD (ysI C a.2)).length ≤ sizeLine := by rw [sizeLine_eq]; omega
      exact h3
    case fin2 =>
      intro h' tk' m' ws' pre hM' F' N' ho hD
      rw [filt, hc2] at hD
      exact hcont _ _ _ ws' pre trivial F' N' ho hD
  case fin =>
    intro D h' tk' ws pre F' N' ho ln hD
    refine ret D ws pre _ _ (unput2 F' hch) N' ?_ ?_
    · intro p hp q hq
      rcases List.mem_cons.mp hp with rfl | hp
      · exact ln q hq
      · exact ho p hp q (.tail _ hq)
    · rw [← hx2]
      rw [List.append_nil] at hD
      rw [List.flatMap_map, List.map_flatMap]
      exact hD
end Mine
end
section
open PySem PySem.W PyProof.Rows PySem.Calls PyProof.Rows.LCg
set_option Elab.async false
set_option maxRecDepth 100000
set_option maxHeartbeats 400000
namespace Mine
theorem mkTl {w : World} {h : Heap} : ∀ (as : List Addr) (kt : List (Str × Value)) (D : List (Str × Int)), as.length = kt.length → IntD kt D →
    (∀ (j : Nat) (a : Addr), as[j]? = some a → ∃ key k x, kt[j]? = some (k, x) ∧ (sk w).is k key = true ∧ h.get? a = some { cls := .type "tuple", data := .seq #[key, x] }) →
    ∃ tl : List (Addr × Obj), (∀ p ∈ tl, h.get? p.1 = some p.2 ∧ p.1 ∈ as) ∧ DatAll tl (as.map Value.ref) (D.map prD)
  | [], [], [], _, _, _ => ⟨[], (fun _ h => nomatch h), .nil⟩
  | [], [], _ :: _, _, h, _ => h.elim
  | [], _ :: _, _, h, _, _ => by cases h
  | _ :: _, [], _, h, _, _ => by cases h
  | _ :: _, _ :: _, [], _, h, _ => h.elim
  | a :: as, p :: kt, q :: D, hl, hi, hg => by
    obtain ⟨e1, ⟨u, e2⟩, hi⟩ := hi
    obtain ⟨key, k, x, h1, h2, h3⟩ := hg 0 a rfl
    have h4 : p = (k, x) := Option.some.inj h1
    subst h4
    obtain ⟨t, rfl⟩ := Value.isStrOf_shape h2
    dsimp only at e1 e2
    subst e1 e2
    obtain ⟨tl, ht, hd⟩ := mkTl as kt D (Nat.succ.inj hl) hi fun j b hb => hg (j + 1) b hb
    refine ⟨(a, { cls := .type "tuple", data := .seq #[.str q.1 t, .int q.2 u] }) :: tl, ?_, .cons ?_ (hd.mono fun p hp => .tail _ hp)⟩
    · intro p hp
      rcases List.mem_cons.mp hp with rfl | hp
      · exact ⟨h3, .head _⟩
      · exact ⟨(ht p hp).1, .tail _ (ht p hp).2⟩
    · exact .tuple (.head _) (.cons (.str _ _) (.cons (.int _ _) .nil))
theorem listIt {w : World} {A : Around} {E : Value → Shared → Prop} {s : Shared} {h₀ : Heap} {L v t : Addr} {m : Str → Option Value} {news : List (Addr × Obj)} {ot : Obj} {kt : List (Str × Value)} {D : List (Str × Int)} {Q : Value → Shared → Prop}
    (hh : A.handled = none) (F : Fr h₀ L s.heap m) (N : News h₀ L s.heap news) (hvw : (v, ({ cls := .type "dict_items", data := .fields #[.ref t] } : Obj)) ∈ news) (ht : (t, ot) ∈ news) (dt : ot.IsDictOf (sk w) kt) (hn : kt.length ≤ sizeLine) (it : IntD kt D)
    (h : ∀ r ws tl c h' tk', Fr h₀ L h' m → News h₀ L h' ((r, W.listOf ws.toArray c) :: (tl ++ news)) → DatAll tl ws (D.map prD) → (∀ p ∈ (r, W.listOf ws.toArray c) :: tl, ∀ q ∈ news, q.1 < p.1) → Q (.ref r) { s with heap := h', toks := tk' }) :
    wpAny (model pw w) A (call (.type "list") [.ref v]) Q E s := by
  obtain ⟨ep, hat⟩ := KdkAt.of dt
  refine kdx_call (knd := sk w) (kvs := kt) (ep := ep) hh ⟨_, (N _ hvw).1, rfl, rfl⟩ (hat.dictAt (N _ ht).1) hn fun h' tk acc c as hk hS hl hG hacc => ?_
  obtain ⟨tl, htl, hd⟩ := mkTl (w := w) (h := h') as kt D hl it hG.pairs
  have hLlt : L < s.heap.objs.size := F.ns.lt
  have F' : Fr h₀ L h' m := ⟨F.ns.at' fun o e => hk L o e, fun b o e => hk b o (F.keep b o e), F.above⟩
  have fresh : ∀ b, s.heap.objs.size ≤ b → b ≠ L ∧ h₀.get? b = none := fun b hb => ⟨Nat.ne_of_gt (Nat.lt_of_lt_of_le hLlt hb), by
    cases e : h₀.get? b with
    | none => rfl
    | some o => exact absurd (Heap.lt_size (F.keep b o e)) (Nat.not_lt.mpr hb)⟩
  have habove : ∀ p ∈ tl, s.heap.objs.size < p.1 := fun p hp => hG.above p.1 (htl p hp).2
  have N' : News h₀ L h' ((s.heap.objs.size, W.listOf (as.map Value.ref).toArray c) :: (tl ++ news)) := by
    intro p hp
    rcases List.mem_cons.mp hp with rfl | hp
    · refine ⟨?_, fresh _ (Nat.le_refl _)⟩
      rw [show (as.map Value.ref).toArray = acc by rw [← hacc]]
      exact hS
    · rcases List.mem_append.mp hp with hp | hp
      · exact ⟨(htl p hp).1, fresh _ (Nat.le_of_lt (habove p hp))⟩
      · exact ⟨hk _ _ (N p hp).1, (N p hp).2⟩
  refine h s.heap.objs.size (as.map Value.ref) tl c h' tk F' N' hd ?_
  intro p hp q hq
  have hq' := Heap.lt_size (N q hq).1
  rcases List.mem_cons.mp hp with rfl | hp
  · exact hq'
  · exact Nat.lt_trans hq' (habove p hp)
theorem neSame {w : World} {A : Around} {E : Value → Shared → Prop} {s : Shared} {h₀ : Heap} {L a b : Addr} {news n₁ n₂ : List (Addr × Obj)} {oa ob : Obj} {xs ys : List Value} {ka kb : Nat} {ds es : List Dat} {Q : Value → Shared → Prop} (N : News h₀ L s.heap news) (ma : (a, oa) ∈ news) (ca : oa.cls = .type "list") (da : oa.data = .seq xs.toArray ka) (Da : DatAll n₁ xs ds) (sa : ∀ p ∈ n₁, p ∈ news)
    (mb : (b, ob) ∈ news) (cb : ob.cls = .type "list") (db : ob.data = .seq ys.toArray kb) (Db : DatAll n₂ ys es) (sb : ∀ p ∈ n₂, p ∈ news)
    (ha : ∀ d ∈ ds, kqdOk 8 d = true) (e : ds = es) (hu : A.units + 64 < cLine) (h : Q (.bool false) s) : wpAny (model pw w) A (compareOp .NotEq (.ref a) (.ref b)) Q E s := by
  subst e
  exact kqd_ne N ma ca da Da sa mb cb db Db sb ha ha hu (by simpa using h)
theorem eqSame {w : World} {A : Around} {E : Value → Shared → Prop} {s : Shared} {h₀ : Heap} {L a b : Addr} {news n₁ n₂ : List (Addr × Obj)} {oa ob : Obj} {xs ys : List Value} {ka kb : Nat} {ds es : List Dat} {Q : Value → Shared → Prop} (N : News h₀ L s.heap news) (ma : (a, oa) ∈ news) (ca : oa.cls = .type "list") (da : oa.data = .seq xs.toArray ka) (Da : DatAll n₁ xs ds) (sa : ∀ p ∈ n₁, p ∈ news)
    (mb : (b, ob) ∈ news) (cb : ob.cls = .type "list") (db : ob.data = .seq ys.toArray kb) (Db : DatAll n₂ ys es) (sb : ∀ p ∈ n₂, p ∈ news)
    (ha : ∀ d ∈ ds, kqdOk 8 d = true) (e : ds = es) (hu : A.units + 64 < cLine) (h : Q (.bool true) s) : wpAny (model pw w) A (compareOp .Eq (.ref a) (.ref b)) Q E s := by
  subst e
  exact kqd_eq N ma ca da Da sa mb cb db Db sb ha ha hu (by simpa using h)
end Mine
end
section
open PySem PySem.W PyProof.Rows PySem.Calls PyProof.Rows.LCg
set_option Elab.async false
set_option maxRecDepth 100000
set_option maxHeartbeats 4000000
namespace Mine
theorem warmLJ : (fun (_ : Params → Frag) (_ : OpenLaw) => True) KF Challenge.rw_in0007_01 := by
  k_fill
  trivial
local macro_rules | `(tactic| k_room) => `(tactic| ktr_room)
local macro_rules | `(tactic| k_units) => `(tactic| ktr_units)
local macro_rules | `(tactic| walk_at "call ref") => `(tactic| refine Halt.at ?_)
local macro_rules | `(tactic| walk_at "getMethod ref") => `(tactic| refine Halt.at ?_)
local macro_rules | `(tactic| walk_at "call builtin:dict.items") => `(tactic| refine Halt.at ?_)
local macro_rules | `(tactic| walk_at "call type:list") => `(tactic| refine Halt.at ?_)
local macro_rules | `(tactic| walk_at "compareOp NotEq ref ref") => `(tactic| refine Halt.at ?_)
local macro_rules | `(tactic| walk_at "eval ListComp") => `(tactic| refine Halt.at ?_)
theorem ints_flat : ∀ (xs : List (Value × (Str × Int))), xs.flatMap (fun p => [Dat.int p.2.2]) = ((xs.map (·.2)).map (·.2)).map Dat.int
  | [] => rfl
  | p :: xs => by rw [List.flatMap_cons, ints_flat xs]; rfl
theorem intsAre_of {n : List (Addr × Obj)} : ∀ {ws : List Value} {l : List Int}, DatAll n ws (l.map Dat.int) → IntsAre ws l
  | [], [], _ => .nil
  | [], _ :: _, h => nomatch h
  | _ :: _, [], h => nomatch h
  | _ :: _, _ :: _, h => by
    cases h with
    | cons h1 h2 =>
      cases h1
      exact .cons _ _ (intsAre_of h2)
theorem segB3 {w : World} {p : Program} {loose : List Str} {mean : ExcName → Option Value} {mg mb : Str → Option Value} {gd : Option (List Code)} {fa : Addr} {cd : Value} {outer : List Env} {A₀ : Around} {base h₀ : Heap} {L : Addr} {m : Str → Option Value} {o1 o2 o3 o4 : Obj} {rest : List (Addr × Obj)} {s : Shared} {Q : Flow → Shared → Prop} {E : Value → Shared → Prop} {l t : Addr} {vs : List Value} {n : Nat} {H Dt : List (Str × Int)} {ot : Obj} {kt : List (Str × Value)}
    (B : Below A₀ base outer h₀) (F : Fr h₀ L s.heap m) (X : (KF w.params).In h₀) (N : News h₀ L s.heap (LN L o1 o2 o3 o4 rest)) (T : Top p loose mean mg mb h₀) (O : Off L rest)
    (hch : m (Str.ofString "chains") = some (.ref l)) (hl : (l, W.listOf vs.toArray n) ∈ rest) (hH : DatAll rest vs (H.map prD)) (bH : H.length ≤ 5000)
    (hlv : m (Str.ofString "level") = some (.ref t)) (ht : (t, ot) ∈ rest) (dt : ot.IsDictOf (sk w) kt) (lt : (t == sysModules) = false) (it : IntD kt Dt)
    (hEq : Dt = addAll [] H) (hSum : sumD Dt = (H.map (·.2)).sum) (hok : ∀ q ∈ Dt, PyData.strOk q.1 = true)
    (ret : ∀ h' tk', Fr h₀ L h' m → News h₀ L h' (LN L o1 o2 o3 o4 rest) → Q .next { s with heap := h', toks := tk' }) :
    wpAny (model pw w) (lawTop gd L fa cd outer) (exec lawF2 (lawEnv L fa cd)) Q E s := by
  obtain ⟨hS0, gS0, dS0, tS0, oS0⟩ := s
  unfold lawF2
  dsimp only [lawTop, lawEnv, lawScope, lawCl, LN] at *
  have F := putF (putF F hch) (x := Str.ofString "level") (v := .ref t) (by with_unfolding_all exact hlv)
  k_steps
  refine Halt.go ?_
  rename Fr _ _ _ _ => F1
  with_unfolding_all refine kdl_method (knd := sk w) PySem.F.slot_dict_items PySem.F.type_dict_items N (.tail _ (.tail _ (.tail _ (.tail _ ht)))) dt ?_
  k_steps
  refine Halt.go ?_
  rename Fr _ _ _ _ => F2
  refine kdx_view (knd := sk w) F2 N (.tail _ (.tail _ (.tail _ (.tail _ ht)))) dt lt ?_
  intro vw h3 F3 N3 l3
  dsimp only []
  k_steps
  refine Halt.go ?_
  rename Fr _ _ _ _ => F4
  rename News _ _ _ _ => N4
  have hDl : Dt.length ≤ 5000 := by
    have := addAll_length [] H
    rw [hEq]; simp at this; omega
  refine listIt (by rfl) F4 N4 (.head _) (.tail _ (.tail _ (.tail _ (.tail _ (.tail _ ht))))) dt (by rw [it.length, sizeLine_eq]; omega) it ?_
  intro r1 w1 tl1 cc1 h5 tk5 F5 N5 hd5 l5
  clear F4 N4
  dsimp only []
  k_steps
  refine Halt.go ?_
  have hsub : ∀ p ∈ rest, p ∈ (r1, W.listOf w1.toArray cc1) :: (tl1 ++ (vw, ({ cls := .type "dict_items", data := .fields #[.ref t] } : Obj)) :: (L + 4, o4) :: (L + 3, o3) :: (L + 2, o2) :: (L + 1, o1) :: rest) := fun p hp => .tail _ (List.mem_append_right _ (.tail _ (.tail _ (.tail _ (.tail _ (.tail _ hp))))))
  refine sumsc B F5 X N5 T rfl (hsub _ hl) (hH.mono hsub) bH (by show (302 : Nat) + 15 < recursionLimit; decide) (by show (7 : Nat) + 160 < cLine; decide) ?_
  intro r2 w2 tl2 cc2 h6 tk6 F6 N6 hd6 l6
  clear F5 N5
  dsimp only []
  k_steps
  refine Halt.go ?_
  have ok1 : ∀ d ∈ Dt.map prD, kqdOk 8 d = true := by
    intro d hd
    obtain ⟨q, hq, rfl⟩ := List.mem_map.mp hd
    simp [prD, kqdOk, hok q hq]
  refine neSame N6 (.tail _ (List.mem_append_right _ (.head _))) rfl rfl hd5 (fun p hp => .tail _ (List.mem_append_right _ (.tail _ (List.mem_append_left _ hp)))) (.head _) rfl rfl hd6 (fun p hp => .tail _ (List.mem_append_left _ hp)) ok1 (by rw [← hEq]) (by show (7 : Nat) + 64 < cLine; decide) ?_
  k_steps
  refine Halt.go ?_
  rename Fr _ _ _ _ => F7
  have hsub2 : ∀ p ∈ rest, p ∈ (r2, W.listOf w2.toArray cc2) :: (tl2 ++ (r1, W.listOf w1.toArray cc1) :: (tl1 ++ (vw, ({ cls := .type "dict_items", data := .fields #[.ref t] } : Obj)) :: (L + 4, o4) :: (L + 3, o3) :: (L + 2, o2) :: (L + 1, o1) :: rest)) := fun p hp => .tail _ (List.mem_append_right _ (hsub p hp))
  refine countc B F7 X N6 T rfl (hsub2 _ ht) dt lt it (by show (302 : Nat) + 5 < recursionLimit; decide) (by show (7 : Nat) + 60 < cLine; decide) ?_
  intro h8 tk8 tt8 F8 N8
  clear F7 N6
  dsimp only []
  k_steps
  obtain ⟨xs, hx1, hx2, hx3⟩ := zipD hH
  refine Halt.go ?_
  rename Fr _ _ _ _ => F9
  refine lcomp (h₀ := h₀) (α := Value × (Str × Int)) (f := fun p => Itm.val p.1) (ys := fun p => [Dat.int p.2.2]) (Mp := fun _ => True) (cl := []) ?hclos (by decide) (by rfl) (by decide) (by decide) ?_
  case hclos => with_unfolding_all rfl
  k_steps
  rename Fr _ _ _ _ => F10
  refine srcList (by rfl) F10 N8 (hsub2 _ hl) rfl rfl ?_
  intro I h11 F11 N11 lI lL hI0 S11
  refine ⟨I, _, _, xs, _, _, [], [(l, W.listOf vs.toArray n)], rfl, by rw [show xs.map (fun p => Itm.val p.1) = vs.map Itm.val by rw [← hx1, List.map_map]; rfl]; exact S11 _, F11, N11, lI, Nat.ne_of_lt lL, ?kp, hI0, ?fp, ?sz, trivial, ?step, ?fin⟩
  case kp => intro p hp; rw [List.mem_singleton.mp hp]; exact hsub2 _ hl
  case fp =>
    intro b hb
    rcases List.mem_cons.mp hb with rfl | hb
    · exact .inl rfl
    · rw [List.mem_singleton.mp hb]; exact .inr (.inl ⟨_, .head _⟩)
  case sz =>
    rw [ints_flat, List.length_map, List.length_map, hx2, sizeLine_eq]; omega
  case step =>
    intro D Cc h3' tk3' ln lD lC a ha E2 Kp v h tk m2 nn hv _ Fc Nc hsub3 hadd hskip
    obtain ⟨T1, x1, y1, k1, e1, hm1⟩ := tup2_of (hx3 a ha)
    replace hv : v = .ref T1 := by rw [← e1]; exact hv
    subst hv
    have hT1 : IsTup h T1 #[.str a.2.1 x1, .int a.2.2 y1] := ⟨_, (Nc _ (hsub3 _ (hsub2 _ hm1))).1, rfl, _, rfl⟩
    refine asg2 (by rfl) Fc Nc hT1 (by rfl) (by rfl) (by rfl) ?_
    intro h4 tk4 F4 N4
    unfold bodyL afterTests
    dsimp only []
    refine cn_own F4 (by rfl) ?_
    exact hadd _ _ _ _ [] trivial F4 N4 (fun _ h => nomatch h) (.cons (.int _ _) .nil)
  case fin =>
    intro D h' tk' ws pre F' N' ho ln hD
    rw [ints_flat, hx2] at hD
    have hwi := intsAre_of hD
    k_steps
    · rename_i hbad
      exact absurd hSum hbad
    · rename Fr _ _ _ _ => FE
      rename News _ _ _ _ => NE
      refine ret _ _ (frEq FE ?_) (fun p hp => NE p ?_)
      · intro y
        by_cases h1 : y = Str.ofString "level"
        · simp only [if_pos h1]; rw [h1, hlv]
        · by_cases h2 : y = Str.ofString "chains"
          · simp only [if_neg h1, if_pos h2]; rw [h2, hch]
          · simp only [if_neg h1, if_neg h2]
      · refine .tail _ (List.mem_append_right _ (.tail _ (List.mem_append_right _ (.tail _ (List.mem_append_right _ (.tail _ ?_))))))
        exact hp
end Mine
end
section
open PySem PySem.W PyProof.Rows PySem.Calls PyProof.Rows.LCg
set_option Elab.async false
set_option maxRecDepth 100000
set_option maxHeartbeats 4000000
namespace Mine
theorem warmLK : (fun (_ : Params → Frag) (_ : OpenLaw) => True) KF Challenge.rw_in0007_01 := by
  k_fill
  trivial
local macro_rules | `(tactic| k_room) => `(tactic| ktr_room)
local macro_rules | `(tactic| k_units) => `(tactic| ktr_units)
local macro_rules | `(tactic| walk_at "RangeRest") => `(tactic| refine Halt.at ?_)
theorem exc {M : Model} {A : Around} {E : Value → Shared → Prop} {s : Shared} {env : Env} {st : Stmt} {rest : List Stmt} {Q : Flow → Shared → Prop} (h : wpAny M A (exec st env) (fun f s' => match f with | .next => wpAny M A (execs rest env) Q E s' | f => Q f s') E s) :
    wpAny M A (execs (st :: rest) env) Q E s := by
  rw [execs_cons]
  refine wpAny_bind (wpAny_mono h (fun f s' z => ?_) fun _ _ e => e)
  cases f <;> first | exact z | exact wpAny_pure z
theorem exn {M : Model} {A : Around} {E : Value → Shared → Prop} {s : Shared} {env : Env} {Q : Flow → Shared → Prop} (h : Q .next s) : wpAny M A (execs [] env) Q E s := wpAny_pure h
/-- what holds between two climbs -/
structure Cst (w : World) (TB : Str → List (Str × Int)) (C : List Call) (lc d : Addr) (vc : List Value) (nc : Nat) (kvs : List (Str × Value)) (m : Str → Option Value) (rest : List (Addr × Obj)) (D H : List (Str × Int)) : Prop where
  book : m (Str.ofString "book") = some (.ref d)
  lvl : ∃ t ot kt, m (Str.ofString "level") = some (.ref t) ∧ (t, ot) ∈ rest ∧ ot.IsDictOf (sk w) kt ∧ (t == sysModules) = false ∧ IntD kt D
  chs : ∃ l vs n, m (Str.ofString "chains") = some (.ref l) ∧ (l, W.listOf vs.toArray n) ∈ rest ∧ DatAll rest vs (H.map prD)
  fr : FrozenIn w rest d kvs
  ti : TabsIn w rest kvs TB
  hl : (lc, W.listOf vc.toArray nc) ∈ rest
  hc : DatAll rest vc (C.map trD)
structure Plain (TB : Str → List (Str × Int)) (C : List Call) (D H : List (Str × Int)) : Prop where
  bD : D.length ≤ 20
  bH : H.length ≤ 121
  eq : climb TB D = addAll [] (H.flatMap (ysI C))
  sum : sumD (climb TB D) = ((H.flatMap (ysI C)).map (·.2)).sum
  ok : ∀ q ∈ climb TB D, PyData.strOk q.1 = true
theorem Off.app {L : Addr} {n rest : List (Addr × Obj)} (O : Off L rest) (h : ∀ p ∈ n, L + 4 < p.1) : Off L (n ++ rest) := fun p hp => by
  rcases List.mem_append.mp hp with hp | hp
  · exact .inr (h p hp)
  · exact O p hp
theorem LN_mono {L : Addr} {o1 o2 o3 o4 : Obj} {rest rest' : List (Addr × Obj)} (h : ∀ p ∈ rest, p ∈ rest') : ∀ p ∈ LN L o1 o2 o3 o4 rest, p ∈ LN L o1 o2 o3 o4 rest' := by
  intro p hp
  simp only [LN, List.mem_cons] at hp ⊢
  rcases hp with e | e | e | e | e
  · exact .inl e
  · exact .inr (.inl e)
  · exact .inr (.inr (.inl e))
  · exact .inr (.inr (.inr (.inl e)))
  · exact .inr (.inr (.inr (.inr (h p e))))
theorem climbTurn {w : World} {p : Program} {loose : List Str} {mean : ExcName → Option Value} {mg mb : Str → Option Value} {gd : Option (List Code)} {fa : Addr} {cd : Value} {outer : List Env} {A₀ : Around} {base h₀ : Heap} {L : Addr} {m : Str → Option Value} {o1 o2 o3 o4 : Obj} {rest : List (Addr × Obj)} {s : Shared} {Q : Flow → Shared → Prop} {E : Value → Shared → Prop} {TB : Str → List (Str × Int)} {C : List Call} {lc d : Addr} {vc : List Value} {nc : Nat} {kvs : List (Str × Value)} {D Hs : List (Str × Int)} {rd : List (Addr × Obj)}
    (B : Below A₀ base outer h₀) (F : Fr h₀ L s.heap m) (X : (KF w.params).In h₀) (N : News h₀ L s.heap (LN L o1 o2 o3 o4 rest)) (T : Top p loose mean mg mb h₀) (O : Off L rest)
    (c3 : o3.data = .cell (some (.ref lc))) (bC : C.length ≤ 11) (hbC : ∀ c ∈ C, Builtin.Int.intBits c.2.2 ≤ 64) (hTB : ∀ k, (TB k).length ≤ 20 ∧ ∀ e ∈ TB k, Builtin.Int.intBits e.2 ≤ 64)
    (hrd : ∀ p ∈ rd, p ∈ rest) (S : Cst w TB C lc d vc nc kvs m rd D Hs) (P : Plain TB C D Hs)
    (ret : ∀ m' new h' tk', Fr h₀ L h' m' → News h₀ L h' (LN L o1 o2 o3 o4 (new ++ rest)) → (∀ p ∈ new, ∀ q ∈ LN L o1 o2 o3 o4 rest, q.1 < p.1) → Cst w TB C lc d vc nc kvs m' (new ++ rd) (climb TB D) (Hs.flatMap (ysI C)) → (∀ y, y ≠ Str.ofString "level" → y ≠ Str.ofString "chains" → m' y = m y) → Q .next { s with heap := h', toks := tk' }) :
    wpAny (model pw w) (lawTop gd L fa cd outer) (execs [lawF0, lawF1, lawF2] (lawEnv L fa cd)) Q E s := by
  obtain ⟨hb, ⟨t, ot, kt, m1, ht, dt, lt, it⟩, ⟨l, vs, n, m2, hl, hH⟩, fr, ti, hlc, hC⟩ := S
  refine exc ?_
  refine segB1 B F X N T O hb m1 (fr.mono hrd) (ti.mono hrd) hTB (hrd _ ht) dt lt it P.bD ?_
  intro r o kr h1 tk1 F1 N1 lr lo dr ir
  have O1 : Off L ((r, o) :: rest) := Off.app (n := [(r, o)]) O fun p hp => by rw [List.mem_singleton.mp hp]; exact lr (L + 4, o4) (.head _)
  have s1 : ∀ p ∈ rest, p ∈ (r, o) :: rest := fun p hp => .tail _ hp
  refine exc ?_
  refine segB2 B F1 X N1 T O1 c3 (s1 _ (hrd _ hlc)) ((hC.mono hrd).mono s1) bC (H := Hs) (by with_unfolding_all exact m2) (s1 _ (hrd _ hl)) ((hH.mono hrd).mono s1) (Nat.le_trans P.bH (by decide)) hbC ?_
  intro D2 ws pre h2 tk2 F2 N2 l2 hD2
  have e1 : ∀ p ∈ (D2, lst ws) :: pre, ∀ q ∈ LN L o1 o2 o3 o4 rest, q.1 < p.1 := fun p hp q hq => l2 p hp q (LN_mono s1 q hq)
  have N2' : News h₀ L h2 (LN L o1 o2 o3 o4 (((D2, lst ws) :: pre ++ [(r, o)]) ++ rest)) := fun p hp => N2 p (by
    simp only [LN, List.mem_cons, List.mem_append, List.not_mem_nil, or_false] at hp ⊢
    rcases hp with e | e | e | e | ((e | e) | e) | e <;> simp [e])
  have hnew : ∀ p ∈ (D2, lst ws) :: pre ++ [(r, o)], ∀ q ∈ LN L o1 o2 o3 o4 rest, q.1 < p.1 := by
    intro p hp q hq
    rcases List.mem_append.mp hp with hp | hp
    · exact e1 p hp q hq
    · rw [List.mem_singleton.mp hp]; exact lr q hq
  have O2 : Off L (((D2, lst ws) :: pre ++ [(r, o)]) ++ rest) := O.app fun p hp => hnew p hp (L + 4, o4) (.head _)
  have s2 : ∀ p ∈ rd, p ∈ ((D2, lst ws) :: pre ++ [(r, o)]) ++ rd := fun p hp => List.mem_append_right _ hp
  have hbl : (Hs.flatMap (ysI C)).length ≤ 5000 := by
    have h1 := flatMap_le (k := 11) (g := ysI C) (fun a => Nat.le_trans (ysI_le C a) bC) Hs
    have := P.bH
    omega
  have hrm : (r, o) ∈ ((D2, lst ws) :: pre ++ [(r, o)]) ++ rest := List.mem_append_left _ (List.mem_append_right _ (.head _))
  have hDm : (D2, W.listOf ws.toArray ws.length) ∈ ((D2, lst ws) :: pre ++ [(r, o)]) ++ rest := .head _
  have hda : DatAll (((D2, lst ws) :: pre ++ [(r, o)]) ++ rest) ws ((Hs.flatMap (ysI C)).map prD) := hD2.mono fun p hp => .tail _ (List.mem_append_left _ (List.mem_append_left _ hp))
  refine exc ?_
  refine segB3 B F2 X N2' T O2 (H := Hs.flatMap (ysI C)) (Dt := climb TB D) (by with_unfolding_all rfl) hDm hda hbl (by with_unfolding_all rfl) hrm dr lo ir P.eq P.sum P.ok ?_
  intro h3 tk3 F3 N3
  refine exn ?_
  refine ret _ ((D2, lst ws) :: pre ++ [(r, o)]) h3 tk3 F3 N3 hnew ⟨by with_unfolding_all exact hb, ⟨r, o, kr, by with_unfolding_all rfl, List.mem_append_left _ (List.mem_append_right _ (.head _)), dr, lo, ir⟩, ⟨D2, ws, _, by with_unfolding_all rfl, .head _, hD2.mono fun p hp => .tail _ (List.mem_append_left _ (List.mem_append_left _ hp))⟩, fr.mono s2, ti.mono s2, s2 _ hlc, hC.mono s2⟩ ?_
  intro y h1 h2
  simp only [h1, h2, if_false]
theorem Cst.put {w : World} {TB : Str → List (Str × Int)} {C : List Call} {lc d : Addr} {vc : List Value} {nc : Nat} {kvs : List (Str × Value)} {m : Str → Option Value} {rest : List (Addr × Obj)} {D H : List (Str × Int)} (S : Cst w TB C lc d vc nc kvs m rest D H) (v : Value) :
    Cst w TB C lc d vc nc kvs (fun y => if y = Str.ofString "climb" then some v else m y) rest D H := by
  obtain ⟨hb, ⟨t, ot, kt, m1, r1⟩, ⟨l, vs, n, m2, r2⟩, r3, r4, r5, r6⟩ := S
  exact ⟨by with_unfolding_all exact hb, ⟨t, ot, kt, by with_unfolding_all exact m1, r1⟩, ⟨l, vs, n, by with_unfolding_all exact m2, r2⟩, r3, r4, r5, r6⟩
theorem turnR {w : World} {p : Program} {loose : List Str} {mean : ExcName → Option Value} {mg mb : Str → Option Value} {gd : Option (List Code)} {fa : Addr} {cd : Value} {outer : List Env} {A₀ : Around} {base h₀ : Heap} {L : Addr} {m : Str → Option Value} {o1 o2 o3 o4 : Obj} {rest : List (Addr × Obj)} {s : Shared} {Q : Flow → Shared → Prop} {E : Value → Shared → Prop} {TB : Str → List (Str × Int)} {C : List Call} {lc d : Addr} {vc : List Value} {nc : Nat} {kvs : List (Str × Value)} {D Hs : List (Str × Int)} {I : Addr} {a : Int} {nn k i : Nat}
    (B : Below A₀ base outer h₀) (X : (KF w.params).In h₀) (T : Top p loose mean mg mb h₀) (O : Off L rest)
    (c3 : o3.data = .cell (some (.ref lc))) (bC : C.length ≤ 11) (hbC : ∀ c ∈ C, Builtin.Int.intBits c.2.2 ≤ 64) (hTB : ∀ k, (TB k).length ≤ 20 ∧ ∀ e ∈ TB k, Builtin.Int.intBits e.2 ≤ 64)
    (hI : ∀ p ∈ LN L o1 o2 o3 o4 rest, p.1 ≠ I) (hIL : L + 4 < I) (S : Cst w TB C lc d vc nc kvs m rest D Hs) (P : Plain TB C D Hs)
    (next : ∀ m' new, (∀ p ∈ new, ∀ q ∈ LN L o1 o2 o3 o4 rest, q.1 < p.1) → (∀ p ∈ new, p.1 ≠ I) → Cst w TB C lc d vc nc kvs m' (new ++ rest) (climb TB D) (Hs.flatMap (ysI C)) → (∀ y, y ≠ Str.ofString "level" → y ≠ Str.ofString "chains" → y ≠ Str.ofString "climb" → m' y = m y) →
      RangeRest pw w (lawTop gd L fa cd outer) E h₀ (lawEnv L fa cd) (Str.ofString "climb") [lawF0, lawF1, lawF2] Q s I a nn k (i + 1) m' (LN L o1 o2 o3 o4 (new ++ rest))) :
    RangeRest pw w (lawTop gd L fa cd outer) E h₀ (lawEnv L fa cd) (Str.ofString "climb") [lawF0, lawF1, lawF2] Q s I a nn (k + 1) i m (LN L o1 o2 o3 o4 rest) := by
  refine RangeRest.succ fun t h tk F N => ?_
  have N' : News h₀ L h (LN L o1 o2 o3 o4 ((I, itR (a + ((i + 1 : Nat) : Int)) ((nn : Int) - ((i + 1 : Nat) : Int))) :: rest)) := fun p hp => N p (by
    simp only [LN, List.mem_cons] at hp ⊢
    rcases hp with e | e | e | e | e | e <;> simp [e])
  have O' : Off L ((I, itR (a + ((i + 1 : Nat) : Int)) ((nn : Int) - ((i + 1 : Nat) : Int))) :: rest) := Off.app (n := [(I, _)]) O fun p hp => by rw [List.mem_singleton.mp hp]; exact hIL
  refine climbTurn (s := { s with heap := h, toks := tk }) B F X N' T O' c3 bC hbC hTB (rd := rest) (fun p hp => .tail _ hp) (S.put _) P ?_
  intro m' new h' tk' F2 N2 ln S2 hm
  have hnI : ∀ p ∈ new, p.1 ≠ I := fun p hp => Nat.ne_of_gt (ln p hp (I, _) (.tail _ (.tail _ (.tail _ (.tail _ (.head _))))))
  have hn2 : ∀ p ∈ new, ∀ q ∈ LN L o1 o2 o3 o4 rest, q.1 < p.1 := fun p hp q hq => ln p hp q (LN_mono (fun p hp => .tail _ hp) q hq)
  show UnrEnd _ _ _ _ _ _ _
  refine UnrEnd.intro F2 N2 (LN L o1 o2 o3 o4 (new ++ rest)) ?_ ?_ (next m' new hn2 hnI S2 fun y h1 h2 h3 => by rw [hm y h1 h2, if_neg h3])
  · intro p hp
    simp only [LN, List.mem_cons, List.mem_append] at hp ⊢
    rcases hp with e | e | e | e | e | e | e <;> simp [e]
  · intro p hp
    simp only [LN, List.mem_cons, List.mem_append] at hp
    rcases hp with e | e | e | e | e | e
    · exact hI p (by simp [LN, e])
    · exact hI p (by simp [LN, e])
    · exact hI p (by simp [LN, e])
    · exact hI p (by simp [LN, e])
    · exact hnI p e
    · exact hI p (by simp [LN, e])
theorem seg8 {w : World} {p : Program} {loose : List Str} {mean : ExcName → Option Value} {mg mb : Str → Option Value} {gd : Option (List Code)} {fa : Addr} {cd : Value} {outer : List Env} {A₀ : Around} {base h₀ : Heap} {L : Addr} {m : Str → Option Value} {o1 o2 o3 o4 : Obj} {rest : List (Addr × Obj)} {s : Shared} {Q : Flow → Shared → Prop} {E : Value → Shared → Prop} {TB : Str → List (Str × Int)} {C : List Call} {lc d : Addr} {vc : List Value} {nc : Nat} {kvs : List (Str × Value)} {D Hs : List (Str × Int)}
    (B : Below A₀ base outer h₀) (F : Fr h₀ L s.heap m) (X : (KF w.params).In h₀) (N : News h₀ L s.heap (LN L o1 o2 o3 o4 rest)) (T : Top p loose mean mg mb h₀) (O : Off L rest) (hE : PassesOwn (model pw w) (lawTop gd L fa cd outer) (lawEnv L fa cd) E)
    (c3 : o3.data = .cell (some (.ref lc))) (bC : C.length ≤ 11) (hbC : ∀ c ∈ C, Builtin.Int.intBits c.2.2 ≤ 64) (hTB : ∀ k, (TB k).length ≤ 20 ∧ ∀ e ∈ TB k, Builtin.Int.intBits e.2 ≤ 64)
    (S : Cst w TB C lc d vc nc kvs m rest D Hs) (P0 : Plain TB C D Hs) (P1 : Plain TB C (climb TB D) (Hs.flatMap (ysI C))) (P2 : Plain TB C (climb TB (climb TB D)) ((Hs.flatMap (ysI C)).flatMap (ysI C)))
    (ret : ∀ m' new h' tk', Fr h₀ L h' m' → News h₀ L h' (LN L o1 o2 o3 o4 (new ++ rest)) → (∀ p ∈ new, ∀ q ∈ LN L o1 o2 o3 o4 rest, q.1 < p.1) → (∀ y, y ≠ Str.ofString "level" → y ≠ Str.ofString "chains" → y ≠ Str.ofString "climb" → m' y = m y) → Q .next { s with heap := h', toks := tk' }) :
    wpAny (model pw w) (lawTop gd L fa cd outer) (exec law8 (lawEnv L fa cd)) Q E s := by
  obtain ⟨hS0, gS0, dS0, tS0, oS0⟩ := s
  unfold law8
  with_unfolding_all refine For_invVF F ?k1 ?k2 ?_ (hE := hE)
  case k1 => exact rfl
  case k2 => exact rfl
  dsimp only [lawTop, lawEnv, lawScope, lawCl, LN] at *
  k_steps
  refine Halt.go ?_
  rename_i I lI
  have lI2 : ∀ q ∈ LN L o1 o2 o3 o4 rest, q.1 < I := tb_ltOf (show AllLt I (LN L o1 o2 o3 o4 rest) from lI)
  refine turnR (TB := TB) (C := C) B X T O c3 bC hbC hTB (fun p hp => Nat.ne_of_lt (lI2 p hp)) lI.1 S P0 ?_
  intro ma na l1 n1 S1 hm1
  have O1 : Off L (na ++ rest) := O.app fun p hp => l1 p hp (L + 4, o4) (.head _)
  have app : ∀ {x y : List (Addr × Obj)}, (∀ p ∈ x, p.1 ≠ I) → (∀ p ∈ LN L o1 o2 o3 o4 y, p.1 ≠ I) → ∀ p ∈ LN L o1 o2 o3 o4 (x ++ y), p.1 ≠ I := by
    intro x y hx hy p hp
    simp only [LN, List.mem_cons, List.mem_append] at hp
    rcases hp with e | e | e | e | e | e
    · exact hy p (by simp [LN, e])
    · exact hy p (by simp [LN, e])
    · exact hy p (by simp [LN, e])
    · exact hy p (by simp [LN, e])
    · exact hx p e
    · exact hy p (by simp [LN, e])
  have I1 := app n1 (fun p hp => Nat.ne_of_lt (lI2 p hp))
  refine turnR (TB := TB) (C := C) B X T O1 c3 bC hbC hTB I1 lI.1 S1 P1 ?_
  intro mb nb l2 n2 S2 hm2
  have O2 : Off L (nb ++ (na ++ rest)) := O1.app fun p hp => l2 p hp (L + 4, o4) (.head _)
  have I2 := app n2 I1
  refine turnR (TB := TB) (C := C) B X T O2 c3 bC hbC hTB I2 lI.1 S2 P2 ?_
  intro mc nc' l3 n3 S3 hm3
  refine RangeRest.zero fun h' tk' F3 N3 => ?_
  refine ret mc (nc' ++ nb ++ na) h' tk' F3 (by rw [List.append_assoc, List.append_assoc]; exact N3) ?_ (fun y h1 h2 h3 => by rw [hm3 y h1 h2 h3, hm2 y h1 h2 h3, hm1 y h1 h2 h3])
  intro p hp q hq
  rcases List.mem_append.mp hp with hp | hp
  · rcases List.mem_append.mp hp with hp | hp
    · exact l3 p hp q (LN_mono (fun p hp => List.mem_append_right _ (List.mem_append_right _ hp)) q hq)
    · exact l2 p hp q (LN_mono (fun p hp => List.mem_append_right _ hp) q hq)
  · exact l1 p hp q hq
end Mine
end
section
open PySem PySem.W PyProof.Rows PySem.Calls PyProof.Rows.LCg
set_option Elab.async false
set_option maxRecDepth 100000
set_option maxHeartbeats 4000000
namespace Mine
theorem warmLL : (fun (_ : Params → Frag) (_ : OpenLaw) => True) KF Challenge.rw_in0007_01 := by
  k_fill
  trivial
local macro_rules | `(tactic| k_room) => `(tactic| ktr_room)
local macro_rules | `(tactic| k_units) => `(tactic| ktr_units)
theorem Src.tup {prog : Program} {w : World} {A : Around} {target : Expr} {I : Addr} (hh : A.handled = none) {ax : Addr} (hne : ax ≠ I) {vs : List Value} {h : Heap} (hi : h.IsTupleIter I ax 0) (hl : h.IsTuple ax vs.toArray) : Src prog w A target I [I, ax] "tuple_iterator" (vs.map .val) h := by
  refine ⟨_, _, _, _, ?_, KTurns.ofWalks (Walks.tuple hh I ax hne vs.toArray) fun i v s Q E st q => letGo_tupleiter st.1 q, ?_, ?_, ⟨hi, hl⟩, fun s Q E st q => wpAny_pyIter_tupleiter st.1 q⟩
  · simp
  · intro i v h hp
    have hp' : vs.toArray[i]? = some v := hp
    exact ⟨.val v, by simpa using hp', rfl⟩
  · intro i h st
    obtain ⟨it, hit, hic, _⟩ := st.1
    exact ⟨it, hit, hic⟩
theorem srcTup {prog : Program} {w : World} {A : Around} {E : Value → Shared → Prop} {s : Shared} {h₀ : Heap} {L : Addr} {m : Str → Option Value} {news : List (Addr × Obj)} {l : Addr} {ol : Obj} {vs : List Value} {n : Nat} {Q : Value → Shared → Prop} (hh : A.handled = none) (F : Fr h₀ L s.heap m) (N : News h₀ L s.heap news) (hm : (l, ol) ∈ news) (hc : ol.cls = .type "tuple") (hd : ol.data = .seq vs.toArray n)
    (k : ∀ I h', Fr h₀ L h' m → News h₀ L h' news → (∀ p ∈ news, p.1 < I) → L < I → h₀.get? I = none → (∀ target, Src prog w A target I [I, l] "tuple_iterator" (vs.map .val) h') → Q (.ref I) { s with heap := h' }) :
    wpAny (model prog w) A (pyIter (.ref l)) Q E s := by
  have hl : s.heap.IsTuple l vs.toArray := ⟨ol, (N _ hm).1, hc, n, hd⟩
  refine wpAny_pyIter_tuple hl ?_
  refine k _ _ (F.push _) (fun p hp => ⟨Heap.get?_push_of_some _ (N p hp).1, (N p hp).2⟩) (fun p hp => Heap.lt_size (N p hp).1) F.ns.lt (next_is_new F) ?_
  exact fun target => Src.tup hh (Nat.ne_of_lt (Heap.lt_size (N _ hm).1)) ⟨_, Heap.get?_push_size _ rfl, rfl, rfl⟩ (hl.push _)
def ysB (C : List Call) (t : Str) : List (Str × Int) := (C.filter fun c => c.2.1 = t).map fun c => (c.1, c.2.2)
theorem ysB_le (C : List Call) (q : Str) : (ysB C q).length ≤ C.length := by
  unfold ysB
  rw [List.length_map]
  exact List.length_filter_le _ _
theorem filtB {t : Str} : ∀ (cx : List (Value × Call)), cx.flatMap (fun p => if p.2.2.1 = t then [prD (p.2.1, p.2.2.2)] else []) = (ysB (cx.map (·.2)) t).map prD
  | [] => rfl
  | p :: cx => by
    rw [List.flatMap_cons, filtB cx, List.map_cons]
    unfold ysB
    by_cases h : p.2.2.1 = t
    · rw [if_pos h, List.filter_cons_of_pos (by simpa using h)]; rfl
    · rw [if_neg h, List.filter_cons_of_neg (by simpa using h)]; rfl
theorem seg9 {w : World} {p : Program} {loose : List Str} {mean : ExcName → Option Value} {mg mb : Str → Option Value} {gd : Option (List Code)} {fa : Addr} {cd : Value} {outer : List Env} {A₀ : Around} {base h₀ : Heap} {L : Addr} {m : Str → Option Value} {o1 o2 o3 o4 : Obj} {rest : List (Addr × Obj)} {s : Shared} {Q : Flow → Shared → Prop} {E : Value → Shared → Prop} {lc : Addr} {vc : List Value} {nc : Nat} {C : List Call}
    (B : Below A₀ base outer h₀) (F : Fr h₀ L s.heap m) (X : (KF w.params).In h₀) (N : News h₀ L s.heap (LN L o1 o2 o3 o4 rest)) (T : Top p loose mean mg mb h₀) (O : Off L rest)
    (c3 : o3.data = .cell (some (.ref lc))) (hlc : (lc, W.listOf vc.toArray nc) ∈ rest) (hC : DatAll rest vc (C.map trD)) (bC : C.length ≤ 11)
    (ret : ∀ D ws pre h' tk', Fr h₀ L h' (fun y => if y = Str.ofString "both" then some (.ref D) else m y) → News h₀ L h' (LN L o1 o2 o3 o4 ((D, lst ws) :: (pre ++ rest))) → (∀ p ∈ (D, lst ws) :: pre, ∀ q ∈ LN L o1 o2 o3 o4 rest, q.1 < p.1) → DatAll pre ws ((ysB C (Str.ofString "x = y") ++ ysB C (Str.ofString "k")).map prD) → Q .next { s with heap := h', toks := tk' }) :
    wpAny (model pw w) (lawTop gd L fa cd outer) (exec law9 (lawEnv L fa cd)) Q E s := by
  obtain ⟨hS0, gS0, dS0, tS0, oS0⟩ := s
  unfold law9
  dsimp only [lawTop, lawEnv, lawScope, lawCl, LN] at *
  refine ncomp (h₀ := h₀) (α := Value × Str) (f := fun p => Itm.val p.1) (ys := fun p => (ysB C p.2).map prD) (Mp := fun _ => True) (cl := [(Str.ofString "calls", L + 3)]) ?hsw (by rfl) (by rfl) ?hclos (by decide) (by rfl) (by decide) (by decide) ?_
  case hclos => with_unfolding_all rfl
  case hsw => with_unfolding_all rfl
  k_steps
  rename Fr _ _ _ _ => F1
  rename News _ _ _ _ => N1
  rename_i TT h1 lT
  dsimp only []
  obtain ⟨ta, tb, oT, N1, eT⟩ : ∃ ta tb oT, News h₀ L h1 ((TT, oT) :: (L + 4, o4) :: (L + 3, o3) :: (L + 2, o2) :: (L + 1, o1) :: rest) ∧ oT = ({ cls := .type "tuple", data := .seq [.str (Str.ofString "x = y") ta, .str (Str.ofString "k") tb].toArray } : Obj) := ⟨_, _, _, N1, rfl⟩
  refine srcTup (vs := [.str (Str.ofString "x = y") ta, .str (Str.ofString "k") tb]) (n := 0) (by rfl) F1 N1 (.head _) (by rw [eT]) (by rw [eT]) ?_
  intro I h2 F2 N2 lI lL hI0 S2
  refine ⟨I, _, _, [(.str (Str.ofString "x = y") ta, Str.ofString "x = y"), (.str (Str.ofString "k") tb, Str.ofString "k")], _, _, [], [(TT, oT)], rfl, S2 _, F2, N2, lI, Nat.ne_of_lt lL, ?kp, hI0, ?fp, ?sz, trivial, ?step, ?fin⟩
  case kp => intro p hp; rw [List.mem_singleton.mp hp]; exact .head _
  case fp =>
    intro b hb
    rcases List.mem_cons.mp hb with rfl | hb
    · exact .inl rfl
    · rw [List.mem_singleton.mp hb]; exact .inr (.inl ⟨_, .head _⟩)
  case sz =>
    have h1 := flatMap_le (k := 11) (g := fun p : Value × Str => (ysB C p.2).map prD) (fun p => by rw [List.length_map]; exact Nat.le_trans (ysB_le C p.2) bC) [(.str (Str.ofString "x = y") ta, Str.ofString "x = y"), (.str (Str.ofString "k") tb, Str.ofString "k")]
    rw [sizeLine_eq]; simp only [List.length_cons, List.length_nil] at h1; omega
  case step =>
    intro D Cc h3 tk3 ln lD lC a ha E2 Kp v h tk m2 nn ws hv _ Fc Nc hnD hsub hlim hcont
    obtain ⟨x1, e1⟩ : ∃ x1, a.1 = .str a.2 x1 := by
      rcases List.mem_cons.mp ha with rfl | ha
      · exact ⟨_, rfl⟩
      · rw [List.mem_singleton.mp ha]; exact ⟨_, rfl⟩
    replace hv : v = .str a.2 x1 := by rw [← e1]; exact hv
    subst hv
    refine asg1 Fc Nc (by rfl) (by rfl) ?_
    intro h4 tk4 F4 N4
    unfold bodyN afterTests
    dsimp only []
    obtain ⟨cx, hc1, hc2, hc3⟩ := zipD hC
    refine innerL (h₀ := h₀) (ws := ws) (β := Value × Call) (f := fun p => Itm.val p.1) (ys := fun p => if p.2.2.1 = a.2 then [prD (p.2.1, p.2.2.2)] else []) (n0 := []) (nA := nn) (keep := [(lc, W.listOf vc.toArray nc)]) (Mp := fun mm => mm (Str.ofString "top") = some (.str a.2 x1)) (by rfl) (by rfl) (by decide) hnD (fun p hp => hp) ?kp2 ?_
    case kp2 => intro p hp; rw [List.mem_singleton.mp hp]; exact hsub _ (.tail _ (.tail _ (.tail _ (.tail _ (.tail _ hlc)))))
    refine lcf_cell N4 (by rfl) (.tail _ (hsub _ (.tail _ (.tail _ (.head _))))) c3 ?_ (by rfl) (by rfl)
    refine srcList (by rfl) F4 N4 (.tail _ (hsub _ (.tail _ (.tail _ (.tail _ (.tail _ (.tail _ hlc))))))) rfl rfl ?_
    intro J h5 F5 N5 lJ lLJ hJ0 S5
    refine ⟨J, _, _, cx, _, rfl, by rw [show cx.map (fun p => Itm.val p.1) = vc.map Itm.val by rw [← hc1, List.map_map]; rfl]; exact S5 _, F5, N5, lJ, Nat.ne_of_lt lLJ, hJ0, ?fp2, ?sz2, by with_unfolding_all rfl, ?step2, ?fin2⟩
    case step2 =>
      intro c hc E3 K3 v3 h6 tk6 m6 n6 hv3 hM6 F6 N6 hsub6 hadd hskip
      obtain ⟨T2, x2, y2, z2, k2, e2, hm2⟩ := tup3_of (hc3 c hc)
      replace hv3 : v3 = .ref T2 := by rw [← e2]; exact hv3
      subst hv3
      have hT2 : IsTup h6 T2 #[.str c.2.1 x2, .str c.2.2.1 y2, .int c.2.2.2 z2] := ⟨_, (N6 _ (hsub6 _ (hsub _ (.tail _ (.tail _ (.tail _ (.tail _ (.tail _ hm2)))))))).1, rfl, _, rfl⟩
      refine asg3 (by rfl) F6 N6 hT2 (by rfl) (by rfl) (by rfl) (by rfl) ?_
      intro h7 tk7 F7 N7
      unfold bodyL afterTests
      dsimp only []
      refine wpAny_isTrue_Compare1 ?_
      refine cn_own F7 (by rfl) ?_
      refine cn_own F7 (by with_unfolding_all exact hM6) ?_
      refine eq_str ?_
      refine wpAny_truthy_bool ?_
      by_cases hcc : c.2.2.1 = a.2
      · rw [if_pos (by simpa using hcc)]
        refine Tuple_ ?_
        refine spliced_cons ?_
        refine cn_own F7 (by rfl) ?_
        refine spliced_cons ?_
        refine cn_own F7 (by rfl) ?_
        refine spliced_nil ?_
        refine newTuple_N F7 N7 ?_
        intro h8 F8 N8
        dsimp only []
        dsimp only at F8 N8
        refine hadd _ _ _ _ [_] ?_ F8 N8 (fun p hp q hq => by rw [List.mem_singleton.mp hp]; exact Heap.lt_size (N7 q hq).1) ?_
        · with_unfolding_all exact hM6
        · dsimp only
          rw [if_pos hcc]
          exact .one (.tuple (.head _) (.cons (.str _ _) (.cons (.int _ _) .nil)))
      · rw [if_neg (by simpa using hcc)]
        exact hskip (by dsimp only; rw [if_neg hcc]) _ _ _ (by with_unfolding_all exact hM6) F7 N7
    case fp2 =>
      intro b hb
      rcases List.mem_cons.mp hb with rfl | hb
      · exact .inl rfl
      · rw [List.mem_singleton.mp hb]; exact .inr (.inl ⟨_, .head _⟩)
    case sz2 =>
      rw [filtB, hc2]
      have h1 := flatMap_le (k := 11) (g := fun p : Value × Str => (ysB C p.2).map prD) (fun p => by rw [List.length_map]; exact Nat.le_trans (ysB_le C p.2) bC) [(.str (Str.ofString "x = y") ta, Str.ofString "x = y"), (.str (Str.ofString "k") tb, Str.ofString "k")]
      have h4 : ws.length + (List.map prD (ysB C a.2)).length ≤ (List.flatMap (fun p : Value × Str => (ysB C p.2).map prD) [(.str (Str.ofString "x = y") ta, Str.ofString "x = y"), (.str (Str.ofString "k") tb, Str.ofString "k")]).length := hlim
      have h3 : ws.length + (List.map prD (ysB C a.2)).length ≤ sizeLine := by rw [sizeLine_eq]; simp only [List.length_cons, List.length_nil] at h1; omega
      exact h3
    case fin2 =>
      intro h' tk' m' ws' pre hM' F' N' ho hD
      rw [filtB, hc2] at hD
      exact hcont _ _ _ ws' pre trivial F' N' ho hD
  case fin =>
    intro D h' tk' ws pre F' N' ho ln hD
    refine ret D ws (pre ++ [(TT, oT)]) _ _ F' (fun p hp => N' p ?_) ?_ ?_
    · simp only [LN, List.mem_cons, List.mem_append, List.not_mem_nil, or_false] at hp ⊢
      rcases hp with e | e | e | e | e | (e | e) | e <;> simp [e]
    · intro p hp q hq
      rcases List.mem_cons.mp hp with rfl | hp
      · exact ln q (.tail _ hq)
      · rcases List.mem_append.mp hp with hp | hp
        · exact ho p hp q (.tail _ (.tail _ hq))
        · rw [List.mem_singleton.mp hp]
          exact tb_ltOf (show AllLt TT (LN L o1 o2 o3 o4 rest) from lT) q hq
    · rw [List.append_nil] at hD
      rw [List.map_append]
      simp only [List.flatMap_cons, List.flatMap_nil, List.append_nil] at hD
      exact hD.mono fun p hp => List.mem_append_left _ hp
end Mine
end
section
open PySem PySem.W PyProof.Rows PySem.Calls PyProof.Rows.LCg
set_option Elab.async false
set_option maxRecDepth 100000
set_option maxHeartbeats 4000000
namespace Mine
theorem warmLM10 : (fun (_ : Params → Frag) (_ : OpenLaw) => True) KF Challenge.rw_in0007_01 := by
  k_fill
  trivial
local macro_rules | `(tactic| k_room) => `(tactic| ktr_room)
local macro_rules | `(tactic| k_units) => `(tactic| ktr_units)
local macro_rules | `(tactic| walk_at "call ref") => `(tactic| refine Halt.at ?_)
local macro_rules | `(tactic| walk_at "getMethod ref") => `(tactic| refine Halt.at ?_)
local macro_rules | `(tactic| walk_at "call builtin:dict.items") => `(tactic| refine Halt.at ?_)
local macro_rules | `(tactic| walk_at "call type:list") => `(tactic| refine Halt.at ?_)
local macro_rules | `(tactic| walk_at "compareOp NotEq ref ref") => `(tactic| refine Halt.at ?_)
local macro_rules | `(tactic| walk_at "subscriptTail") => `(tactic| refine Halt.at ?_)
theorem seg10 {w : World} {p : Program} {loose : List Str} {mean : ExcName → Option Value} {mg mb : Str → Option Value} {gd : Option (List Code)} {fa : Addr} {cd : Value} {outer : List Env} {A₀ : Around} {base h₀ : Heap} {L : Addr} {m : Str → Option Value} {o1 o2 o3 o4 : Obj} {rest : List (Addr × Obj)} {s : Shared} {Q : Flow → Shared → Prop} {E : Value → Shared → Prop} {d l : Addr} {vs : List Value} {n : Nat} {kvs : List (Str × Value)} {TB : Str → List (Str × Int)} {H : List (Str × Int)}
    (B : Below A₀ base outer h₀) (F : Fr h₀ L s.heap m) (X : (KF w.params).In h₀) (N : News h₀ L s.heap (LN L o1 o2 o3 o4 rest)) (T : Top p loose mean mg mb h₀) (O : Off L rest)
    (hb : m (Str.ofString "book") = some (.ref d)) (FR : FrozenIn w rest d kvs) (TI : TabsIn w rest kvs TB) (hTB : ∀ k, (TB k).length ≤ 20)
    (hbo : m (Str.ofString "both") = some (.ref l)) (hl : (l, W.listOf vs.toArray n) ∈ rest) (hH : DatAll rest vs (H.map prD)) (bH : H.length ≤ 5000)
    (hEq : addAll (TB (Str.ofString "x = y")) (TB (Str.ofString "k")) = addAll [] H) (hok : ∀ q ∈ addAll [] H, PyData.strOk q.1 = true)
    (ret : ∀ h' tk', Fr h₀ L h' m → News h₀ L h' (LN L o1 o2 o3 o4 rest) → Q .next { s with heap := h', toks := tk' }) :
    wpAny (model pw w) (lawTop gd L fa cd outer) (exec law10 (lawEnv L fa cd)) Q E s := by
  obtain ⟨hS0, gS0, dS0, tS0, oS0⟩ := s
  unfold law10
  dsimp only [lawTop, lawEnv, lawScope, lawCl, LN] at *
  have F := putF (putF F hb) (x := Str.ofString "both") (v := .ref l) (by with_unfolding_all exact hbo)
  k_steps
  refine Halt.go ?_
  rename Fr _ _ _ _ => F1
  have s0 : ∀ p ∈ rest, p ∈ (L + 4, o4) :: (L + 3, o3) :: (L + 2, o2) :: (L + 1, o1) :: rest := fun p hp => .tail _ (.tail _ (.tail _ (.tail _ hp)))
  dsimp only []
  obtain ⟨dx1, es1, ep1, od1, I1⟩ := (FR.mono s0).inst N
  refine bk_sub (X.keeps F1.keep) I1 ?_
  refine readF B F1 X N T rfl (by show (302 : Nat) + 15 < recursionLimit; decide) (by show (7 : Nat) + 170 < cLine; decide) (FR.mono s0) (TI.mono s0) ?_
  intro u1 ou1 ku1 pre1 h1 tk1 F2 N2 l1 mu1 lu1 du1 iu1
  clear F1 I1
  dsimp only []
  k_steps
  refine Halt.go ?_
  have s1 : ∀ p ∈ rest, p ∈ pre1 ++ (L + 4, o4) :: (L + 3, o3) :: (L + 2, o2) :: (L + 1, o1) :: rest := fun p hp => List.mem_append_right _ (s0 p hp)
  obtain ⟨dx2, es2, ep2, od2, I2⟩ := (FR.mono s1).inst N2
  refine bk_sub (X.keeps F2.keep) I2 ?_
  refine readF B F2 X N2 T rfl (by show (302 : Nat) + 15 < recursionLimit; decide) (by show (7 : Nat) + 170 < cLine; decide) (FR.mono s1) (TI.mono s1) ?_
  intro u2 ou2 ku2 pre2 h2 tk2 F3 N3 l2 mu2 lu2 du2 iu2
  clear F2 I2 N2
  dsimp only []
  k_steps
  refine Halt.go ?_
  refine addc B F3 X N3 T rfl (List.mem_append_right _ mu1) du1 lu1 mu2 du2 lu2 iu1 iu2 (Nat.le_trans (hTB _) (by decide)) (Nat.le_trans (hTB _) (by decide)) (by show (302 : Nat) + 5 < recursionLimit; decide) (by show (7 : Nat) + 60 < cLine; decide) ?_
  intro r3 o3' kr3 h3 tk3 F4 N4 l3 lo3 d3 i3
  rw [hEq] at i3
  clear F3 N3
  dsimp only []
  k_steps
  refine Halt.go ?_
  with_unfolding_all refine kdl_method (knd := sk w) PySem.F.slot_dict_items PySem.F.type_dict_items N4 (.head _) d3 ?_
  k_steps
  refine Halt.go ?_
  rename Fr _ _ _ _ => F5
  refine kdx_view (knd := sk w) F5 N4 (.head _) d3 lo3 ?_
  intro vw h5 F6 N6 l5
  clear F5
  dsimp only []
  k_steps
  refine Halt.go ?_
  rename Fr _ _ _ _ => F7
  rename News _ _ _ _ => N7
  have hDl : (addAll [] H).length ≤ 5000 := by
    have := addAll_length [] H
    simp at this; omega
  refine listIt (by rfl) F7 N7 (.head _) (.tail _ (.head _)) d3 (by rw [i3.length, sizeLine_eq]; omega) i3 ?_
  intro r1 w1 tl1 cc1 h8 tk8 F8 N8 hd8 l8
  clear F7 N7
  dsimp only []
  k_steps
  refine Halt.go ?_
  have hsub : ∀ p ∈ rest, p ∈ (r1, W.listOf w1.toArray cc1) :: (tl1 ++ (vw, ({ cls := .type "dict_items", data := .fields #[.ref r3] } : Obj)) :: (r3, o3') :: (pre2 ++ (pre1 ++ (L + 4, o4) :: (L + 3, o3) :: (L + 2, o2) :: (L + 1, o1) :: rest))) := fun p hp => .tail _ (List.mem_append_right _ (.tail _ (.tail _ (List.mem_append_right _ (s1 p hp)))))
  refine sumsc B F8 X N8 T rfl (hsub _ hl) (hH.mono hsub) bH (by show (302 : Nat) + 15 < recursionLimit; decide) (by show (7 : Nat) + 160 < cLine; decide) ?_
  intro r2 w2 tl2 cc2 h6 tk6 F9 N9 hd6 l6
  clear F8 N8
  dsimp only []
  k_steps
  refine Halt.go ?_
  have ok1 : ∀ d ∈ (addAll [] H).map prD, kqdOk 8 d = true := by
    intro d hd
    obtain ⟨q, hq, rfl⟩ := List.mem_map.mp hd
    simp [prD, kqdOk, hok q hq]
  refine neSame N9 (.tail _ (List.mem_append_right _ (.head _))) rfl rfl hd8 (fun p hp => .tail _ (List.mem_append_right _ (.tail _ (List.mem_append_left _ hp)))) (.head _) rfl rfl hd6 (fun p hp => .tail _ (List.mem_append_left _ hp)) ok1 rfl (by show (7 : Nat) + 64 < cLine; decide) ?_
  k_steps
  rename Fr _ _ _ _ => FE
  refine ret _ _ (frEq FE ?_) (fun p hp => N9 p ?_)
  · intro y
    by_cases h1 : y = Str.ofString "both"
    · simp only [if_pos h1]; rw [h1, hbo]
    · by_cases h2 : y = Str.ofString "book"
      · simp only [if_neg h1, if_pos h2]; rw [h2, hb]
      · simp only [if_neg h1, if_neg h2]
  · exact .tail _ (List.mem_append_right _ (.tail _ (List.mem_append_right _ (.tail _ (.tail _ (List.mem_append_right _ (List.mem_append_right _ hp)))))))
end Mine
end
section
open PySem PySem.W PyProof.Rows PySem.Calls PyProof.Rows.LCg
set_option Elab.async false
set_option maxRecDepth 100000
set_option maxHeartbeats 4000000
namespace Mine
theorem warmLO : (fun (_ : Params → Frag) (_ : OpenLaw) => True) KF Challenge.rw_in0007_01 := by
  k_fill
  trivial
local macro_rules | `(tactic| k_room) => `(tactic| ktr_room)
local macro_rules | `(tactic| k_units) => `(tactic| ktr_units)
local macro_rules | `(tactic| walk_at "getMethod ref") => `(tactic| refine Halt.at ?_)
local macro_rules | `(tactic| walk_at "call builtin:dict.items") => `(tactic| refine Halt.at ?_)
local macro_rules | `(tactic| walk_at "eval ListComp") => `(tactic| refine Halt.at ?_)
local macro_rules | `(tactic| walk_at "compareOp Eq ref ref") => `(tactic| refine Halt.at ?_)
theorem cn_list {w : World} {A : Around} {E : Value → Shared → Prop} {s : Shared} {p : Program} {loose : List Str} {mean : ExcName → Option Value} {mg mb : Str → Option Value} {h₀ : Heap} {C : Addr} {m : Str → Option Value} {scope : Scope} {cl : List (Str × Addr)} {env : Env} {pos : Pos} {Q : Value → Shared → Prop} (X : (KF w.params).In h₀) (T : Top p loose mean mg mb h₀) (F : Fr h₀ C s.heap m)
    (hg : env.globals = mainGlobals) (hb : env.builtins = builtinsNs) (h : Q (.type "list") s)
    (hk : (compEnvC scope cl C env).scope.kind = .function := by rfl) (hx : (compEnvC scope cl C env).kindOf (Str.ofString "list") = some .globalImplicit := by rfl) :
    wpAny (model pw w) A (eval (.Name (Str.ofString "list") pos) (compEnvC scope cl C env)) Q E s := by
  have TR := topRead_of T
  have hmiss : mg (Str.ofString "list") = none := mg_none_of X TR.g (by kernel_rfl)
  have hv : mb (Str.ofString "list") = some (.type "list") := (TR.builtins _ (by decide)).trans (by boot_by_name)
  obtain ⟨sc, lo, gl, ce, qu, fu, co, fr, bu⟩ := env
  dsimp only at hg hb
  subst hg hb
  exact Calls.Name_function_global hk hx (Calls.loadGlobal_builtin (env := compEnvC scope cl C _) (TR.g.keeps F.keep) hmiss (TR.b.keeps F.keep) hv h) (by decide)
def bookD (TB : Str → List (Str × Int)) (k : Str) : Dat := .tuple [.str k, .list ((TB k).map prD)]
theorem flat1 {TB : Str → List (Str × Int)} : ∀ (kvs : List (Str × Value)), kvs.flatMap (fun p => [bookD TB p.1]) = kvs.map (bookD TB ∘ fun p => p.1)
  | [] => rfl
  | p :: r => by rw [List.flatMap_cons, flat1 r]; rfl
theorem valueAt_mem : ∀ {kvs : List (Str × Value)}, (kvs.map (·.1)).Nodup → ∀ {a : Str × Value}, a ∈ kvs → valueAt kvs a.1 = some a.2
  | [], _, _, h => nomatch h
  | p :: r, hn, a, h => by
    rw [valueAt_cons]
    rw [List.map_cons, List.nodup_cons] at hn
    rcases List.mem_cons.mp h with rfl | h
    · rw [if_pos rfl]
    · rw [if_neg fun e => hn.1 (by rw [e]; exact List.mem_map_of_mem h)]
      exact valueAt_mem hn.2 h
theorem seg13 {w : World} {p : Program} {loose : List Str} {mean : ExcName → Option Value} {mg mb : Str → Option Value} {gd : Option (List Code)} {fa : Addr} {cd : Value} {outer : List Env} {A₀ : Around} {base h₀ : Heap} {L : Addr} {m : Str → Option Value} {o1 o2 o3 o4 : Obj} {rest : List (Addr × Obj)} {s : Shared} {Q : Flow → Shared → Prop} {E : Value → Shared → Prop} {d l : Addr} {vs : List Value} {n : Nat} {kvs : List (Str × Value)} {TB : Str → List (Str × Int)} {ds : List Dat}
    (B : Below A₀ base outer h₀) (F : Fr h₀ L s.heap m) (X : (KF w.params).In h₀) (N : News h₀ L s.heap (LN L o1 o2 o3 o4 rest)) (T : Top p loose mean mg mb h₀)
    (hb : m (Str.ofString "book") = some (.ref d)) (FR : FrozenIn w rest d kvs) (TI : TabsIn w rest kvs TB) (hTB : ∀ k, (TB k).length ≤ 20) (hkl : kvs.length ≤ 20) (hnd : (kvs.map (·.1)).Nodup)
    (hto : m (Str.ofString "told") = some (.ref l)) (hl : (l, W.listOf vs.toArray n) ∈ rest) (hH : DatAll rest vs ds)
    (hEq : ds = (kvs.map (·.1)).map (bookD TB)) (hok : ∀ d ∈ ds, kqdOk 8 d = true)
    (ret : ∀ h' tk', Fr h₀ L h' m → News h₀ L h' (LN L o1 o2 o3 o4 rest) → Q (.ret (.bool true)) { s with heap := h', toks := tk' }) :
    wpAny (model pw w) (lawTop gd L fa cd outer) (exec law13 (lawEnv L fa cd)) Q E s := by
  obtain ⟨hS0, gS0, dS0, tS0, oS0⟩ := s
  unfold law13
  dsimp only [lawTop, lawEnv, lawScope, lawCl, LN] at *
  have F := putF (putF F hb) (x := Str.ofString "told") (v := .ref l) (by with_unfolding_all exact hto)
  k_steps
  refine Halt.go ?_
  rename Fr _ _ _ _ => F1
  obtain ⟨dx, es, ep, f, c, oc, vs', tq, pm, ct, clc, oC, tk0, md, BD, mdx, mf, mcl, hcl, mc, hoc, hvs, hds⟩ := FR
  have s0 : ∀ p ∈ rest, p ∈ (L + 4, o4) :: (L + 3, o3) :: (L + 2, o2) :: (L + 1, o1) :: rest := fun p hp => .tail _ (.tail _ (.tail _ (.tail _ hp)))
  refine lcomp (h₀ := h₀) (α := Str × Value) (f := fun p => Itm.pair (fun t => Value.str p.1 t) p.2) (ys := fun p => [bookD TB p.1]) (Mp := fun _ => True) (cl := []) ?hclos (by decide) (by rfl) (by decide) (by decide) ?_
  case hclos => with_unfolding_all rfl
  k_steps
  refine Halt.go ?_
  rename Fr _ _ _ _ => F2
  have I2 : InstAt hS0 d (bookObj dx es ep) (nat_lit 122) (some (frozenObj w.params tk0 (.ref f))) := ⟨(N _ (s0 _ md)).1, rfl, rfl, (N _ (s0 _ mdx)).1⟩
  refine bk_method (X.keeps F2.keep) I2 (N _ (s0 _ mdx)).1 (f := .builtin "dict.items") (T := "method_descriptor") (by kernel_rfl) (looks_typeIn (X.keeps F2.keep) (by kernel_rfl)) (by decide) (by rfl) ?_
  k_steps
  refine Halt.go ?_
  rename Fr _ _ _ _ => F3
  refine bk_items (X.keeps F3.keep) I2 hds ?_
  have hvw : ∃ vw h3, h3 = hS0.push { cls := .type "dict_items", data := .fields #[.ref d] } ∧ vw = hS0.objs.size := ⟨_, _, rfl, rfl⟩
  obtain ⟨vw, h3, e3, evw⟩ := hvw
  have F4 := F3.push (o := { cls := .type "dict_items", data := .fields #[.ref d] })
  have N4 := News.push F3 N { cls := .type "dict_items", data := .fields #[.ref d] }
  have lvw : ∀ q ∈ (L + 4, o4) :: (L + 3, o3) :: (L + 2, o2) :: (L + 1, o1) :: rest, q.1 < vw := fun q hq => by rw [evw]; exact Heap.lt_size (N q hq).1
  dsimp only [] at F4 N4 ⊢
  rw [← e3, ← evw] at N4
  rw [← e3] at F4
  rw [← e3, ← evw]
  have hview : h3.IsItemsView vw d := ⟨_, (N4 _ (.head _)).1, rfl, rfl⟩
  refine srcBook (by rfl) F4 N4 hview (.tail _ (s0 _ md)) BD ?_
  intro I h5 F5 N5 lI lL hI0 S5
  refine ⟨I, _, _, kvs, _, _, [], [(d, bookObj dx es ep)], rfl, S5 _ _ _, F5, N5, lI, Nat.ne_of_lt lL, ?kp, hI0, ?fp, ?sz, trivial, ?step, ?fin⟩
  case kp => intro p hp; rw [List.mem_singleton.mp hp]; exact .tail _ (s0 _ md)
  case fp =>
    intro b hb
    rcases List.mem_cons.mp hb with rfl | hb
    · exact .inl rfl
    · rw [List.mem_singleton.mp hb]; exact .inr (.inl ⟨_, .head _⟩)
  case sz =>
    have h1 := flatMap_le (k := 1) (g := fun p : Str × Value => [bookD TB p.1]) (fun _ => by simp) kvs
    rw [sizeLine_eq]; omega
  case step =>
    intro D Cc h3' tk3' ln lD lC a ha E2 Kp v h tk m2 nn hv _ Fc Nc hsub3 hadd hskip
    obtain ⟨T1, t1, rfl, hT1⟩ := hv
    refine asg2 (by rfl) Fc Nc hT1 (by rfl) (by rfl) (by rfl) ?_
    intro h6 tk6 F6 N6
    unfold bodyL afterTests
    dsimp only []
    have hva : valueAt kvs a.1 = some a.2 := valueAt_mem hnd ha
    have TIa := TI a.1
    rw [hva] at TIa
    obtain ⟨ta, oa, ka, ea, la, hma, da, ia⟩ := TIa
    have hma2 : (ta, oa) ∈ nn := hsub3 _ (.tail _ (s0 _ hma))
    refine Tuple_ ?_
    refine spliced_cons ?_
    refine cn_own F6 (by rfl) ?_
    refine spliced_cons ?_
    refine Call_Name1 ?_
    refine cn_list X T F6 (by rfl) (by rfl) ?_
    refine PySem.callWith_type1 ?_
    with_unfolding_all refine MethodCall_ ?_
    refine cn_own F6 (v := .ref ta) (by with_unfolding_all exact congrArg some ea) ?_
    with_unfolding_all refine kdl_method (knd := sk w) PySem.F.slot_dict_items PySem.F.type_dict_items N6 hma2 da ?_
    refine callWith_method0 ?_
    refine kdx_view (knd := sk w) F6 N6 hma2 da la ?_
    intro vw2 h7 F7 N7 l7
    dsimp only []
    refine listIt (by rfl) F7 N7 (.head _) (.tail _ hma2) da (by rw [ia.length, sizeLine_eq]; have := hTB a.1; omega) ia ?_
    intro r1 w1 tl1 cc1 h8 tk8 F8 N8 hd8 l8
    dsimp only []
    refine spliced_nil ?_
    refine newTuple_N F8 N8 ?_
    intro h9 F9 N9
    dsimp only []
    dsimp only at F9 N9
    have hlt : ∀ q ∈ (r1, W.listOf w1.toArray cc1) :: (tl1 ++ (vw2, ({ cls := .type "dict_items", data := .fields #[.ref ta] } : Obj)) :: nn), q.1 < h8.objs.size := fun q hq => Heap.lt_size (N8 q hq).1
    refine hadd _ _ _ _ ((h8.objs.size, ({ cls := .type "tuple", data := .seq [Value.str a.1 t1, .ref r1].toArray } : Obj)) :: (r1, W.listOf w1.toArray cc1) :: (tl1 ++ [(vw2, ({ cls := .type "dict_items", data := .fields #[.ref ta] } : Obj))])) trivial F9 (fun p hp => N9 p ?_) ?_ ?_
    · simp only [List.mem_cons, List.mem_append, List.cons_append, List.append_assoc, List.nil_append] at hp ⊢
      exact hp
    · intro p hp q hq
      rcases List.mem_cons.mp hp with rfl | hp
      · exact hlt q (.tail _ (List.mem_append_right _ (.tail _ hq)))
      · rcases List.mem_cons.mp hp with rfl | hp
        · exact l8 _ (.head _) q (.tail _ hq)
        · rcases List.mem_append.mp hp with hp | hp
          · exact l8 p (.tail _ hp) q (.tail _ hq)
          · rw [List.mem_singleton.mp hp]; exact l7 q hq
    · refine .one (.tuple (.head _) (.cons (.str _ _) (.cons (.list (.tail _ (.head _)) (hd8.mono fun p hp => ?_)) .nil)))
      exact .tail _ (.tail _ (List.mem_append_left _ (List.mem_append_left _ hp)))
  case fin =>
    intro D h' tk' ws pre F' N' ho ln hD
    have e1 : kvs.flatMap (fun p => [bookD TB p.1]) = ds := by
      rw [hEq, List.map_map]
      exact flat1 kvs
    rw [e1, List.append_nil] at hD
    k_steps
    refine Halt.go ?_
    refine eqSame N' (.head _) rfl rfl hD (fun p hp => .tail _ (List.mem_append_left _ hp)) (.tail _ (List.mem_append_right _ (.tail _ (s0 _ hl)))) rfl rfl hH (fun p hp => .tail _ (List.mem_append_right _ (.tail _ (s0 _ hp)))) hok rfl (by show (7 : Nat) + 64 < cLine; decide) ?_
    k_steps
    rename Fr _ _ _ _ => FE
    refine ret _ _ (frEq FE ?_) (fun p hp => N' p ?_)
    · intro y
      by_cases h1 : y = Str.ofString "told"
      · simp only [if_pos h1]; rw [h1, hto]
      · by_cases h2 : y = Str.ofString "book"
        · simp only [if_neg h1, if_pos h2]; rw [h2, hb]
        · simp only [if_neg h1, if_neg h2]
    · exact .tail _ (List.mem_append_right _ (.tail _ hp))
end Mine
end
section
open PySem PySem.W PyProof.Rows PySem.Calls PyProof.Rows.LCg
set_option Elab.async false
set_option maxRecDepth 100000
set_option maxHeartbeats 4000000
namespace Mine
theorem warmLP : (fun (_ : Params → Frag) (_ : OpenLaw) => True) KF Challenge.rw_in0007_01 := by
  k_fill
  trivial
local macro_rules | `(tactic| k_room) => `(tactic| ktr_room)
local macro_rules | `(tactic| k_units) => `(tactic| ktr_units)
local macro_rules | `(tactic| walk_at "eval ListComp") => `(tactic| refine Halt.at ?_)
local macro_rules | `(tactic| walk_at "call ref") => `(tactic| refine Halt.at ?_)
theorem seg11 {w : World} {p : Program} {loose : List Str} {mean : ExcName → Option Value} {mg mb : Str → Option Value} {gd : Option (List Code)} {fa : Addr} {cd : Value} {outer : List Env} {A₀ : Around} {base h₀ : Heap} {L : Addr} {m : Str → Option Value} {o1 o2 o3 o4 : Obj} {rest : List (Addr × Obj)} {s : Shared} {Q : Flow → Shared → Prop} {E : Value → Shared → Prop}
    (B : Below A₀ base outer h₀) (F : Fr h₀ L s.heap m) (X : (KF w.params).In h₀) (N : News h₀ L s.heap (LN L o1 o2 o3 o4 rest)) (T : Top p loose mean mg mb h₀) (O : Off L rest)
    (ret : ∀ l h' tk', Fr h₀ L h' (fun y => if y = Str.ofString "told" then some (.ref l) else m y) → News h₀ L h' (LN L o1 o2 o3 o4 ((l, W.listOf #[] 0) :: rest)) → (∀ q ∈ LN L o1 o2 o3 o4 rest, q.1 < l) → Q .next { s with heap := h', toks := tk' }) :
    wpAny (model pw w) (lawTop gd L fa cd outer) (exec law11 (lawEnv L fa cd)) Q E s := by
  obtain ⟨hS0, gS0, dS0, tS0, oS0⟩ := s
  unfold law11
  dsimp only [lawTop, lawEnv, lawScope, lawCl, LN] at *
  k_steps
  rename Fr _ _ _ _ => F1
  rename News _ _ _ _ => N1
  rename_i l g1 l1 g2
  refine ret l _ _ F1 (fun p hp => N1 p ?_) (tb_ltOf (show AllLt l (LN L o1 o2 o3 o4 rest) from l1))
  simp only [List.mem_cons] at hp ⊢
  rcases hp with e | e | e | e | e | e <;> simp [e]
def ysC (c : Call) : List Dat := [.tuple [.str c.2.1, .int 0]]
theorem ysC_flat : ∀ (xs : List (Value × Call)), xs.flatMap (fun p => ysC p.2) = ((xs.map (·.2)).map fun c => (c.2.1, (0 : Int))).map prD
  | [] => rfl
  | p :: r => by rw [List.flatMap_cons, ysC_flat r]; rfl
def namesC (C : List Call) : List (Str × Int) := addAll [] (C.map fun c => (c.2.1, (0 : Int)))
def toldD (C : List Call) (q : Str × Int) : Dat := .tuple [.str q.1, .list ((addAll [] (ysB C q.1)).map prD)]
theorem seg12 {w : World} {p : Program} {loose : List Str} {mean : ExcName → Option Value} {mg mb : Str → Option Value} {gd : Option (List Code)} {fa : Addr} {cd : Value} {outer : List Env} {A₀ : Around} {base h₀ : Heap} {L : Addr} {m : Str → Option Value} {o1 o2 o3 o4 : Obj} {rest : List (Addr × Obj)} {s : Shared} {Q : Flow → Shared → Prop} {E : Value → Shared → Prop} {lc td : Addr} {vc : List Value} {nc : Nat} {C : List Call}
    (B : Below A₀ base outer h₀) (F : Fr h₀ L s.heap m) (X : (KF w.params).In h₀) (N : News h₀ L s.heap (LN L o1 o2 o3 o4 ((td, W.listOf #[] 0) :: rest))) (T : Top p loose mean mg mb h₀) (O : Off L rest) (hE : PassesOwn (model pw w) (lawTop gd L fa cd outer) (lawEnv L fa cd) E)
    (c3 : o3.data = .cell (some (.ref lc))) (c4 : ∃ v, o4.data = .cell v) (hlc : (lc, W.listOf vc.toArray nc) ∈ rest) (hC : DatAll rest vc (C.map trD)) (bC : C.length ≤ 11)
    (hto : m (Str.ofString "told") = some (.ref td)) (ltd : ∀ q ∈ LN L o1 o2 o3 o4 rest, q.1 < td)
    (ret : ∀ m' o4' xs k fr base h' tk', Fr h₀ L h' m' → News h₀ L h' (LN L o1 o2 o3 o4' ((td, W.listOf xs.toArray k) :: (fr ++ base))) → (∀ p ∈ rest, p ∈ base) → DatAll (fr ++ base) xs ((namesC C).map (toldD C)) → (∀ y, y ≠ Str.ofString "nothing" → m' y = m y) → Q .next { s with heap := h', toks := tk' }) :
    wpAny (model pw w) (lawTop gd L fa cd outer) (exec law12 (lawEnv L fa cd)) Q E s := by
  obtain ⟨hS0, gS0, dS0, tS0, oS0⟩ := s
  unfold law12 lawG0
  with_unfolding_all refine For_turns F ?_ (hE := hE)
  dsimp only [lawTop, lawEnv, lawScope, lawCl, LN] at *
  have F := putF F hto
  k_steps
  obtain ⟨cx, hc1, hc2, hc3⟩ := zipD hC
  refine Halt.go ?_
  rename Fr _ _ _ _ => F1
  refine lcomp (h₀ := h₀) (α := Value × Call) (f := fun p => Itm.val p.1) (ys := fun p => ysC p.2) (Mp := fun _ => True) (cl := []) ?hclos (by decide) (by rfl) (by decide) (by decide) ?_
  case hclos => with_unfolding_all rfl
  k_steps
  have s0 : ∀ p ∈ rest, p ∈ (L + 4, o4) :: (L + 3, o3) :: (L + 2, o2) :: (L + 1, o1) :: (td, W.listOf #[] 0) :: rest := fun p hp => .tail _ (.tail _ (.tail _ (.tail _ (.tail _ hp))))
  rename Fr _ _ _ _ => F2
  refine srcList (by rfl) F2 N (s0 _ hlc) rfl rfl ?_
  intro I0 h2 F3 N3 lI0 lL0 hI00 S2
  refine ⟨I0, _, _, cx, _, _, [], [(lc, W.listOf vc.toArray nc)], rfl, by rw [show cx.map (fun p => Itm.val p.1) = vc.map Itm.val by rw [← hc1, List.map_map]; rfl]; exact S2 _, F3, N3, lI0, Nat.ne_of_lt lL0, ?kp, hI00, ?fp, ?sz, trivial, ?step, ?fin⟩
  case kp => intro p hp; rw [List.mem_singleton.mp hp]; exact s0 _ hlc
  case fp =>
    intro b hb
    rcases List.mem_cons.mp hb with rfl | hb
    · exact .inl rfl
    · rw [List.mem_singleton.mp hb]; exact .inr (.inl ⟨_, .head _⟩)
  case sz => rw [ysC_flat, List.length_map, List.length_map, hc2, sizeLine_eq]; omega
  case step =>
    intro D Cc h3' tk3' ln lD lC a ha E2 Kp v h tk m2 nn hv _ Fc Nc hsub3 hadd hskip
    obtain ⟨T2, x2, y2, z2, k2, e2, hm2⟩ := tup3_of (hc3 a ha)
    replace hv : v = .ref T2 := by rw [← e2]; exact hv
    subst hv
    have hT2 : IsTup h T2 #[.str a.2.1 x2, .str a.2.2.1 y2, .int a.2.2.2 z2] := ⟨_, (Nc _ (hsub3 _ (s0 _ hm2))).1, rfl, _, rfl⟩
    refine asg3 (by rfl) Fc Nc hT2 (by rfl) (by rfl) (by rfl) (by rfl) ?_
    intro h7 tk7 F7 N7
    unfold bodyL afterTests
    dsimp only []
    refine Tuple_ ?_
    refine spliced_cons ?_
    refine cn_own F7 (by rfl) ?_
    refine spliced_cons ?_
    refine wpAny_Constant_int (k := 0) (pos := ⟨0,0,0,0⟩) ?_
    refine spliced_nil ?_
    refine newTuple_N F7 N7 ?_
    intro h8 F8 N8
    dsimp only []
    dsimp only at F8 N8
    refine hadd _ _ _ _ [_] trivial F8 N8 (fun p hp q hq => by rw [List.mem_singleton.mp hp]; exact Heap.lt_size (N7 q hq).1) ?_
    exact .one (.tuple (.head _) (.cons (.str _ _) (.cons (.int _ _) .nil)))
  case fin =>
    intro D6 h' tk' ws6 pre6 F4 N4 ho6 ln6 hD6
    rw [ysC_flat, hc2] at hD6
    k_steps
    refine Halt.go ?_
    rename Fr _ _ _ _ => F5
    refine sumsc B F5 X N4 T rfl (.head _) (hD6.mono fun p hp => .tail _ (List.mem_append_left _ (by simpa using hp))) (by rw [List.length_map]; omega) (by show (302 : Nat) + 15 < recursionLimit; decide) (by show (7 : Nat) + 160 < cLine; decide) ?_
    intro r wsN tl2 cN h5 tk5 F6 N6 hdN l6
    clear F5 N4
    dsimp only []
    obtain ⟨base, hbase⟩ : ∃ b, b = (r, W.listOf wsN.toArray cN) :: (tl2 ++ (D6, lst ws6) :: (pre6 ++ rest)) := ⟨_, rfl⟩
    have hrm : (r, W.listOf wsN.toArray cN) ∈ base := by rw [hbase]; exact .head _
    have hrb : ∀ p ∈ rest, p ∈ base := fun p hp => by rw [hbase]; exact .tail _ (List.mem_append_right _ (.tail _ (List.mem_append_right _ hp)))
    have N7 : News h₀ L h5 (LN L o1 o2 o3 o4 ((td, W.listOf #[] 0) :: base)) := fun p hp => N6 p (by
      rw [hbase] at hp
      simp only [LN, List.mem_cons, List.mem_append] at hp ⊢
      rcases hp with e | e | e | e | e | e | e | e | e | e <;> simp [e])
    have hdB : DatAll base wsN ((namesC C).map prD) := hdN.mono fun p hp => by rw [hbase]; exact .tail _ (List.mem_append_left _ hp)
    have hnew : ∀ p ∈ base, p ∈ rest ∨ (L + 4 < p.1 ∧ td < p.1) := by
      intro p hp
      have mq : ∀ (q : Addr × Obj), q ∈ LN L o1 o2 o3 o4 ((td, W.listOf #[] 0) :: rest) → q ∈ (D6, lst ws6) :: (pre6 ++ LN L o1 o2 o3 o4 ((td, W.listOf #[] 0) :: rest)) := fun q hq => .tail _ (List.mem_append_right _ hq)
      rw [hbase] at hp
      rcases List.mem_cons.mp hp with rfl | hp
      · exact .inr ⟨l6 _ (.head _) (L + 4, o4) (mq _ (.head _)), l6 _ (.head _) (td, _) (mq _ (.tail _ (.tail _ (.tail _ (.tail _ (.head _))))))⟩
      · rcases List.mem_append.mp hp with hp | hp
        · exact .inr ⟨l6 p (.tail _ hp) (L + 4, o4) (mq _ (.head _)), l6 p (.tail _ hp) (td, _) (mq _ (.tail _ (.tail _ (.tail _ (.tail _ (.head _))))))⟩
        · rcases List.mem_cons.mp hp with rfl | hp
          · exact .inr ⟨ln6 (L + 4, o4) (.head _), ln6 (td, _) (.tail _ (.tail _ (.tail _ (.tail _ (.head _)))))⟩
          · rcases List.mem_append.mp hp with hp | hp
            · exact .inr ⟨ho6 p hp (L + 4, o4) (.tail _ (.head _)), ho6 p hp (td, _) (.tail _ (.tail _ (.tail _ (.tail _ (.tail _ (.head _))))))⟩
            · exact .inl hp
    have hL4 : L + 4 < td := ltd (L + 4, o4) (.head _)
    have Ob : Off L base := fun p hp => by
      rcases hnew p hp with h | h
      · exact O p h
      · exact .inr h.1
    have hbt : ∀ p ∈ base, p.1 ≠ td := fun p hp => by
      rcases hnew p hp with h | h
      · exact Nat.ne_of_lt (ltd p (.tail _ (.tail _ (.tail _ (.tail _ h)))))
      · exact Nat.ne_of_gt h.2
    clear N6
    refine iter_listTurns (by rfl) F6 N7 (.tail _ (.tail _ (.tail _ (.tail _ (.tail _ hrm))))) (by rfl) (by rfl) ?_
    intro I hI
    refine itemsInv (α := Value) (f := Itm.val) (fun r' mm n' => ∃ o4' xs k fr Dd Dr, n' = LN L o1 o2 o3 o4' ((td, W.listOf xs.toArray k) :: (fr ++ base)) ∧ (∃ v, o4'.data = .cell v) ∧ namesC C = Dd ++ Dr ∧ DatAll base r' (Dr.map prD) ∧ DatAll (fr ++ base) xs (Dd.map (toldD C)) ∧
      mm (Str.ofString "told") = some (.ref td) ∧ (∀ p ∈ fr, L + 4 < p.1 ∧ p.1 ≠ td ∧ p.1 ≠ I) ∧ (∀ y, y ≠ Str.ofString "nothing" → mm y = m y)) ?step2 ?done wsN _ _ ?start
    case start =>
      refine ⟨o4, [], 0, [], [], namesC C, rfl, c4, rfl, hdB, .nil, by with_unfolding_all rfl, (fun _ h => nomatch h), fun y _ => ?_⟩
      by_cases h1 : y = Str.ofString "told"
      · simp only [if_pos h1]; rw [h1, hto]
      · simp only [if_neg h1]
    case done =>
      rintro mm n' ⟨o4', xs, k, fr, Dd, Dr, rfl, c4', hDD, hr, hxs, m1, hfr, hmm⟩ h tk F N
      cases Dr with
      | cons q Dr => cases hr
      | nil =>
        rw [List.append_nil] at hDD
        rw [← hDD] at hxs
        exact ret mm o4' xs k fr base h tk F N hrb hxs hmm
    case step2 =>
      clear F6 N7
      rintro v r' mm n' ⟨o4', xs, k, fr, Dd, Dr, rfl, ⟨v4, c4'⟩, hDD, hr, hxs, m1, hfr, hmm⟩ v' h tk rfl F
      refine AllObj.cons fun oI cI => AllObj.nil fun N => ?_
      refine absG fun G E9 hG => ?_
      have F := putF F m1
      cases Dr with
      | nil => cases hr
      | cons q Dr =>
        cases hr with
        | cons hq hr =>
          obtain ⟨T2, x2, y2, k2, rfl, hm2⟩ := tup2_of hq
          have hT2 : IsTup h T2 #[.str q.1 x2, .int q.2 y2] := ⟨_, (N _ (.tail _ (.tail _ (.tail _ (.tail _ (.tail _ (.tail _ (List.mem_append_right _ hm2)))))))).1, rfl, _, rfl⟩
          dsimp only [LN] at N
          k_steps
          rename Fr _ _ _ _ => F8
          rename News _ _ _ _ => N8
          rename_i h8
          dsimp only []
          have hIL : L + 4 < I := hI (L + 4, o4) (.head _)
          have N9 : News h₀ L h8 ((L + 4, o4') :: (I, oI) :: (L + 3, o3) :: (L + 2, o2) :: (L + 1, o1) :: (td, W.listOf xs.toArray k) :: (fr ++ base)) := fun p hp => N8 p (by
            simp only [List.mem_cons, List.mem_append, List.cons_append, List.nil_append] at hp ⊢
            rcases hp with e | e | e | e | e | e | e | e <;> simp [e])
          clear N8 N
          k_dflt (refine' storeX_C F8 N9 ?c (UpdF.head ?ne) c4' ?_ ?a ?b; (case a => rfl); (case b => rfl); (case c => rfl); k_whole)
          case ne =>
            intro p hp
            simp only [List.mem_cons, List.mem_append] at hp
            rcases hp with rfl | rfl | rfl | rfl | rfl | hp | hp
            · exact Nat.ne_of_gt hIL
            · exact offNe L (by decide)
            · exact offNe L (by decide)
            · exact offNe L (by decide)
            · exact Nat.ne_of_gt hL4
            · exact Nat.ne_of_gt (hfr p hp).1
            · exact Ob.ne hp (by decide) (by decide)
          intro h10 oC10 F10 N10 dC10
          (try dsimp only at N10 dC10 F10)
          clear F8 N9
          k_steps
          refine Halt.go ?_
          rename Fr _ _ _ _ => F11
          rename News _ _ _ _ => N11
          rename_i h11
          have mlc : (lc, W.listOf vc.toArray nc) ∈ (L + 4, oC10) :: (I, oI) :: (L + 3, o3) :: (L + 2, o2) :: (L + 1, o1) :: (td, W.listOf xs.toArray k) :: (fr ++ base) := .tail _ (.tail _ (.tail _ (.tail _ (.tail _ (.tail _ (List.mem_append_right _ (hrb _ hlc)))))))
          refine lcomp (h₀ := h₀) (α := Value × Call) (f := fun p => Itm.val p.1) (ys := fun p => if p.2.2.1 = q.1 then [prD (p.2.1, p.2.2.2)] else []) (Mp := fun _ => True) (cl := [(Str.ofString "name", L + 4)]) ?hclos7 (by decide) (by rfl) (by decide) (by decide) ?_
          case hclos7 => with_unfolding_all rfl
          k_steps
          refine srcList (by rfl) F11 N11 mlc rfl rfl ?_
          intro J h12 F12 N12 lJ lLJ hJ0 S12
          refine ⟨J, _, _, cx, _, _, [], [(lc, W.listOf vc.toArray nc)], rfl, by rw [show cx.map (fun p => Itm.val p.1) = vc.map Itm.val by rw [← hc1, List.map_map]; rfl]; exact S12 _, F12, N12, lJ, Nat.ne_of_lt lLJ, ?kp7, hJ0, ?fp7, ?sz7, trivial, ?step7, ?fin7⟩
          case kp7 => intro p hp; rw [List.mem_singleton.mp hp]; exact mlc
          case fp7 =>
            intro b hb
            rcases List.mem_cons.mp hb with rfl | hb
            · exact .inl rfl
            · rw [List.mem_singleton.mp hb]; exact .inr (.inl ⟨_, .head _⟩)
          case sz7 =>
            rw [filtB, List.length_map, hc2, sizeLine_eq]
            have := ysB_le C q.1
            omega
          case step7 =>
            intro D Cc h3' tk3' ln lD lC a ha E2 Kp v h tk m2 nn hv _ Fc Nc hsub3 hadd hskip
            obtain ⟨T3, x3, y3, z3, k3, e3, hm3⟩ := tup3_of (hc3 a ha)
            replace hv : v = .ref T3 := by rw [← e3]; exact hv
            subst hv
            have hT3 : IsTup h T3 #[.str a.2.1 x3, .str a.2.2.1 y3, .int a.2.2.2 z3] := ⟨_, (Nc _ (hsub3 _ (.tail _ (.tail _ (.tail _ (.tail _ (.tail _ (.tail _ (List.mem_append_right _ (hrb _ hm3)))))))))).1, rfl, _, rfl⟩
            refine asg3 (by rfl) Fc Nc hT3 (by rfl) (by rfl) (by rfl) (by rfl) ?_
            intro h7 tk7 F7 N7
            unfold bodyL afterTests
            dsimp only []
            refine wpAny_isTrue_Compare1 ?_
            refine cn_own F7 (by rfl) ?_
            refine lcf_cell N7 (by rfl) (hsub3 _ (.head _)) dC10 ?_ (by rfl) (by rfl)
            refine eq_str ?_
            refine wpAny_truthy_bool ?_
            by_cases hcc : a.2.2.1 = q.1
            · rw [if_pos (by simpa using hcc)]
              refine Tuple_ ?_
              refine spliced_cons ?_
              refine cn_own F7 (by rfl) ?_
              refine spliced_cons ?_
              refine cn_own F7 (by rfl) ?_
              refine spliced_nil ?_
              refine newTuple_N F7 N7 ?_
              intro h8 F8 N8
              dsimp only []
              dsimp only at F8 N8
              refine hadd _ _ _ _ [_] trivial F8 N8 (fun p hp q hq => by rw [List.mem_singleton.mp hp]; exact Heap.lt_size (N7 q hq).1) ?_
              dsimp only
              rw [if_pos hcc]
              exact .one (.tuple (.head _) (.cons (.str _ _) (.cons (.int _ _) .nil)))
            · rw [if_neg (by simpa using hcc)]
              exact hskip (by dsimp only; rw [if_neg hcc]) _ _ _ trivial F7 N7
          case fin7 =>
            intro D7 h13 tk13 ws7 pre7 F13 N13 ho7 ln7 hD7
            rw [filtB, hc2] at hD7
            clear F11 N11
            k_steps
            refine Halt.go ?_
            refine sumsc B F13 X N13 T rfl (.head _) (hD7.mono fun p hp => .tail _ (List.mem_append_left _ (by simpa using hp))) (Nat.le_trans (ysB_le C q.1) (Nat.le_trans bC (by decide))) (by show (302 : Nat) + 15 < recursionLimit; decide) (by show (7 : Nat) + 160 < cLine; decide) ?_
            intro r7 ws8 tl8 c8 h14 tk14 F14 N14 hd8 l8
            clear F13 N13
            dsimp only []
            k_steps
            rename Fr _ _ _ _ => F15
            rename News _ _ _ _ => N15
            rename_i TT h15 lTT
            obtain ⟨oT, eT, N15⟩ : ∃ oT, oT = ({ cls := .type "tuple", data := .seq #[Value.str q.1 x2, .ref r7] } : Obj) ∧ News h₀ L h15 ((TT, oT) :: (r7, W.listOf ws8.toArray c8) :: (tl8 ++ (D7, lst ws7) :: (pre7 ++ (L + 4, oC10) :: (I, oI) :: (L + 3, o3) :: (L + 2, o2) :: (L + 1, o1) :: (td, W.listOf xs.toArray k) :: (fr ++ base)))) := ⟨_, rfl, N15⟩
            have lT2 : ∀ q ∈ (r7, W.listOf ws8.toArray c8) :: (tl8 ++ (D7, lst ws7) :: (pre7 ++ (L + 4, oC10) :: (I, oI) :: (L + 3, o3) :: (L + 2, o2) :: (L + 1, o1) :: (td, W.listOf xs.toArray k) :: (fr ++ base))), q.1 < TT := tb_ltOf lTT
            obtain ⟨fr2, hfr2⟩ : ∃ f, f = (TT, oT) :: (r7, W.listOf ws8.toArray c8) :: (tl8 ++ (D7, lst ws7) :: pre7) := ⟨_, rfl⟩
            have big : ∀ p ∈ fr2, ∀ q ∈ (L + 4, oC10) :: (I, oI) :: (L + 3, o3) :: (L + 2, o2) :: (L + 1, o1) :: (td, W.listOf xs.toArray k) :: (fr ++ base), q.1 < p.1 := by
              intro p hp q hq
              rw [hfr2] at hp
              rcases List.mem_cons.mp hp with rfl | hp
              · exact lT2 q (.tail _ (List.mem_append_right _ (.tail _ (List.mem_append_right _ hq))))
              · rcases List.mem_cons.mp hp with rfl | hp
                · exact l8 _ (.head _) q (.tail _ (List.mem_append_right _ hq))
                · rcases List.mem_append.mp hp with hp | hp
                  · exact l8 p (.tail _ hp) q (.tail _ (List.mem_append_right _ hq))
                  · rcases List.mem_cons.mp hp with rfl | hp
                    · exact ln7 q hq
                    · exact ho7 p hp q (.tail _ hq)
            have htI : td < I := hI (td, _) (.tail _ (.tail _ (.tail _ (.tail _ (.head _)))))
            have N16 : News h₀ L h15 ((td, W.listOf xs.toArray k) :: (I, oI) :: (L + 4, oC10) :: (L + 3, o3) :: (L + 2, o2) :: (L + 1, o1) :: ((fr2 ++ fr) ++ base)) := fun p hp => N15 p (by
              rw [hfr2] at hp
              simp only [List.mem_cons, List.mem_append] at hp ⊢
              rcases hp with e | e | e | e | e | e | ((e | e | e | e | e) | e) | e <;> simp [e])
            clear N15
            have hnl : (namesC C).length ≤ 11 := by
              have h1 := addAll_length [] (C.map fun c => (c.2.1, (0 : Int)))
              rw [List.length_map] at h1
              unfold namesC
              simp at h1; omega
            refine appG F15 N16 (UpdF.head ?net) ?_ ?_
            case net =>
              intro p hp
              simp only [List.mem_cons, List.mem_append] at hp
              rcases hp with rfl | rfl | rfl | rfl | rfl | (hp | hp) | hp
              · exact Nat.ne_of_gt htI
              · exact Nat.ne_of_lt hL4
              · exact Nat.ne_of_lt (ltd (L + 3, o3) (.tail _ (.head _)))
              · exact Nat.ne_of_lt (ltd (L + 2, o2) (.tail _ (.tail _ (.head _))))
              · exact Nat.ne_of_lt (ltd (L + 1, o1) (.tail _ (.tail _ (.tail _ (.head _)))))
              · exact Nat.ne_of_gt (big p hp (td, _) (.tail _ (.tail _ (.tail _ (.tail _ (.tail _ (.head _)))))))
              · exact (hfr p hp).2.1
              · exact hbt p hp
            · have h1 := hxs.length
              rw [List.length_map] at h1
              have h2 := congrArg List.length hDD
              rw [List.length_append] at h2
              rw [sizeLine_eq]; omega
            · intro h16 F16 N17
              clear F15 N16
              dsimp only []
              k_steps
              refine hG _ ⟨_, _, _, LN L o1 o2 o3 oC10 ((td, W.listOf (xs ++ [Value.ref TT]).toArray (k + 1)) :: ((fr2 ++ fr) ++ base)), rfl, (by assumption), ?hN, ?ho, ⟨.tail _ (.tail _ (.tail _ (.tail _ (.tail _ (List.mem_append_right _ hrm))))), trivial⟩, oC10, xs ++ [Value.ref TT], k + 1, fr2 ++ fr, Dd ++ [q], Dr, rfl, ⟨_, dC10⟩, by rw [hDD, List.append_assoc]; rfl, hr, ?hx, by with_unfolding_all rfl, ?hf, ?hm⟩
              case hN =>
                intro p hp
                refine (by assumption : News h₀ L h16 _) p ?_
                simp only [LN, List.mem_cons, List.mem_append, List.not_mem_nil, or_false] at hp ⊢
                rcases hp with e | e | e | e | e | e | (e | e) | e <;> simp [e]
              case ho =>
                intro p hp q' hq'
                rw [List.mem_singleton.mp hq']
                simp only [LN, List.mem_cons, List.mem_append] at hp
                rcases hp with rfl | rfl | rfl | rfl | rfl | (hp | hp) | hp
                · exact Nat.ne_of_lt hIL
                · exact Nat.ne_of_lt (hI (L + 3, o3) (.tail _ (.head _)))
                · exact Nat.ne_of_lt (hI (L + 2, o2) (.tail _ (.tail _ (.head _))))
                · exact Nat.ne_of_lt (hI (L + 1, o1) (.tail _ (.tail _ (.tail _ (.head _)))))
                · exact Nat.ne_of_lt htI
                · exact Nat.ne_of_gt (big p hp (I, oI) (.tail _ (.head _)))
                · exact (hfr p hp).2.2
                · exact Nat.ne_of_lt (hI p (.tail _ (.tail _ (.tail _ (.tail _ (.tail _ hp))))))
              case hx =>
                rw [List.map_append]
                refine (hxs.mono fun p hp => ?_).append ?_
                · rcases List.mem_append.mp hp with hp | hp
                  · exact List.mem_append_left _ (List.mem_append_right _ hp)
                  · exact List.mem_append_right _ hp
                · refine DatAll.one (d := toldD C q) ?_
                  unfold toldD
                  have hTm : (TT, ({ cls := .type "tuple", data := .seq [Value.str q.1 x2, .ref r7].toArray } : Obj)) ∈ (fr2 ++ fr) ++ base := by
                    rw [hfr2, eT]; exact .head _
                  have hRm : (r7, W.listOf ws8.toArray c8) ∈ (fr2 ++ fr) ++ base := by rw [hfr2]; exact .tail _ (.head _)
                  refine .tuple hTm (.cons (.str _ _) (.cons (.list hRm (hd8.mono fun p hp => ?_)) .nil))
                  rw [hfr2]; exact .tail _ (.tail _ (List.mem_append_left _ (List.mem_append_left _ (List.mem_append_left _ hp))))
              case hf =>
                intro p hp
                rcases List.mem_append.mp hp with hp | hp
                · exact ⟨big p hp (L + 4, oC10) (.head _), Nat.ne_of_gt (big p hp (td, _) (.tail _ (.tail _ (.tail _ (.tail _ (.tail _ (.head _))))))), Nat.ne_of_gt (big p hp (I, oI) (.tail _ (.head _)))⟩
                · exact hfr p hp
              case hm =>
                intro y hy
                simp only [if_neg hy]
                by_cases h1 : y = Str.ofString "told"
                · rw [if_pos h1, h1, hto]
                · rw [if_neg h1, hmm y hy]
end Mine
end
section
open PySem PySem.W PyProof.Rows PySem.Calls PyProof.Rows.LCg
set_option Elab.async false
set_option maxRecDepth 100000
set_option maxHeartbeats 400000
namespace Mine
abbrev Tbl := List (Str × Int)
abbrev ks (D : Tbl) : List Str := D.map (·.1)
/-- a weighted sum over a table -/
def wsum (c : Str → Int) : Tbl → Int
  | [] => 0
  | q :: r => q.2 * c q.1 + wsum c r
def foldK (K L : List Str) : List Str := L.foldl keyIns K
theorem wsum_append (c : Str → Int) (A B : Tbl) : wsum c (A ++ B) = wsum c A + wsum c B := by
  induction A with
  | nil => simp [wsum]
  | cons q r ih => rw [List.cons_append, wsum, wsum, ih]; omega
theorem wsum_add1 (c : Str → Int) (k : Str) (i : Int) : ∀ D : Tbl, wsum c (add1 D k i) = wsum c D + i * c k
  | [] => by show i * c k + 0 = 0 + i * c k; omega
  | q :: r => by
    show wsum c (if q.1 = k then (q.1, q.2 + i) :: r else q :: add1 r k i) = _
    by_cases h : q.1 = k
    · rw [if_pos h, wsum, wsum, h]
      show (q.2 + i) * c k + wsum c r = _
      rw [Int.add_mul]; omega
    · rw [if_neg h, wsum, wsum, wsum_add1 c k i r]; omega
theorem wsum_addAll (c : Str → Int) (E : Tbl) : ∀ D : Tbl, wsum c (addAll D E) = wsum c D + wsum c E := by
  induction E with
  | nil => intro D; show wsum c D = _; simp [wsum]
  | cons q r ih =>
    intro D
    show wsum c (addAll (add1 D q.1 q.2) r) = _
    rw [ih, wsum_add1, wsum]; omega
theorem ks_add1 (k : Str) (i : Int) : ∀ D : Tbl, ks (add1 D k i) = keyIns (ks D) k
  | [] => rfl
  | q :: r => by
    show ks (if q.1 = k then (q.1, q.2 + i) :: r else q :: add1 r k i) = _
    by_cases h : q.1 = k
    · rw [if_pos h]
      unfold keyIns
      rw [if_pos (by rw [← h]; exact .head _)]
      rfl
    · rw [if_neg h]
      show q.1 :: ks (add1 r k i) = _
      rw [ks_add1 k i r]
      show q.1 :: keyIns (ks r) k = keyIns (q.1 :: ks r) k
      unfold keyIns
      by_cases h2 : k ∈ ks r
      · rw [if_pos h2, if_pos (.tail _ h2)]
      · rw [if_neg h2, if_neg (by intro e; cases e with | head => exact h rfl | tail _ e => exact h2 e)]; rfl
theorem ks_addAll (E : Tbl) : ∀ D : Tbl, ks (addAll D E) = foldK (ks D) (ks E) := by
  induction E with
  | nil => intro D; rfl
  | cons q r ih =>
    intro D
    show ks (addAll (add1 D q.1 q.2) r) = _
    rw [ih, ks_add1]; rfl
theorem keyIns_mem {K : List Str} {k x : Str} : x ∈ keyIns K k ↔ x ∈ K ∨ x = k := by
  unfold keyIns
  by_cases h : k ∈ K
  · rw [if_pos h]
    constructor
    · exact .inl
    · rintro (e | rfl)
      · exact e
      · exact h
  · rw [if_neg h]; simp
theorem foldK_mem {x : Str} : ∀ (L K : List Str), x ∈ foldK K L ↔ x ∈ K ∨ x ∈ L
  | [], K => by simp [foldK]
  | k :: L, K => by
    show x ∈ foldK (keyIns K k) L ↔ _
    rw [foldK_mem L, keyIns_mem]
    simp only [List.mem_cons]
    constructor
    · rintro ((h | h) | h)
      · exact .inl h
      · exact .inr (.inl h)
      · exact .inr (.inr h)
    · rintro (h | h | h)
      · exact .inl (.inl h)
      · exact .inl (.inr h)
      · exact .inr h
theorem keyIns_of_mem {K : List Str} {k : Str} (h : k ∈ K) : keyIns K k = K := if_pos h
theorem foldK_of_mem : ∀ (L K : List Str), (∀ x ∈ L, x ∈ K) → foldK K L = K
  | [], _, _ => rfl
  | k :: L, K, h => by
    show foldK (keyIns K k) L = K
    rw [keyIns_of_mem (h k (.head _))]
    exact foldK_of_mem L K fun x hx => h x (.tail _ hx)
theorem foldK_append (K L M : List Str) : foldK K (L ++ M) = foldK (foldK K L) M := List.foldl_append
theorem keyIns_nodup {K : List Str} (h : K.Nodup) (k : Str) : (keyIns K k).Nodup := by
  unfold keyIns
  by_cases hk : k ∈ K
  · rw [if_pos hk]; exact h
  · rw [if_neg hk, List.nodup_append]
    refine ⟨h, by simp, ?_⟩
    intro a ha b hb
    rw [List.mem_singleton.mp hb]
    rintro rfl
    exact hk ha
theorem foldK_nodup : ∀ (L K : List Str), K.Nodup → (foldK K L).Nodup
  | [], _, h => h
  | k :: L, K, h => foldK_nodup L _ (keyIns_nodup h k)
theorem foldK_snoc (K L : List Str) (k : Str) : foldK K (keyIns L k) = keyIns (foldK K L) k := by
  unfold keyIns
  by_cases h : k ∈ L
  · rw [if_pos h, if_pos ((foldK_mem L K).mpr (.inr h))]
  · rw [if_neg h]
    show foldK K (L ++ [k]) = _
    rw [foldK_append]; rfl
/-- the keys' order does not see a merge -/
theorem foldK_dd : ∀ (L M K : List Str), foldK K (foldK M L) = foldK (foldK K M) L
  | [], _, _ => rfl
  | k :: L, M, K => by
    show foldK K (foldK (keyIns M k) L) = foldK (keyIns (foldK K M) k) L
    rw [foldK_dd L, foldK_snoc]
theorem foldK_flat_snoc (g : Str → List Str) (K L : List Str) (k : Str) : foldK K ((keyIns L k).flatMap g) = foldK (foldK K (L.flatMap g)) (g k) := by
  unfold keyIns
  by_cases h : k ∈ L
  · rw [if_pos h, foldK_of_mem (g k)]
    intro x hx
    exact (foldK_mem _ _).mpr (.inr (List.mem_flatMap.mpr ⟨k, h, hx⟩))
  · rw [if_neg h, List.flatMap_append, foldK_append]
    simp
theorem foldK_flat (g : Str → List Str) : ∀ (L M K : List Str), foldK K ((foldK M L).flatMap g) = foldK (foldK K (M.flatMap g)) (L.flatMap g)
  | [], M, K => rfl
  | k :: L, M, K => by
    show foldK K ((foldK (keyIns M k) L).flatMap g) = _
    rw [foldK_flat g L, foldK_flat_snoc, List.flatMap_cons, foldK_append]
def ind (k : Str) (x : Str) : Int := if x = k then 1 else 0
theorem wsum_ind_not {k : Str} : ∀ {D : Tbl}, k ∉ ks D → wsum (ind k) D = 0
  | [], _ => rfl
  | q :: r, h => by
    rw [wsum, wsum_ind_not fun e => h (.tail _ e)]
    have : q.1 ≠ k := fun e => h (by rw [← e]; exact .head _)
    simp [ind, this]
theorem tbl_ext : ∀ {D E : Tbl}, (ks D).Nodup → ks D = ks E → (∀ k, wsum (ind k) D = wsum (ind k) E) → D = E
  | [], [], _, _, _ => rfl
  | [], _ :: _, _, h, _ => by cases h
  | _ :: _, [], _, h, _ => by cases h
  | q :: r, p :: t, hn, hk, hw => by
    have h1 : q.1 = p.1 := List.head_eq_of_cons_eq hk
    have h2 : ks r = ks t := List.tail_eq_of_cons_eq hk
    have hn' : q.1 ∉ ks r ∧ (ks r).Nodup := List.nodup_cons.mp hn
    have e := hw q.1
    rw [wsum, wsum, wsum_ind_not hn'.1, wsum_ind_not (by rw [← h2]; exact hn'.1), ← h1] at e
    have h3 : q.2 = p.2 := by simpa [ind] using e
    have h4 : q = p := Prod.ext h1 h3
    rw [h4, tbl_ext hn'.2 h2 fun k => ?_]
    have e2 := hw k
    rw [wsum, wsum, h4] at e2
    omega
theorem addAll_nodup (E : Tbl) {D : Tbl} (h : (ks D).Nodup) : (ks (addAll D E)).Nodup := by rw [ks_addAll]; exact foldK_nodup _ _ h
/-- a merged table adds as the raw list does -/
theorem addAll_merge (A B : Tbl) : addAll (addAll [] A) (addAll [] B) = addAll [] (A ++ B) := by
  refine tbl_ext (addAll_nodup _ (addAll_nodup _ List.nodup_nil)) ?_ fun k => ?_
  · rw [ks_addAll, ks_addAll, ks_addAll, ks_addAll]
    show foldK (foldK [] (ks A)) (foldK [] (ks B)) = foldK [] (ks (A ++ B))
    rw [foldK_dd]
    show foldK (foldK [] (ks A)) (ks B) = _
    rw [show ks (A ++ B) = ks A ++ ks B from List.map_append, foldK_append]
  · rw [wsum_addAll, wsum_addAll, wsum_addAll, wsum_addAll, wsum_append]
    simp [wsum]
theorem addAll_append (D A B : Tbl) : addAll D (A ++ B) = addAll (addAll D A) B := by unfold addAll; rw [List.foldl_append]
/-- the factor may come before the sum -/
def sc (v : Int) (D : Tbl) : Tbl := D.map fun e => (e.1, v * e.2)
theorem sc_add1 (v : Int) (k : Str) (i : Int) : ∀ D : Tbl, sc v (add1 D k i) = add1 (sc v D) k (v * i)
  | [] => rfl
  | q :: r => by
    show sc v (if q.1 = k then (q.1, q.2 + i) :: r else q :: add1 r k i) = (if q.1 = k then (q.1, v * q.2 + v * i) :: sc v r else (q.1, v * q.2) :: add1 (sc v r) k (v * i))
    by_cases h : q.1 = k
    · rw [if_pos h, if_pos h, ← Int.mul_add]; rfl
    · rw [if_neg h, if_neg h, ← sc_add1 v k i r]; rfl
theorem sc_addAll (v : Int) (E : Tbl) : ∀ D : Tbl, sc v (addAll D E) = addAll (sc v D) (sc v E) := by
  induction E with
  | nil => intro D; rfl
  | cons q r ih =>
    intro D
    show sc v (addAll (add1 D q.1 q.2) r) = _
    rw [ih, sc_add1]; rfl
theorem tabs_eq (C : List Call) (k : Str) : tabs C k = addAll [] (ysB C k) := by
  unfold tabs ysB
  have : ∀ (C : List Call) (D : Tbl), C.foldl (fun D q => if q.2.1 = k then add1 D q.1 q.2.2 else D) D = addAll D ((C.filter fun c => c.2.1 = k).map fun c => (c.1, c.2.2)) := by
    intro C
    induction C with
    | nil => intro D; rfl
    | cons q C ih =>
      intro D
      rw [List.foldl_cons, ih]
      by_cases h : q.2.1 = k
      · rw [if_pos h, List.filter_cons_of_pos (by simpa using h)]; rfl
      · rw [if_neg h, List.filter_cons_of_neg (by simpa using h)]
  exact this C []
theorem ysI_eq (C : List Call) (q : Str × Int) : ysI C q = sc q.2 (ysB C q.1) := by
  unfold ysI ysB sc
  rw [List.map_map]; rfl
theorem sc_tabs (C : List Call) (q : Str × Int) : (tabs C q.1).map (fun e => (e.1, q.2 * e.2)) = addAll [] (ysI C q) := by
  rw [tabs_eq, ysI_eq]
  exact sc_addAll q.2 _ []
theorem climb_flat (C : List Call) (D : Tbl) : climb (tabs C) D = addAll [] (D.flatMap (ysI C)) := by
  have : ∀ (D X : Tbl), D.foldl (fun acc q => addAll acc ((tabs C q.1).map fun e => (e.1, q.2 * e.2))) (addAll [] X) = addAll [] (X ++ D.flatMap (ysI C)) := by
    intro D
    induction D with
    | nil => intro X; simp
    | cons q D ih =>
      intro X
      rw [List.foldl_cons, sc_tabs, addAll_merge, ih, List.flatMap_cons, List.append_assoc]
  exact this D []
theorem wsum_flat (C : List Call) (c : Str → Int) : ∀ D : Tbl, wsum c (D.flatMap (ysI C)) = wsum (fun k => wsum c (ysB C k)) D
  | [] => rfl
  | q :: r => by
    rw [List.flatMap_cons, wsum_append, wsum_flat C c r, wsum, ysI_eq]
    have : ∀ (B : Tbl), wsum c (sc q.2 B) = q.2 * wsum c B := by
      intro B
      induction B with
      | nil => show (0 : Int) = q.2 * 0; omega
      | cons e B ih =>
        show (q.2 * e.2) * c e.1 + wsum c (sc q.2 B) = q.2 * (e.2 * c e.1 + wsum c B)
        rw [ih, Int.mul_add, Int.mul_assoc]
    rw [this]
theorem ks_flat (C : List Call) : ∀ D : Tbl, ks (D.flatMap (ysI C)) = (ks D).flatMap fun k => ks (ysB C k)
  | [] => rfl
  | q :: r => by
    show ks ((q :: r).flatMap (ysI C)) = (q.1 :: ks r).flatMap _
    rw [List.flatMap_cons, List.flatMap_cons, ← ks_flat C r, ysI_eq]
    show ks (sc q.2 (ysB C q.1) ++ r.flatMap (ysI C)) = _
    rw [show ks (sc q.2 (ysB C q.1) ++ r.flatMap (ysI C)) = ks (sc q.2 (ysB C q.1)) ++ ks (r.flatMap (ysI C)) from List.map_append]
    congr 1
    show (sc q.2 (ysB C q.1)).map (·.1) = (ysB C q.1).map (·.1)
    unfold sc
    rw [List.map_map]; rfl
/-- one climb answers as the chains do -/
theorem climb_eq (C : List Call) (H : Tbl) : climb (tabs C) (addAll [] H) = addAll [] (H.flatMap (ysI C)) := by
  rw [climb_flat]
  refine tbl_ext (addAll_nodup _ List.nodup_nil) ?_ fun k => ?_
  · rw [ks_addAll, ks_addAll, ks_flat, ks_flat, ks_addAll]
    exact foldK_flat _ (ks H) [] []
  · rw [wsum_addAll, wsum_addAll, wsum_flat, wsum_flat, wsum_addAll]
    simp [wsum]
theorem sumD_addAll (H : Tbl) : sumD (addAll [] H) = (H.map (·.2)).sum := by
  have h1 : ∀ D : Tbl, (D.map (·.2)).sum = wsum (fun _ => 1) D := by
    intro D
    induction D with
    | nil => rfl
    | cons q r ih => rw [List.map_cons, List.sum_cons, ih, wsum]; omega
  unfold sumD
  rw [h1, h1, wsum_addAll]
  simp [wsum]
theorem nodup_sub_length : ∀ {K S : List Str}, K.Nodup → (∀ x ∈ K, x ∈ S) → K.length ≤ S.length
  | [], _, _, _ => Nat.zero_le _
  | k :: K, S, hn, hs => by
    have h1 := List.nodup_cons.mp hn
    have hk : k ∈ S := hs k (.head _)
    have h2 := nodup_sub_length (K := K) (S := S.erase k) h1.2 fun x hx => (List.mem_erase_of_ne (fun e => h1.1 (by rw [← e]; exact hx))).mpr (hs x (.tail _ hx))
    have h3 := List.length_erase_of_mem hk
    have h4 : 0 < S.length := List.length_pos_of_mem hk
    rw [List.length_cons]; omega
theorem namesC_ks (C : List Call) : (namesC C).map (·.1) = keysOf C := by
  unfold namesC
  show ks (addAll [] _) = _
  rw [ks_addAll]
  unfold keysOf
  show foldK [] _ = _
  unfold foldK
  show List.foldl keyIns [] (ks (C.map fun c => (c.2.1, (0 : Int)))) = _
  rw [show ks (C.map fun c => (c.2.1, (0 : Int))) = C.map (·.2.1) by show (C.map _).map _ = _; rw [List.map_map]; rfl, List.foldl_map]
theorem toldD_eq (C : List Call) : (namesC C).map (toldD C) = (keysOf C).map (bookD (tabs C)) := by
  rw [← namesC_ks, List.map_map]
  refine List.map_congr_left fun q _ => ?_
  show toldD C q = bookD (tabs C) q.1
  unfold toldD bookD
  rw [tabs_eq]
/-- the callers' names -/
def okNames : List Str := [Str.ofString "main", Str.ofString "f", Str.ofString "g h", Str.ofString "k"]
structure OkC (C : List Call) : Prop where
  len : C.length ≤ 11
  pok : ∀ q ∈ C, POk q
  names : ∀ q ∈ C, q.1 ∈ okNames
  bits : ∀ q ∈ C, -1000 ≤ q.2.2 ∧ q.2.2 ≤ 1000
  kok : ∀ q ∈ C, PyData.strOk q.2.1 = true
theorem okName_str : ∀ x ∈ okNames, PyData.strOk x = true := by decide +kernel
theorem ysB_mem {C : List Call} {k : Str} {q : Str × Int} (h : q ∈ ysB C k) : ∃ c ∈ C, c.1 = q.1 ∧ c.2.2 = q.2 := by
  unfold ysB at h
  obtain ⟨c, hc, rfl⟩ := List.mem_map.mp h
  exact ⟨c, (List.mem_filter.mp hc).1, rfl, rfl⟩
theorem ysI_mem {C : List Call} {p q : Str × Int} (h : q ∈ ysI C p) : ∃ c ∈ C, c.1 = q.1 := by
  unfold ysI at h
  obtain ⟨c, hc, rfl⟩ := List.mem_map.mp h
  exact ⟨c, (List.mem_filter.mp hc).1, rfl⟩
theorem addAll_name {D : Tbl} {q : Str × Int} (h : q ∈ addAll [] D) : ∃ e ∈ D, e.1 = q.1 := by
  have h1 : q.1 ∈ ks (addAll [] D) := List.mem_map_of_mem h
  rw [ks_addAll] at h1
  rcases (foldK_mem _ _).mp h1 with h2 | h2
  · cases h2
  · obtain ⟨e, he, e1⟩ := List.mem_map.mp h2
    exact ⟨e, he, e1⟩
theorem add1_bd {k : Str} {i b c : Int} (hi : -c ≤ i ∧ i ≤ c) (hb : 0 ≤ b) (hc : 0 ≤ c) : ∀ {D : Tbl}, (∀ q ∈ D, -b ≤ q.2 ∧ q.2 ≤ b) → ∀ q ∈ add1 D k i, -(b + c) ≤ q.2 ∧ q.2 ≤ b + c
  | [], _, q, hq => by
    have : q = (k, i) := List.mem_singleton.mp hq
    subst this
    show -(b + c) ≤ i ∧ i ≤ b + c
    omega
  | p :: r, h, q, hq => by
    have hq2 : q ∈ (if p.1 = k then (p.1, p.2 + i) :: r else p :: add1 r k i) := hq
    have hp := h p (.head _)
    by_cases hk : p.1 = k
    · rw [if_pos hk] at hq2
      rcases List.mem_cons.mp hq2 with rfl | hq3
      · show -(b + c) ≤ p.2 + i ∧ p.2 + i ≤ b + c; omega
      · have := h q (.tail _ hq3); omega
    · rw [if_neg hk] at hq2
      rcases List.mem_cons.mp hq2 with rfl | hq3
      · omega
      · exact add1_bd hi hb hc (fun x hx => h x (.tail _ hx)) q hq3
theorem addAll_bd {c : Int} (hc : 0 ≤ c) : ∀ (E D : Tbl) (b : Int), 0 ≤ b → (∀ q ∈ D, -b ≤ q.2 ∧ q.2 ≤ b) → (∀ q ∈ E, -c ≤ q.2 ∧ q.2 ≤ c) → ∀ q ∈ addAll D E, -(b + E.length * c) ≤ q.2 ∧ q.2 ≤ b + E.length * c
  | [], D, b, _, h, _, q, hq => by
    have := h q hq
    simp only [List.length_nil]; omega
  | e :: E, D, b, hb, h, he, q, hq => by
    have h1 := addAll_bd hc E (add1 D e.1 e.2) (b + c) (by omega) (add1_bd (he e (.head _)) hb hc h) (fun x hx => he x (.tail _ hx)) q hq
    rw [List.length_cons]
    have : ((E.length + 1 : Nat) : Int) * c = (E.length : Int) * c + c := by rw [Int.natCast_add, Int.add_mul]; simp
    omega
theorem OkC.tabs {C : List Call} (O : OkC C) (k : Str) : (Mine.tabs C k).length ≤ 20 ∧ ∀ e ∈ Mine.tabs C k, Builtin.Int.intBits e.2 ≤ 64 := by
  refine ⟨Nat.le_trans (tabs_length C k) (Nat.le_trans O.len (by decide)), fun e he => ?_⟩
  rw [tabs_eq] at he
  have h1 := addAll_bd (c := 1000) (by decide) (ysB C k) [] 0 (by decide) (fun _ h => nomatch h) (fun q hq => by
    obtain ⟨c, hc, _, h2⟩ := ysB_mem hq
    rw [← h2]; exact O.bits c hc) e he
  have h2 : (ysB C k).length ≤ 11 := Nat.le_trans (ysB_le C k) O.len
  exact intBits_le_64 (by omega) (by omega)
theorem OkC.bits64 {C : List Call} (O : OkC C) : ∀ c ∈ C, Builtin.Int.intBits c.2.2 ≤ 64 := fun c hc => by
  have := O.bits c hc
  exact intBits_le_64 (by omega) (by omega)
theorem OkC.flat_names {C : List Call} (O : OkC C) (H : Tbl) : ∀ q ∈ addAll [] (H.flatMap (ysI C)), q.1 ∈ okNames := by
  intro q hq
  obtain ⟨e, he, e1⟩ := addAll_name hq
  obtain ⟨p, _, hp⟩ := List.mem_flatMap.mp he
  obtain ⟨c, hc, e2⟩ := ysI_mem hp
  rw [← e1, ← e2]; exact O.names c hc
theorem OkC.plain {C : List Call} (O : OkC C) {H : Tbl} (hD : (addAll [] H).length ≤ 20) (hH : H.length ≤ 121) : Plain (Mine.tabs C) C (addAll [] H) H :=
  ⟨hD, hH, climb_eq C H, by rw [climb_eq]; exact sumD_addAll _, fun q hq => okName_str _ (O.flat_names H q (by rw [← climb_eq]; exact hq))⟩
theorem OkC.short {C : List Call} (O : OkC C) (H : Tbl) : (addAll [] (H.flatMap (ysI C))).length ≤ 20 := by
  have h1 := nodup_sub_length (K := ks (addAll [] (H.flatMap (ysI C)))) (S := okNames) (addAll_nodup _ List.nodup_nil) (fun x hx => by
    obtain ⟨q, hq, rfl⟩ := List.mem_map.mp hx
    exact O.flat_names H q hq)
  rw [List.length_map] at h1
  exact Nat.le_trans h1 (by decide)
theorem OkC.both {C : List Call} (A B : Str) : addAll (Mine.tabs C A) (Mine.tabs C B) = addAll [] (ysB C A ++ ysB C B) := by
  rw [tabs_eq, tabs_eq, addAll_merge]
theorem OkC.both_ok {C : List Call} (O : OkC C) (A B : Str) : ∀ q ∈ addAll [] (ysB C A ++ ysB C B), PyData.strOk q.1 = true := by
  intro q hq
  obtain ⟨e, he, e1⟩ := addAll_name hq
  have : ∃ c ∈ C, c.1 = e.1 := by
    rcases List.mem_append.mp he with h | h
    · obtain ⟨c, hc, e2, _⟩ := ysB_mem h; exact ⟨c, hc, e2⟩
    · obtain ⟨c, hc, e2, _⟩ := ysB_mem h; exact ⟨c, hc, e2⟩
  obtain ⟨c, hc, e2⟩ := this
  rw [← e1, ← e2]; exact okName_str _ (O.names c hc)
theorem keysOf_mem {C : List Call} {k : Str} (h : k ∈ keysOf C) : ∃ c ∈ C, c.2.1 = k := by
  have : ∀ (C : List Call) (K : List Str), k ∈ C.foldl (fun K q => keyIns K q.2.1) K → k ∈ K ∨ ∃ c ∈ C, c.2.1 = k := by
    intro C
    induction C with
    | nil => intro K h; exact .inl h
    | cons q C ih =>
      intro K h
      rcases ih _ h with h1 | ⟨c, hc, e⟩
      · rcases keyIns_mem.mp h1 with h2 | h2
        · exact .inl h2
        · exact .inr ⟨q, .head _, h2.symm⟩
      · exact .inr ⟨c, .tail _ hc, e⟩
  rcases this C [] h with h1 | h1
  · cases h1
  · exact h1
theorem OkC.told_ok {C : List Call} (O : OkC C) : ∀ d ∈ (namesC C).map (toldD C), kqdOk 8 d = true := by
  intro d hd
  rw [toldD_eq] at hd
  obtain ⟨k, hk, rfl⟩ := List.mem_map.mp hd
  obtain ⟨c, hc, e⟩ := keysOf_mem hk
  have h1 : PyData.strOk k = true := by rw [← e]; exact O.kok c hc
  have h2 : ∀ q ∈ Mine.tabs C k, PyData.strOk q.1 = true := by
    intro q hq
    rw [tabs_eq] at hq
    obtain ⟨e2, he, e3⟩ := addAll_name hq
    obtain ⟨c2, hc2, e4, _⟩ := ysB_mem he
    rw [← e3, ← e4]; exact okName_str _ (O.names c2 hc2)
  unfold bookD
  simp only [kqdOk, List.all_cons, List.all_nil, Bool.and_true, Bool.and_eq_true, List.all_eq_true]
  refine ⟨h1, fun x hx => ?_⟩
  obtain ⟨q, hq, rfl⟩ := List.mem_map.mp hx
  simp [prD, kqdOk, h2 q hq]
end Mine
end
section
open PySem PySem.W PyProof.Rows PySem.Calls PyProof.Rows.LCg
set_option Elab.async false
set_option maxRecDepth 100000
set_option maxHeartbeats 400000
namespace Mine
theorem pick_mem {l : List Str} {i : Int} (h0 : 0 ≤ i) (h1 : i < l.length) : pick l i ∈ l := by
  have h : i.toNat < l.length := by omega
  unfold pick
  rw [List.getD_eq_getElem?_getD, List.getElem?_eq_getElem h]
  exact List.getElem_mem h
def pairOk (a b : Str) : Bool :=
  decide ((txOf (a, b, 0)).length ≤ 1000) && decide ((Txt.splitMax (txOf (a, b, 0)) (Str.ofString "=") 1).map Txt.strip = [a, b]) && PyData.strOk b && decide (a ∈ okNames)
theorem pairs_ok : (callerL.all fun a => calleeL.all fun b => pairOk a b) = true := by decide +kernel
theorem pair_ok {a b : Str} (ha : a ∈ callerL) (hb : b ∈ calleeL) : pairOk a b = true := List.all_eq_true.mp (List.all_eq_true.mp pairs_ok a ha) b hb
theorem okC (ns : List Int) : OkC ((ns.take 6).map mkC ++ extraL) := by
  have h : ∀ q ∈ (ns.take 6).map mkC ++ extraL, q.1 ∈ callerL ∧ q.2.1 ∈ calleeL ∧ -1000 ≤ q.2.2 ∧ q.2.2 ≤ 1000 := by
    intro q hq
    rcases List.mem_append.mp hq with hq | hq
    · obtain ⟨i, _, rfl⟩ := List.mem_map.mp hq
      have h1 : (0:Int) ≤ (i.fdiv 16).fmod 199 := Int.fmod_nonneg_of_pos _ (by decide)
      have h2 : (i.fdiv 16).fmod 199 < 199 := Int.fmod_lt_of_pos _ (by decide)
      refine ⟨pick_mem (Int.fmod_nonneg_of_pos _ (by decide)) (Int.fmod_lt_of_pos _ (by decide)), pick_mem (Int.fmod_nonneg_of_pos _ (by decide)) (Int.fmod_lt_of_pos _ (by decide)), ?_, ?_⟩
      · show -1000 ≤ (i.fdiv 16).fmod 199 - 99; omega
      · show (i.fdiv 16).fmod 199 - 99 ≤ 1000; omega
    · have : (extraL.all fun q => decide (q.1 ∈ callerL) && decide (q.2.1 ∈ calleeL) && decide (-1000 ≤ q.2.2) && decide (q.2.2 ≤ 1000)) = true := by decide +kernel
      have h1 := List.all_eq_true.mp this q hq
      simp only [Bool.and_eq_true, decide_eq_true_eq] at h1
      exact ⟨h1.1.1.1, h1.1.1.2, h1.1.2, h1.2⟩
  have hp : ∀ q ∈ (ns.take 6).map mkC ++ extraL, POk q ∧ PyData.strOk q.2.1 = true ∧ q.1 ∈ okNames := by
    intro q hq
    have h1 := pair_ok (h q hq).1 (h q hq).2.1
    unfold pairOk at h1
    simp only [Bool.and_eq_true, decide_eq_true_eq] at h1
    exact ⟨⟨h1.1.1.1, h1.1.1.2⟩, h1.1.2, h1.2⟩
  refine ⟨?_, fun q hq => (hp q hq).1, fun q hq => (hp q hq).2.2, fun q hq => (h q hq).2.2, fun q hq => (hp q hq).2.1⟩
  rw [List.length_append, List.length_map, List.length_take]
  have : extraL.length = 5 := rfl
  omega
mutual
theorem datIn_sub {n n' : List (Addr × Obj)} (hs : ∀ p ∈ n, (p.2.cls = .type "tuple" ∨ p.2.cls = .type "list") → p ∈ n') : ∀ {v : Value} {d : Dat}, DatIn n v d → DatIn n' v d
  | _, _, .none => .none
  | _, _, .bool b => .bool b
  | _, _, .int i t => .int i t
  | _, _, .str x t => .str x t
  | _, _, .bytes b t => .bytes b t
  | _, _, .tuple hm r => .tuple (hs _ hm (.inl rfl)) (datAll_sub hs r)
  | _, _, .list hm r => .list (hs _ hm (.inr rfl)) (datAll_sub hs r)
theorem datAll_sub {n n' : List (Addr × Obj)} (hs : ∀ p ∈ n, (p.2.cls = .type "tuple" ∨ p.2.cls = .type "list") → p ∈ n') : ∀ {vs : List Value} {ds : List Dat}, DatAll n vs ds → DatAll n' vs ds
  | _, _, .nil => .nil
  | _, _, .cons h r => .cons (datIn_sub hs h) (datAll_sub hs r)
end
end Mine
end
section
open PySem PySem.W PyProof.Rows PySem.Calls PyProof.Rows.LCg
set_option Elab.async false
set_option maxRecDepth 100000
set_option maxHeartbeats 4000000
namespace Mine
theorem warmLQ : (fun (_ : Params → Frag) (_ : OpenLaw) => True) KF Challenge.rw_in0007_01 := by
  k_fill
  trivial
local macro_rules | `(tactic| k_room) => `(tactic| ktr_room)
local macro_rules | `(tactic| k_units) => `(tactic| ktr_units)
theorem pathC (ns : List Int) : (ns.take 6).map (fun i => Dat.tuple [.str (mkC i).1, .str (mkC i).2.1, .int (mkC i).2.2]) = ((ns.take 6).map mkC).map trD := by
  rw [List.map_map]; rfl
theorem Off.sub {L : Addr} {n n' : List (Addr × Obj)} (O : Off L n) (h : ∀ p ∈ n', p ∈ n) : Off L n' := fun p hp => O p (h p hp)
theorem lawBody {w : World} {p : Program} {loose : List Str} {mean : ExcName → Option Value} {mg mb : Str → Option Value} {gd : Option (List Code)} {fa : Addr} {cd : Value} {outer : List Env} {A₀ : Around} {base h₀ : Heap} {L : Addr} {m : Str → Option Value} {o1 o2 o3 o4 : Obj} {s : Shared} {Q : Flow → Shared → Prop} {E : Value → Shared → Prop}
    {sc : Addr} {vs : List Value} {ns : List Int}
    (B : Below A₀ base outer h₀) (F : Fr h₀ L s.heap m) (X : (KF w.params).In h₀) (N : News h₀ L s.heap (LN L o1 o2 o3 o4 [(nat_lit 114, tabObj #[])])) (T : Top p loose mean mg mb h₀)
    (hE : PassesOwn (model pw w) (lawTop gd L fa cd outer) (lawEnv L fa cd) E)
    (c1 : ∃ v, o1.data = .cell v) (c2 : ∃ v, o2.data = .cell v) (c3 : ∃ v, o3.data = .cell v) (c4 : ∃ v, o4.data = .cell v)
    (h114 : nat_lit 114 < L) (codeHd : CodeHd h₀ (nat_lit 118) (nat_lit 114))
    (hs : h₀.IsList sc vs.toArray) (hi : IntsAre vs ns) (hl : ns.length ≤ 63) (hm : m (Str.ofString "script") = some (.ref sc))
    (ret : ∀ h' tk' m' n ps, Fr h₀ L h' m' → News h₀ L h' n → (nat_lit 114, tabObj ps) ∈ n → Q (.ret (.bool true)) { s with heap := h', toks := tk' }) :
    wpAny (model pw w) (lawTop gd L fa cd outer) (execs [law0, law1, law2, law3, law4, law5, law6, law7, law8, law9, law10, law11, law12, law13] (lawEnv L fa cd)) Q E s := by
  have OC := okC ns
  have ne114 : ∀ a : Nat, (nat_lit 114) ≠ L + a := fun a e => absurd (Nat.lt_of_lt_of_le h114 (Nat.le_add_right L a)) (by rw [← e]; exact Nat.lt_irrefl _)
  have O0 : Off L [(nat_lit 114, tabObj #[])] := fun p hp => by rw [List.mem_singleton.mp hp]; exact .inl fun a _ _ => ne114 a
  refine exc (seg0 B F X N T O0 c1 ?_)
  intro T1 h1 tk1 oc1 rest1 F1 N1 sub1 d1 O1 t1
  refine exc (seg1 B F1 X N1 T O1 c2 ?_)
  intro T2 h2 tk2 oc2 rest2 F2 N2 sub2 d2 O2 t2
  have t1' : strTup callerL T1 rest2 := by
    obtain ⟨va, hva, hsa⟩ := t1
    exact ⟨va, sub2 _ hva, hsa⟩
  refine exc (seg2 B F2 X N2 T O2 t1' t2 d1 d2 c3 hs hi hl hm ?_)
  intro D ws pre h3 tk3 o3' F3 N3 d3 O3 hd3
  rw [pathC] at hd3
  have hl6 : ((ns.take 6).map mkC).length ≤ 6 := by rw [List.length_map, List.length_take]; omega
  refine exc (seg3 B F3 X N3 T O3 d3 (.head _) (hd3.mono fun p hp => .tail _ hp) hl6 ?_)
  intro D2 ws2 n2 h4 tk4 oc4 rest4 F4 N4 sub4 d4 O4 hd4
  have t2' : strTup calleeL T2 ((D2, W.listOf ws2.toArray n2) :: rest4) := by
    obtain ⟨vb, hvb, hsb⟩ := t2
    exact ⟨vb, .tail _ (sub4 _ (.tail _ (List.mem_append_right _ hvb))), hsb⟩
  refine exc (seg4 B F4 X N4 T O4 t2' d2 hs hi hl hm ?_)
  intro h5 tk5 tS F5 N5
  obtain ⟨C, hC⟩ : ∃ C, C = (ns.take 6).map mkC ++ extraL := ⟨_, rfl⟩
  obtain ⟨st, hst⟩ : ∃ st, st = pick calleeL (((ns.take 6).sum.fdiv 16 + 3).fmod 4) := ⟨_, rfl⟩
  rw [← hC] at OC hd4
  rw [← hst] at F5
  -- the table of codes stands apart
  have m114 : (nat_lit 114, tabObj #[]) ∈ (D2, W.listOf ws2.toArray n2) :: rest4 := .tail _ (sub4 _ (.tail _ (List.mem_append_right _ (sub2 _ (sub1 _ (.head _))))))
  obtain ⟨rf, hrf⟩ : ∃ rf, rf = ((D2, W.listOf ws2.toArray n2) :: rest4).filter (fun p => decide (p.1 ≠ nat_lit 114)) := ⟨_, rfl⟩
  have rfIn : ∀ p ∈ rf, p ∈ (D2, W.listOf ws2.toArray n2) :: rest4 ∧ p.1 ≠ nat_lit 114 := fun p hp => by
    rw [hrf] at hp
    have := List.mem_filter.mp hp
    exact ⟨this.1, of_decide_eq_true this.2⟩
  have inRf : ∀ p ∈ (D2, W.listOf ws2.toArray n2) :: rest4, (p.2.cls = .type "tuple" ∨ p.2.cls = .type "list") → p ∈ rf := fun p hp hc => by
    rw [hrf]
    refine List.mem_filter.mpr ⟨hp, decide_eq_true fun e => ?_⟩
    have e1 := (N5 p (.tail _ (.tail _ (.tail _ (.tail _ hp))))).1
    have e2 := (N5 _ (.tail _ (.tail _ (.tail _ (.tail _ m114))))).1
    dsimp only at e2
    rw [e, e2] at e1
    have e3 : tabObj #[] = p.2 := Option.some.inj e1
    rw [← e3] at hc
    rcases hc with hc | hc <;> cases hc
  have N5' : News h₀ L h5 (LN L oc1 oc2 oc4 o4 ((nat_lit 114, tabObj #[]) :: rf)) := fun p hp => N5 p (by
    simp only [LN, List.mem_cons] at hp ⊢
    rcases hp with e | e | e | e | e | e
    · exact .inl e
    · exact .inr (.inl e)
    · exact .inr (.inr (.inl e))
    · exact .inr (.inr (.inr (.inl e)))
    · exact .inr (.inr (.inr (.inr (List.mem_cons.mp (e ▸ m114)))))
    · exact .inr (.inr (.inr (.inr (List.mem_cons.mp (rfIn p e).1)))))
  have hlc : (D2, W.listOf ws2.toArray n2) ∈ rf := inRf _ (.head _) (.inr rfl)
  have hdC : DatAll rf ws2 (C.map trD) := datAll_sub inRf (hd4.mono fun p hp => .tail _ hp)
  have n114 : ∀ p ∈ LN L oc1 oc2 oc4 o4 rf, p.1 ≠ nat_lit 114 := by
    intro p hp
    simp only [LN, List.mem_cons] at hp
    rcases hp with rfl | rfl | rfl | rfl | e
    · exact Ne.symm (ne114 4)
    · exact Ne.symm (ne114 3)
    · exact Ne.symm (ne114 2)
    · exact Ne.symm (ne114 1)
    · exact (rfIn p e).2
  refine exc (seg5 B F5 X N5' T d4 hlc hdC OC.len OC.pok n114 codeHd ?_)
  intro d kvs news' ps h6 tk6 F6 N6 mps hne FZ TI hks
  have O6 : Off L (news' ++ rf) := fun p hp => by
    rcases List.mem_append.mp hp with hp | hp
    · refine .inl fun a ha hb => ?_
      match a, ha, hb with
      | 1, _, _ => exact Ne.symm (hne p hp (L + 1, oc1) (.tail _ (.tail _ (.tail _ (.head _)))))
      | 2, _, _ => exact Ne.symm (hne p hp (L + 2, oc2) (.tail _ (.tail _ (.head _))))
      | 3, _, _ => exact Ne.symm (hne p hp (L + 3, oc4) (.tail _ (.head _)))
      | 4, _, _ => exact Ne.symm (hne p hp (L + 4, o4) (.head _))
    · exact O4 p (rfIn p hp).1
  refine exc (seg6 B F6 X N6 T O6 (st := st) (tt := tS) (by with_unfolding_all rfl) ?_)
  intro d6 o6 kt6 h7 tk7 F7 N7 l7 lo7 di7 it7
  have N7' : News h₀ L h7 (LN L oc1 oc2 oc4 o4 ((d6, o6) :: (news' ++ rf))) := fun p hp => N7 p (by
    simp only [LN, List.mem_cons] at hp ⊢
    rcases hp with e | e | e | e | e | e <;> simp [e])
  have O7 : Off L ((d6, o6) :: (news' ++ rf)) := Off.app (n := [(d6, o6)]) O6 fun p hp => by rw [List.mem_singleton.mp hp]; exact l7 (L + 4, o4) (.head _)
  refine exc (seg7 B F7 X N7' T O7 (st := st) (tt := tS) (by with_unfolding_all rfl) ?_)
  intro lch wch nch tch h8 tk8 F8 N8 hdch l8
  obtain ⟨r8, hr8⟩ : ∃ r, r = ((lch, W.listOf wch.toArray nch) :: tch) ++ ((d6, o6) :: (news' ++ rf)) := ⟨_, rfl⟩
  have N8' : News h₀ L h8 (LN L oc1 oc2 oc4 o4 r8) := fun p hp => N8 p (by
    rw [hr8] at hp
    simp only [LN, List.mem_cons, List.mem_append] at hp ⊢
    rcases hp with e | e | e | e | (e | e) | e | e | e <;> simp [e])
  have O8 : Off L r8 := by rw [hr8]; exact Off.app O7 fun p hp => l8 p hp (L + 4, o4) (.head _)
  have s6 : ∀ p ∈ news' ++ rf, p ∈ r8 := fun p hp => by rw [hr8]; exact List.mem_append_right _ (.tail _ hp)
  have bl1 : ([(st, (1 : Int))].flatMap (ysI C)).length ≤ 11 := by
    have := flatMap_le (k := 11) (g := ysI C) (fun a => Nat.le_trans (ysI_le C a) OC.len) [(st, (1 : Int))]
    simpa using this
  have bl2 : (([(st, (1 : Int))].flatMap (ysI C)).flatMap (ysI C)).length ≤ 121 := by
    have := flatMap_le (k := 11) (g := ysI C) (fun a => Nat.le_trans (ysI_le C a) OC.len) ([(st, (1 : Int))].flatMap (ysI C))
    omega
  have P0 : Plain (tabs C) C [(st, 1)] [(st, 1)] := OC.plain (H := [(st, 1)]) (by show 1 ≤ 20; decide) (by show 1 ≤ 121; decide)
  have k1 : climb (tabs C) [(st, 1)] = addAll [] ([(st, (1 : Int))].flatMap (ysI C)) := climb_eq C [(st, 1)]
  have P1 : Plain (tabs C) C (climb (tabs C) [(st, 1)]) ([(st, (1 : Int))].flatMap (ysI C)) := by rw [k1]; exact OC.plain (OC.short _) (by omega)
  have k2 : climb (tabs C) (climb (tabs C) [(st, 1)]) = addAll [] (([(st, (1 : Int))].flatMap (ysI C)).flatMap (ysI C)) := by rw [k1]; exact climb_eq C _
  have P2 : Plain (tabs C) C (climb (tabs C) (climb (tabs C) [(st, 1)])) (([(st, (1 : Int))].flatMap (ysI C)).flatMap (ysI C)) := by rw [k2]; exact OC.plain (OC.short _) bl2
  refine exc (seg8 B F8 X N8' T O8 hE d4 OC.len OC.bits64 (fun k => OC.tabs k) ⟨by with_unfolding_all exact rfl, ⟨d6, o6, kt6, by with_unfolding_all exact rfl, by rw [hr8]; exact List.mem_append_right _ (.head _), di7, lo7, it7⟩, ⟨lch, wch, nch, by with_unfolding_all exact rfl, by rw [hr8]; exact .head _, hdch.mono fun p hp => by rw [hr8]; exact .tail _ (List.mem_append_left _ hp)⟩, FZ.mono fun p hp => s6 p (List.mem_append_left _ hp), TI.mono fun p hp => s6 p (List.mem_append_left _ hp), s6 _ (List.mem_append_right _ hlc), hdC.mono fun p hp => s6 p (List.mem_append_right _ hp)⟩ P0 P1 P2 ?_)
  intro m9 new9 h9 tk9 F9 N9 l9 hm9
  have O9 : Off L (new9 ++ r8) := O8.app fun p hp => l9 p hp (L + 4, o4) (.head _)
  have s9 : ∀ p ∈ r8, p ∈ new9 ++ r8 := fun p hp => List.mem_append_right _ hp
  have hb9 : m9 (Str.ofString "book") = some (.ref d) := by rw [hm9 _ (by decide) (by decide) (by decide)]; with_unfolding_all rfl
  refine exc (seg9 B F9 X N9 T O9 d4 (s9 _ (s6 _ (List.mem_append_right _ hlc))) (hdC.mono fun p hp => s9 p (s6 p (List.mem_append_right _ hp))) OC.len ?_)
  intro D10 ws10 pre10 h10 tk10 F10 N10 l10 hd10
  have O10 : Off L ((D10, lst ws10) :: (pre10 ++ (new9 ++ r8))) := Off.app (n := (D10, lst ws10) :: pre10) O9 fun p hp => l10 p hp (L + 4, o4) (.head _)
  have s10 : ∀ p ∈ news' ++ rf, p ∈ (D10, lst ws10) :: (pre10 ++ (new9 ++ r8)) := fun p hp => .tail _ (List.mem_append_right _ (s9 p (s6 p hp)))
  have bl10 : (ysB C (Str.ofString "x = y") ++ ysB C (Str.ofString "k")).length ≤ 5000 := by
    rw [List.length_append]
    have e1 := ysB_le C (Str.ofString "x = y")
    have e2 := ysB_le C (Str.ofString "k")
    have := OC.len
    omega
  refine exc (seg10 B F10 X N10 T O10 (d := d) (l := D10) (by with_unfolding_all exact hb9) (FZ.mono fun p hp => s10 p (List.mem_append_left _ hp)) (TI.mono fun p hp => s10 p (List.mem_append_left _ hp)) (fun k => (OC.tabs k).1) (by with_unfolding_all rfl) (.head _) (hd10.mono fun p hp => .tail _ (List.mem_append_left _ hp)) bl10 (OkC.both _ _) (OC.both_ok _ _) ?_)
  intro h11 tk11 F11 N11
  refine exc (seg11 B F11 X N11 T O10 ?_)
  intro td h12 tk12 F12 N12 l12
  refine exc (seg12 B F12 X N12 T O10 hE d4 c4 (s10 _ (List.mem_append_right _ hlc)) (hdC.mono fun p hp => s10 p (List.mem_append_right _ hp)) OC.len (by with_unfolding_all rfl) l12 ?_)
  intro m13 o4' xs13 k13 fr13 base13 h13 tk13 F13 N13 sub13 hd13 hm13
  have s13 : ∀ p ∈ news', p ∈ (td, W.listOf xs13.toArray k13) :: (fr13 ++ base13) := fun p hp => .tail _ (List.mem_append_right _ (sub13 p (s10 p (List.mem_append_left _ hp))))
  have hb13 : m13 (Str.ofString "book") = some (.ref d) := by rw [hm13 _ (by decide)]; with_unfolding_all exact hb9
  have ht13 : m13 (Str.ofString "told") = some (.ref td) := by rw [hm13 _ (by decide)]; with_unfolding_all rfl
  have hkl : kvs.length ≤ 20 := by
    have e1 := congrArg List.length hks
    rw [List.length_map] at e1
    have e2 := keysOf_length C
    have := OC.len
    omega
  have hnd : (kvs.map (·.1)).Nodup := by
    obtain ⟨dx, es, ep, f, c, oc, vs', tq, pm, ct, clc, oC, tk0, md, BD, rr⟩ := FZ
    exact BD.2.2
  refine exc (seg13 B F13 X N13 T hb13 (FZ.mono s13) (TI.mono s13) (fun k => (OC.tabs k).1) hkl hnd ht13 (.head _) (hd13.mono fun p hp => .tail _ hp) (by rw [hks]; exact toldD_eq C) OC.told_ok ?_)
  intro h14 tk14 F14 N14
  exact ret h14 tk14 _ _ ps F14 N14 (.tail _ (.tail _ (.tail _ (.tail _ (s13 _ mps)))))
theorem lawBody' {w : World} {p : Program} {loose : List Str} {mean : ExcName → Option Value} {mg mb : Str → Option Value} {gd : Option (List Code)} {fa : Addr} {cd : Value} {outer : List Env} {A₀ : Around} {base h₀ : Heap} {L : Addr} {m : Str → Option Value} {o1 o2 o3 o4 : Obj} {s : Shared} {Q : Flow → Shared → Prop} {E : Value → Shared → Prop}
    {A : Around} {env : Env} {body : List Stmt} {sc : Addr} {vs : List Value} {ns : List Int}
    (hA : A = lawTop gd L fa cd outer) (he : env = lawEnv L fa cd) (hbd : body = [law0, law1, law2, law3, law4, law5, law6, law7, law8, law9, law10, law11, law12, law13])
    (B : Below A₀ base outer h₀) (F : Fr h₀ L s.heap m) (X : (KF w.params).In h₀) (N : News h₀ L s.heap (LN L o1 o2 o3 o4 [(nat_lit 114, tabObj #[])])) (T : Top p loose mean mg mb h₀)
    (hE : PassesOwn (model pw w) A env E)
    (c1 : ∃ v, o1.data = .cell v) (c2 : ∃ v, o2.data = .cell v) (c3 : ∃ v, o3.data = .cell v) (c4 : ∃ v, o4.data = .cell v)
    (h114 : nat_lit 114 < L) (codeHd : CodeHd h₀ (nat_lit 118) (nat_lit 114))
    (hs : h₀.IsList sc vs.toArray) (hi : IntsAre vs ns) (hl : ns.length ≤ 63) (hm : m (Str.ofString "script") = some (.ref sc))
    (ret : ∀ h' tk' m' n ps, Fr h₀ L h' m' → News h₀ L h' n → (nat_lit 114, tabObj ps) ∈ n → Q (.ret (.bool true)) { s with heap := h', toks := tk' }) :
    wpAny (model pw w) A (execs body env) Q E s := by
  subst hA he hbd
  exact lawBody B F X N T hE c1 c2 c3 c4 h114 codeHd hs hi hl hm ret
end Mine
end
section
open PySem PySem.W PyProof.Rows
set_option Elab.async false
set_option maxRecDepth 100000
set_option maxHeartbeats 0
namespace Mine
theorem addrsOf : ∀ P, addrs = (KF P).map (·.1) := fun _ => by kernel_rfl
abbrev theLoose : List Str := [Str.ofString "_tuplegetter", Str.ofString "Pair"]
theorem left1 : LeftO Challenge.pw_in0007_01 view theLoose (fun s => xlAt view [] s && recOk [] s) (Hook.obs (kmHook KF addrs addrsOf [114])) (Hook.val (kmHook KF addrs addrsOf [114])) 4452 := by
  intro w
  unfold openEnds fencedOpening topFrom
  rw [PySem.W.Fast.te14082659384304107361, PySem.W.Fast.te10274390034422433532, PySem.W.Fast.te14289696077712309145, PySem.W.Fast.te14364793385576792824, PySem.W.Fast.te4187177175401517315]
  kernel_rfl
theorem said : OpenLaw.wellSaid Challenge.rw_in0007_01 = true := by decide +kernel
end Mine
end
section
open PySem PySem.W PyProof.Rows
set_option Elab.async false
set_option maxRecDepth 100000
set_option maxHeartbeats 0
namespace Mine
theorem main : PySem.Challenge.rw_in0007_01.Holds := by
  w_on
  refine holds_law said fun _ => ?_
  refine holds_open (r := OpenLaw.row Challenge.rw_in0007_01) (q := view) (loose := theLoose) (Xt := fun s => xlAt view [] s && recOk (RowW.records (OpenLaw.row Challenge.rw_in0007_01).toRowW) s) (XP := XL view []) (Yf := Hook.obs (kmHook KF addrs addrsOf [114])) (Ya := Hook.val (kmHook KF addrs addrsOf [114])) (YP := Hook.says (kmHook KF addrs addrsOf [114])) (N := 4452) left1 (Hook.of (kmHook KF addrs addrsOf [114])) (Hook.keeps (kmHook KF addrs addrsOf [114])) (fun s e => xl_of s (Bool.and_eq_true_iff.mp e).1) XL.keeps (by rfl) (by rfl) (by rfl) (fun s e => recFacts_of (Bool.and_eq_true_iff.mp e).2) (by rfl) (row_said said) (by decide +kernel) ⟨rfl, rfl, rfl, rfl, rfl, by decide +kernel⟩ ?hw ?hc
  case hw => w_witness2
  case hc =>
    w_strict k_go0
    rename Fr _ _ _ _ => F
    rename News _ _ _ _ => N
    rename (KF _).In _ => X
    rename Top _ _ _ _ _ _ => T
    rename Below _ _ _ _ => B
    rename IntsAre _ _ => hI
    rename _ < _ => l0
    rename_i a1 a2 a3 a4 b1 b2 b3 b4 b5
    rename ¬ _ < _ => hlen
    have N' : News _ _ _ (LN _ a4 a3 a2 a1 [(nat_lit 114, tabObj #[])]) := N
    dsimp only []
    refine lawBody' (gd := some []) (outer := []) (o1 := a4) (o2 := a3) (o3 := a2) (o4 := a1) ?hA rfl ?hbd B F X N' T ?hE ⟨_, b4⟩ ⟨_, b3⟩ ⟨_, b2⟩ ⟨_, b1⟩ l0 codeHd lifted hI ?hl ?hm ?ret
    case hA => kernel_rfl
    case hbd => kernel_rfl
    case hl => omega
    case hm => kernel_rfl
    case hE => passes_own
    case ret =>
      intro h' tk' m' n ps F9 N9 mps
      refine ⟨?_, ⟨⟨ps, (N9 _ mps).1⟩, trivial⟩⟩
      k_steps
end Mine
end
theorem PySem.Challenge.cw_in0007_01_holds : PySem.Challenge.rw_in0007_01.Holds := by
  exact Mine.main
