import PyProof.Rows.All
import Wide.All
import OpenK.AllK
import Wide.FinOn
import Lean
import PySem.Challenge.RW_ij0005_01
open PySem PySem.W PySem.W.X PyProof.Rows
set_option Elab.async false
set_option maxRecDepth 100000
set_option maxHeartbeats 0
set_option linter.all false

namespace Mine
noncomputable def fobj (i : Nat) (pm cd : Value) : Obj := match PySem.Challenge.pw_ij0005_01.main.body[i]? with
  | some (.FunctionDef name args body _ _ _ scope _ _ _) => { cls := .type "function", data := .func { name := name, qualname := name, params := args, body := .stmts body, scope := scope, globals := mainGlobals, closure := [], defaults := .none, kwdefaults := .none, doc := .none, pyModule := pm, annotations := none, code := cd, closureTuple := .none, builtins := builtinsNs } }
  | _ => default
noncomputable def en (P : Params) (x : String) (t : Nat) (v : Value) : DictEntry := ⟨PyData.keyHash P (Str.ofString x), .str (Str.ofString x) t, v⟩
noncomputable def KX (P : Params) : Frag :=
  (nat_lit 0, ⟨(.type "dict"), none, (.dict #[en P "__name__" 1 (.str (Str.ofString "builtins") 160), en P "__doc__" 2 (.builtin "builtins.__doc__:str#opaque"), en P "__package__" 3 (.builtin "builtins.__package__:str#opaque"), en P "__loader__" 4 (.builtin "builtins.__loader__:shared#opaque"), en P "__spec__" 5 (.builtin "builtins.__spec__#opaque"), en P "__build_class__" 6 (.builtin "__build_class__"), en P "__import__" 7 (.builtin "__import__"), en P "abs" 8 (.builtin "abs"), en P "all" 9 (.builtin "all"), en P "any" 10 (.builtin "any"), en P "ascii" 11 (.builtin "ascii"), en P "bin" 12 (.builtin "bin"), en P "breakpoint" 13 (.builtin "breakpoint"), en P "callable" 14 (.builtin "callable"), en P "chr" 15 (.builtin "chr"), en P "compile" 16 (.builtin "compile"), en P "delattr" 17 (.builtin "delattr"), en P "dir" 18 (.builtin "dir"), en P "divmod" 19 (.builtin "divmod"), en P "eval" 20 (.builtin "eval"), en P "exec" 21 (.builtin "exec"), en P "format" 22 (.builtin "format"), en P "getattr" 23 (.builtin "getattr"), en P "globals" 24 (.builtin "globals"), en P "hasattr" 25 (.builtin "hasattr"), en P "hash" 26 (.builtin "hash"), en P "hex" 27 (.builtin "hex"), en P "id" 28 (.builtin "id"), en P "input" 29 (.builtin "input"), en P "isinstance" 30 (.builtin "isinstance"), en P "issubclass" 31 (.builtin "issubclass"), en P "iter" 32 (.builtin "iter"), en P "aiter" 33 (.builtin "aiter"), en P "len" 34 (.builtin "len"), en P "locals" 35 (.builtin "locals"), en P "max" 36 (.builtin "max"), en P "min" 37 (.builtin "min"), en P "next" 38 (.builtin "next"), en P "anext" 39 (.builtin "anext"), en P "oct" 40 (.builtin "oct"), en P "ord" 41 (.builtin "ord"), en P "pow" 42 (.builtin "pow"), en P "print" 43 (.builtin "print"), en P "repr" 44 (.builtin "repr"), en P "round" 45 (.builtin "round"), en P "setattr" 46 (.builtin "setattr"), en P "sorted" 47 (.builtin "sorted"), en P "sum" 48 (.builtin "sum"), en P "vars" 49 (.builtin "vars"), en P "None" 50 .none, en P "Ellipsis" 51 .ellipsis, en P "NotImplemented" 52 .notImplemented, en P "False" 53 (.bool false), en P "True" 54 (.bool true), en P "bool" 55 (.type "bool"), en P "memoryview" 56 (.type "memoryview"), en P "bytearray" 57 (.type "bytearray"), en P "bytes" 58 (.type "bytes"), en P "classmethod" 59 (.type "classmethod"), en P "complex" 60 (.type "complex"), en P "dict" 61 (.type "dict"), en P "enumerate" 62 (.type "enumerate"), en P "filter" 63 (.type "filter"), en P "float" 64 (.type "float"), en P "frozenset" 65 (.type "frozenset"), en P "property" 66 (.type "property"), en P "int" 67 (.type "int"), en P "list" 68 (.type "list"), en P "map" 69 (.type "map"), en P "object" 70 (.type "object"), en P "range" 71 (.type "range"), en P "reversed" 72 (.type "reversed"), en P "set" 73 (.type "set"), en P "slice" 74 (.type "slice"), en P "staticmethod" 75 (.type "staticmethod"), en P "str" 76 (.type "str"), en P "super" 77 (.type "super"), en P "tuple" 78 (.type "tuple"), en P "type" 79 (.type "type"), en P "zip" 80 (.type "zip"), en P "__debug__" 81 (.bool true), en P "BaseException" 82 (.type "BaseException"), en P "BaseExceptionGroup" 83 (.type "BaseExceptionGroup"), en P "Exception" 84 (.type "Exception"), en P "GeneratorExit" 85 (.type "GeneratorExit"), en P "KeyboardInterrupt" 86 (.type "KeyboardInterrupt"), en P "SystemExit" 87 (.type "SystemExit"), en P "ArithmeticError" 88 (.type "ArithmeticError"), en P "AssertionError" 89 (.type "AssertionError"), en P "AttributeError" 90 (.type "AttributeError"), en P "BufferError" 91 (.type "BufferError"), en P "EOFError" 92 (.type "EOFError"), en P "ImportError" 93 (.type "ImportError"), en P "LookupError" 94 (.type "LookupError"), en P "MemoryError" 95 (.type "MemoryError"), en P "NameError" 96 (.type "NameError"), en P "OSError" 97 (.type "OSError"), en P "ReferenceError" 98 (.type "ReferenceError"), en P "RuntimeError" 99 (.type "RuntimeError"), en P "StopAsyncIteration" 100 (.type "StopAsyncIteration"), en P "StopIteration" 101 (.type "StopIteration"), en P "SyntaxError" 102 (.type "SyntaxError"), en P "SystemError" 103 (.type "SystemError"), en P "TypeError" 104 (.type "TypeError"), en P "ValueError" 105 (.type "ValueError"), en P "Warning" 106 (.type "Warning"), en P "FloatingPointError" 107 (.type "FloatingPointError"), en P "OverflowError" 108 (.type "OverflowError"), en P "ZeroDivisionError" 109 (.type "ZeroDivisionError"), en P "BytesWarning" 110 (.type "BytesWarning"), en P "DeprecationWarning" 111 (.type "DeprecationWarning"), en P "EncodingWarning" 112 (.type "EncodingWarning"), en P "FutureWarning" 113 (.type "FutureWarning"), en P "ImportWarning" 114 (.type "ImportWarning"), en P "PendingDeprecationWarning" 115 (.type "PendingDeprecationWarning"), en P "ResourceWarning" 116 (.type "ResourceWarning"), en P "RuntimeWarning" 117 (.type "RuntimeWarning"), en P "SyntaxWarning" 118 (.type "SyntaxWarning"), en P "UnicodeWarning" 119 (.type "UnicodeWarning"), en P "UserWarning" 120 (.type "UserWarning"), en P "BlockingIOError" 121 (.type "BlockingIOError"), en P "ChildProcessError" 122 (.type "ChildProcessError"), en P "ConnectionError" 123 (.type "ConnectionError"), en P "FileExistsError" 124 (.type "FileExistsError"), en P "FileNotFoundError" 125 (.type "FileNotFoundError"), en P "InterruptedError" 126 (.type "InterruptedError"), en P "IsADirectoryError" 127 (.type "IsADirectoryError"), en P "NotADirectoryError" 128 (.type "NotADirectoryError"), en P "PermissionError" 129 (.type "PermissionError"), en P "ProcessLookupError" 130 (.type "ProcessLookupError"), en P "TimeoutError" 131 (.type "TimeoutError"), en P "IndentationError" 132 (.type "IndentationError"), en P "_IncompleteInputError" 133 (.type "_IncompleteInputError"), en P "IndexError" 134 (.type "IndexError"), en P "KeyError" 135 (.type "KeyError"), en P "ModuleNotFoundError" 136 (.type "ModuleNotFoundError"), en P "NotImplementedError" 137 (.type "NotImplementedError"), en P "PythonFinalizationError" 138 (.type "PythonFinalizationError"), en P "RecursionError" 139 (.type "RecursionError"), en P "UnboundLocalError" 140 (.type "UnboundLocalError"), en P "UnicodeError" 141 (.type "UnicodeError"), en P "BrokenPipeError" 142 (.type "BrokenPipeError"), en P "ConnectionAbortedError" 143 (.type "ConnectionAbortedError"), en P "ConnectionRefusedError" 144 (.type "ConnectionRefusedError"), en P "ConnectionResetError" 145 (.type "ConnectionResetError"), en P "TabError" 146 (.type "TabError"), en P "UnicodeDecodeError" 147 (.type "UnicodeDecodeError"), en P "UnicodeEncodeError" 148 (.type "UnicodeEncodeError"), en P "UnicodeTranslateError" 149 (.type "UnicodeTranslateError"), en P "ExceptionGroup" 150 (.type "ExceptionGroup"), en P "EnvironmentError" 151 (.type "OSError"), en P "IOError" 152 (.type "OSError"), en P "open" 153 (.builtin "open"), en P "quit" 154 (.builtin "builtins.quit#opaque"), en P "exit" 155 (.builtin "builtins.exit#opaque"), en P "copyright" 156 (.builtin "builtins.copyright#opaque"), en P "credits" 157 (.builtin "builtins.credits#opaque"), en P "license" 158 (.builtin "builtins.license#opaque"), en P "help" 159 (.builtin "builtins.help#opaque")] 159), #[]⟩) ::
  (nat_lit 1, ⟨(.type "dict"), none, (.dict #[en P "builtins" 162 (.ref 4), en P "__main__" 163 (.ref 5)] 2), #[]⟩) ::
  (nat_lit 2, ⟨.none, none, (.dict #[] 0), #[]⟩) ::
  (nat_lit 3, ⟨(.type "dict"), none, (.dict #[en P "__name__" 165 (.str (Str.ofString "law_ij0005_01") 222), en P "__doc__" 166 .none, en P "__package__" 167 .none, en P "__loader__" 168 (.builtin "__main__.__loader__#opaque"), en P "__spec__" 169 .none, en P "__annotations__" 170 (.ref 6), en P "__builtins__" 171 (.ref 4), en P "__file__" 173 (.str (Str.ofString "/claim/cut.py") 172), en P "__cached__" 174 .none, en P "search_reverse" 201 (.ref 21), en P "get_line_col" 210 (.ref 28), en P "cmp_to_key" 221 (.ref 35), en P "_law_finds" 236 (.ref 42), en P "_law_places" 247 (.ref 49), en P "_law_read" 255 (.ref 56), en P "_law_order" 263 (.ref 63), en P "_law_contrary" 271 (.ref 70), en P "_law_five" 279 (.ref 77), en P "_law_hit" 291 (.ref 84), en P "_law_program" 299 (.ref 91), en P "_law_told" 306 (.ref 98), en P "law" 312 (.ref 103)] 22), #[]⟩) ::
  (nat_lit 4, ⟨(.type "module"), (some 0), .plain, #[]⟩) ::
  (nat_lit 5, ⟨(.type "module"), (some 3), .plain, #[]⟩) ::
  (nat_lit 6, ⟨(.type "dict"), none, (.dict #[] 0), #[]⟩) ::
  (nat_lit 20, ⟨(.type "code"), none, (.fields #[(.str (Str.ofString "search_reverse") 189), (.str (Str.ofString "search_reverse") 190), (.str (Str.ofString "/claim/cut.py") 191), (.int (2) 0), (.int (3) 0), (.int (0) 0), (.int (0) 0), (.int (3) 0), (.ref 15), (.bool true), (.int (181) 0), (.ref 16), .none, (.ref 17), (.ref 18), (.ref 19), (.int (199) 0), (.int (2) 0), (.str (Str.ofString "/claim/cut.py") 200)]), #[]⟩) ::
  (nat_lit 21, fobj 1 (.str (Str.ofString "cpy313.idlelib.searchengine") 187) (.ref 20)) ::
  (nat_lit 27, ⟨(.type "code"), none, (.fields #[(.str (Str.ofString "get_line_col") 202), (.str (Str.ofString "get_line_col") 203), (.str (Str.ofString "/claim/cut.py") 204), (.int (17) 0), (.int (1) 0), (.int (0) 0), (.int (0) 0), (.int (3) 0), (.ref 22), (.bool true), (.int (181) 0), (.ref 23), .none, (.ref 24), (.ref 25), (.ref 26), (.int (208) 0), (.int (17) 0), (.str (Str.ofString "/claim/cut.py") 209)]), #[]⟩) ::
  (nat_lit 28, fobj 2 (.str (Str.ofString "cpy313.idlelib.searchengine") 187) (.ref 27)) ::
  (nat_lit 34, ⟨(.type "code"), none, (.fields #[(.str (Str.ofString "cmp_to_key") 213), (.str (Str.ofString "cmp_to_key") 214), (.str (Str.ofString "/claim/cut.py") 215), (.int (21) 0), (.int (1) 0), (.int (0) 0), (.int (0) 0), (.int (3) 0), (.ref 29), (.bool true), (.int (181) 0), (.ref 30), .none, (.ref 31), (.ref 32), (.ref 33), (.int (219) 0), (.int (21) 0), (.str (Str.ofString "/claim/cut.py") 220)]), #[]⟩) ::
  (nat_lit 35, fobj 4 (.str (Str.ofString "cpy313.functools") 211) (.ref 34)) ::
  (nat_lit 41, ⟨(.type "code"), none, (.fields #[(.str (Str.ofString "_law_finds") 224), (.str (Str.ofString "_law_finds") 225), (.str (Str.ofString "/claim/cut.py") 226), (.int (47) 0), (.int (1) 0), (.int (0) 0), (.int (0) 0), (.int (3) 0), (.ref 36), (.bool true), (.int (181) 0), (.ref 37), .none, (.ref 38), (.ref 39), (.ref 40), (.int (234) 0), (.int (47) 0), (.str (Str.ofString "/claim/cut.py") 235)]), #[]⟩) ::
  (nat_lit 42, fobj 6 (.str (Str.ofString "law_ij0005_01") 222) (.ref 41)) ::
  (nat_lit 48, ⟨(.type "code"), none, (.fields #[(.str (Str.ofString "_law_places") 237), (.str (Str.ofString "_law_places") 238), (.str (Str.ofString "/claim/cut.py") 239), (.int (62) 0), (.int (1) 0), (.int (0) 0), (.int (0) 0), (.int (3) 0), (.ref 43), (.bool true), (.int (181) 0), (.ref 44), .none, (.ref 45), (.ref 46), (.ref 47), (.int (245) 0), (.int (62) 0), (.str (Str.ofString "/claim/cut.py") 246)]), #[]⟩) ::
  (nat_lit 49, fobj 7 (.str (Str.ofString "law_ij0005_01") 222) (.ref 48)) ::
  (nat_lit 55, ⟨(.type "code"), none, (.fields #[(.str (Str.ofString "_law_read") 248), (.str (Str.ofString "_law_read") 249), (.str (Str.ofString "/claim/cut.py") 250), (.int (67) 0), (.int (2) 0), (.int (0) 0), (.int (0) 0), (.int (3) 0), (.ref 50), (.bool true), (.int (181) 0), (.ref 51), .none, (.ref 52), (.ref 53), (.ref 54), (.int (253) 0), (.int (67) 0), (.str (Str.ofString "/claim/cut.py") 254)]), #[]⟩) ::
  (nat_lit 56, fobj 8 (.str (Str.ofString "law_ij0005_01") 222) (.ref 55)) ::
  (nat_lit 62, ⟨(.type "code"), none, (.fields #[(.str (Str.ofString "_law_order") 256), (.str (Str.ofString "_law_order") 257), (.str (Str.ofString "/claim/cut.py") 258), (.int (69) 0), (.int (2) 0), (.int (0) 0), (.int (0) 0), (.int (3) 0), (.ref 57), (.bool true), (.int (181) 0), (.ref 58), .none, (.ref 59), (.ref 60), (.ref 61), (.int (261) 0), (.int (69) 0), (.str (Str.ofString "/claim/cut.py") 262)]), #[]⟩) ::
  (nat_lit 63, fobj 9 (.str (Str.ofString "law_ij0005_01") 222) (.ref 62)) ::
  (nat_lit 69, ⟨(.type "code"), none, (.fields #[(.str (Str.ofString "_law_contrary") 264), (.str (Str.ofString "_law_contrary") 265), (.str (Str.ofString "/claim/cut.py") 266), (.int (75) 0), (.int (2) 0), (.int (0) 0), (.int (0) 0), (.int (3) 0), (.ref 64), (.bool true), (.int (181) 0), (.ref 65), .none, (.ref 66), (.ref 67), (.ref 68), (.int (269) 0), (.int (75) 0), (.str (Str.ofString "/claim/cut.py") 270)]), #[]⟩) ::
  (nat_lit 70, fobj 10 (.str (Str.ofString "law_ij0005_01") 222) (.ref 69)) ::
  (nat_lit 76, ⟨(.type "code"), none, (.fields #[(.str (Str.ofString "_law_five") 272), (.str (Str.ofString "_law_five") 273), (.str (Str.ofString "/claim/cut.py") 274), (.int (77) 0), (.int (2) 0), (.int (0) 0), (.int (0) 0), (.int (3) 0), (.ref 71), (.bool true), (.int (181) 0), (.ref 72), .none, (.ref 73), (.ref 74), (.ref 75), (.int (277) 0), (.int (77) 0), (.str (Str.ofString "/claim/cut.py") 278)]), #[]⟩) ::
  (nat_lit 77, fobj 11 (.str (Str.ofString "law_ij0005_01") 222) (.ref 76)) ::
  (nat_lit 83, ⟨(.type "code"), none, (.fields #[(.str (Str.ofString "_law_hit") 280), (.str (Str.ofString "_law_hit") 281), (.str (Str.ofString "/claim/cut.py") 282), (.int (79) 0), (.int (3) 0), (.int (0) 0), (.int (0) 0), (.int (3) 0), (.ref 78), (.bool true), (.int (181) 0), (.ref 79), .none, (.ref 80), (.ref 81), (.ref 82), (.int (289) 0), (.int (79) 0), (.str (Str.ofString "/claim/cut.py") 290)]), #[]⟩) ::
  (nat_lit 84, fobj 12 (.str (Str.ofString "law_ij0005_01") 222) (.ref 83)) ::
  (nat_lit 90, ⟨(.type "code"), none, (.fields #[(.str (Str.ofString "_law_program") 292), (.str (Str.ofString "_law_program") 293), (.str (Str.ofString "/claim/cut.py") 294), (.int (85) 0), (.int (0) 0), (.int (0) 0), (.int (0) 0), (.int (3) 0), (.ref 85), (.bool true), (.int (181) 0), (.ref 86), .none, (.ref 87), (.ref 88), (.ref 89), (.int (297) 0), (.int (85) 0), (.str (Str.ofString "/claim/cut.py") 298)]), #[]⟩) ::
  (nat_lit 91, fobj 13 (.str (Str.ofString "law_ij0005_01") 222) (.ref 90)) ::
  (nat_lit 97, ⟨(.type "code"), none, (.fields #[(.str (Str.ofString "_law_told") 300), (.str (Str.ofString "_law_told") 301), (.str (Str.ofString "/claim/cut.py") 302), (.int (95) 0), (.int (1) 0), (.int (0) 0), (.int (0) 0), (.int (3) 0), (.ref 92), (.bool true), (.int (181) 0), (.ref 93), .none, (.ref 94), (.ref 95), (.ref 96), (.int (304) 0), (.int (95) 0), (.str (Str.ofString "/claim/cut.py") 305)]), #[]⟩) ::
  (nat_lit 98, fobj 14 (.str (Str.ofString "law_ij0005_01") 222) (.ref 97)) ::
  (nat_lit 102, ⟨(.type "code"), none, (.fields #[(.str (Str.ofString "law") 307), (.str (Str.ofString "law") 308), (.str (Str.ofString "/claim/cut.py") 309), (.int (99) 0), (.int (1) 0), (.int (0) 0), (.int (0) 0), (.int (3) 0), (.ref 99), (.bool true), (.int (181) 0), (.ref 100), .none, .none, .none, (.ref 101), (.int (310) 0), (.int (99) 0), (.str (Str.ofString "/claim/cut.py") 311)]), #[]⟩) ::
  (nat_lit 103, fobj 15 (.str (Str.ofString "law_ij0005_01") 222) (.ref 102)) :: []


noncomputable def AX : Around := { handled := none, depth := 800, frames := none, guards := none, units := 9000 }

noncomputable def clsBody : List Stmt → List Stmt
  | (.ClassDef _ _ _ b _ _ _ _ _ _ _) :: _ => b
  | _ => []
noncomputable def kcls : List Stmt := match PySem.Challenge.pw_ij0005_01.main.body[(4 : Nat)]? with
  | some (.FunctionDef _ _ b _ _ _ _ _ _ _) => clsBody b
  | _ => []
noncomputable def kfd (i : Nat) (cl : List (Str × Addr)) (cd ct : Value) : FuncData := match kcls[i]? with
  | some (.FunctionDef name args body _ _ _ scope _ _ _) => { name := name, qualname := Str.ofString "cmp_to_key.<locals>.K." ++ name, params := args, body := .stmts body, scope := scope, globals := mainGlobals, closure := cl, defaults := .none, kwdefaults := .none, doc := .none, pyModule := .str (Str.ofString "law_ij0005_01") 222, annotations := none, code := cd, closureTuple := ct, builtins := builtinsNs }
  | _ => default
noncomputable def kfun (i : Nat) (cl : List (Str × Addr)) (cd ct : Value) : Obj := ⟨.type "function", none, .func (kfd i cl cd ct), #[]⟩
noncomputable def kcode (q : String) (x : Value) (t : Tok) (r : List Value) : Obj := ⟨.type "code", none, .fields ⟨x :: .str (Str.ofString ("cmp_to_key.<locals>.K." ++ q)) t :: r⟩, #[]⟩
noncomputable def kclsObj (C nsd bt : Addr) (t1 t2 : Tok) : Obj := ⟨.type "type", none, .cls { name := Str.ofString "K", bases := [.type "object"], mro := [.ref C, .type "object"], ns := nsd, qualname := Str.ofString "cmp_to_key.<locals>.K", hasDict := false, slotNames := [Str.ofString "obj"] }, #[some (.ref bt), none, some (.str (Str.ofString "K") t1), some (.str (Str.ofString "cmp_to_key.<locals>.K") t2), some (.builtin "object.__new__"), some (.bool false)]⟩
noncomputable def knsObj (P : Params) (sl fI fL fG fE fLe fGe sa md : Addr) (t : Nat → Tok) : Obj := ⟨.type "dict", none, .dict #[en P "__module__" (t 0) (.str (Str.ofString "cpy313.functools") (t 1)), en P "__firstlineno__" (t 2) (.int 23 (t 3)), en P "__slots__" (t 4) (.ref sl), en P "__init__" (t 5) (.ref fI), en P "__lt__" (t 6) (.ref fL), en P "__gt__" (t 7) (.ref fG), en P "__eq__" (t 8) (.ref fE), en P "__le__" (t 9) (.ref fLe), en P "__ge__" (t 10) (.ref fGe), en P "__hash__" (t 11) .none, en P "__static_attributes__" (t 12) (.ref sa), en P "obj" (t 13) (.ref md), en P "__doc__" (t 14) .none] 3, #[]⟩

end Mine
namespace Mine
section
/-- an arrow whose left side is given at once: (?_ : Ar _ _) proof, where the hole stands ahead of an argument, leaves no binder in the proof -/
abbrev Ar (P Q : Prop) : Prop := P → Q
abbrev Cp (P : Prop) : Prop := P → P
theorem lb {a n m : Nat} (h : a ≤ n) (e : Nat.ble n m = true) : a ≤ m := Nat.le_trans h (Nat.le_of_ble_eq_true e)
theorem lbk {a n m : Nat} (k : Nat) (h : a ≤ n) (e : Nat.ble (n + k) m = true) : a + k ≤ m := Nat.le_trans (Nat.add_le_add_right h k) (Nat.le_of_ble_eq_true e)
def NoE : Value → Shared → Prop := fun _ _ => False
/-- what is left to do after a value: m's rest, hidden -/
@[irreducible] def Then {α β : Type} (M : Model) (A : Around) (E : Value → Shared → Prop) (Q : β → Shared → Prop) (f : α → Sem β) (a : α) (s : Shared) : Prop := wpAny M A (f a) Q E s
variable {α β : Type} {M : Model} {A : Around} {E' E : Value → Shared → Prop} {s : Shared} {Q : β → Shared → Prop} {f : α → Sem β} {m : Sem α} {a : α}
theorem bindT (h : wpAny M A m (Then M A E Q f) E s) : wpAny M A (m >>= f) Q E s := by
  unfold Then at h
  exact wpAny_bind h
theorem thenI (h : wpAny M A (f a) Q E s) : Then M A E Q f a s := by
  unfold Then
  exact h
theorem pureT (h : wpAny M A (f a) Q E s) : wpAny M A (pure a) (Then M A E Q f) E' s := wpAny_pure (thenI h)
theorem bPure (h : wpAny M A (f a) Q E s) : wpAny M A (pure a >>= f) Q E s := wpAny_bind (wpAny_pure h)
theorem bHold {vs : List Value} (h : wpAny M A m (Then M A E Q f) E s) : wpAny M A (holding vs m >>= f) Q E s := bindT (wpAny_holding h)
end
section
variable {β : Type} {M : Model} {A : Around} {E : Value → Shared → Prop} {s : Shared} {Q : β → Shared → Prop}
theorem bStand {f : Unit → Sem β} {pos : Pos} (h : wpAny M A (f ()) Q E s) : wpAny M A (standAt pos >>= f) Q E s := wpAny_bind (wpAny_standAt h)
theorem bRule {f : Unit → Sem β} {x : String} (h : wpAny M A (f ()) Q E s) : wpAny M A (rule x >>= f) Q E s := wpAny_bind (wpAny_rule h)
theorem bPoint {f : Unit → Sem β} (h : wpAny M A (f ()) Q E s) : wpAny M A (point >>= f) Q E s := wpAny_bind (wpAny_point h)
theorem bRoomFor {f : Unit → Sem β} {x : String} {vs : List Value} (hu : A.units < cLine) (h : wpAny M A (f ()) Q E s) : wpAny M A (cRoomFor x vs >>= f) Q E s := wpAny_bind (wpAny_cRoomFor hu h)
theorem bRoom {f : Unit → Sem β} {x : String} (hu : A.units < cLine) (h : wpAny M A (f ()) Q E s) : wpAny M A (cRoom x >>= f) Q E s := wpAny_bind (wpAny_cRoom hu h)
theorem holdI {m : Sem β} {vs : List Value} (h : wpAny M A m Q E s) : wpAny M A (holding vs m) Q E s := wpAny_holding h
theorem iteF {c : Prop} [Decidable c] {a b : Sem β} (hc : decide c = false) (h : wpAny M A b Q E s) : wpAny M A (if c then a else b) Q E s := by rw [if_neg (of_decide_eq_false hc)]; exact h
theorem iteT {c : Prop} [Decidable c] {a b : Sem β} (hc : decide c = true) (h : wpAny M A a Q E s) : wpAny M A (if c then a else b) Q E s := by rw [if_pos (of_decide_eq_true hc)]; exact h
theorem iteB0 {b : Bool} {x y : Sem β} (hc : b = false) (h : wpAny M A y Q E s) : wpAny M A (if b = true then x else y) Q E s := by subst hc; rw [if_neg Bool.false_ne_true]; exact h
theorem iteB1 {b : Bool} {x y : Sem β} (hc : b = true) (h : wpAny M A x Q E s) : wpAny M A (if b = true then x else y) Q E s := by subst hc; rw [if_pos rfl]; exact h
theorem tryF {m : Sem β} {k : Value → Sem β} (h : wpAny M A m Q NoE s) : wpAny M A (m.tryCatch k) Q E s := wpAny_tryCatch (wpAny_mono h (fun _ _ x => x) fun _ _ x => x.elim)
theorem onF {m : Sem β} {k : Value → Sem Unit} (h : wpAny M A m Q NoE s) : wpAny M A (m.onRaise k) Q E s := wpAny_onRaise (wpAny_mono h (fun _ _ x => x) fun _ _ x => x.elim)
theorem ifTry {b : Bool} {m : Sem β} {k : Value → Sem β} (h : wpAny M A m Q NoE s) : wpAny M A (if b = true then m else m.tryCatch k) Q E s := by
  split
  · exact wpAny_mono h (fun _ _ x => x) fun _ _ x => x.elim
  · exact tryF h
end
section
variable {β : Type} {M : Model} {A : Around} {E : Value → Shared → Prop} {Q : β → Shared → Prop} {h : Heap} {g : Array GenState} {d : Drawn} {t : Nat} {os : OsState}
theorem bFresh {f : Tok → Sem β} (q : wpAny M A (f t) Q E ⟨h, g, d, t + 1, os⟩) : wpAny M A (fresh >>= f) Q E ⟨h, g, d, t, os⟩ := wpAny_bind (wpAny_fresh q)
theorem bLoad {f : Obj → Sem β} {a : Addr} {o : Obj} (ho : h.get? a = some o) (q : wpAny M A (f o) Q E ⟨h, g, d, t, os⟩) : wpAny M A (load a >>= f) Q E ⟨h, g, d, t, os⟩ := wpAny_bind (wpAny_load ho q)
theorem bLoadP {f : Obj → Sem β} {a : Addr} {p : Option Value} {o : Obj} (ho : h.get? a = some o) (q : wpAny M A (f o) Q E ⟨h, g, d, t, os⟩) : wpAny M A (loadPart a p >>= f) Q E ⟨h, g, d, t, os⟩ := wpAny_bind (wpAny_loadPart ho q)
theorem loadI {Q : Obj → Shared → Prop} {a : Addr} {o : Obj} (ho : h.get? a = some o) (q : Q o ⟨h, g, d, t, os⟩) : wpAny M A (load a) Q E ⟨h, g, d, t, os⟩ := wpAny_load ho q
theorem loadPI {Q : Obj → Shared → Prop} {a : Addr} {p : Option Value} {o : Obj} (ho : h.get? a = some o) (q : Q o ⟨h, g, d, t, os⟩) : wpAny M A (loadPart a p) Q E ⟨h, g, d, t, os⟩ := wpAny_loadPart ho q
end
section
variable {α β : Type} {M : Model} {A : Around} {E : Value → Shared → Prop} {s : Shared}
/- the shape of a goal, asked -/
theorem isBind {m : Sem α} {f : α → Sem β} {Q : β → Shared → Prop} (h : wpAny M A m (Then M A E Q f) E s) : wpAny M A (m >>= f) Q E s := bindT h
theorem isU {m : Sem Unit} {f : Unit → Sem β} {Q : β → Shared → Prop} (h : wpAny M A m (Then M A E Q f) E s) : wpAny M A (m >>= f) Q E s := bindT h
theorem isEval {e : Expr} {env : Env} {Q : Value → Shared → Prop} (h : wpAny M A (eval e env) Q E s) : wpAny M A (eval e env) Q E s := h
theorem isUnit {m : Sem Unit} {Q : Unit → Shared → Prop} (h : wpAny M A m Q E s) : wpAny M A m Q E s := h
theorem isIte {c : Prop} [Decidable c] {a b : Sem β} {Q : β → Shared → Prop} (h : wpAny M A (if c then a else b) Q E s) : wpAny M A (if c then a else b) Q E s := h
theorem isSpl {l : List (Bool × Sem Value)} {Q : List Value → Shared → Prop} (h : wpAny M A (spliced l) Q E s) : wpAny M A (spliced l) Q E s := h
theorem isWp {m : Sem β} {Q : β → Shared → Prop} (h : wpAny M A m Q E s) : wpAny M A m Q E s := h
end
abbrev TacM : Type := Lean.MacroM (Lean.TSyntax `tactic)
def idn (w : String) : Lean.Ident := Lean.mkIdent w.toName
def tR (w : String) : TacM := `(tactic| with_reducible refine $(idn w) ?_)
def tA (w : String) : TacM := `(tactic| with_reducible refine $(idn w) (by assumption) ?_)
def tK (w : String) : TacM := `(tactic| with_reducible refine $(idn w) (by kernel_rfl!) ?_)
def tF (w : String) : TacM := `(tactic| with_reducible refine wpAny_of_eq $(idn w) ?_)
def tF' (w : String) : TacM := `(tactic| with_reducible refine wpAny_of_eq ($(idn w) _) ?_)
def tI (w : String) : TacM := `(tactic| with_reducible_and_instances refine $(idn w) ?_)
def tL (a : TacM) (w : String) : TacM := do `(tactic| ((with_reducible refine' $(idn w) ?ha ?_); (case ha => $(← a):tactic)))
def tG (w : String) (t : TacM) : TacM := do `(tactic| ((fail_if_success (fail_if_success $(← tR w):tactic)); $(← t):tactic))
def tS (t : TacM) (w : String) : TacM := do `(tactic| ((fail_if_success (with_reducible refine $(idn w) ?_)); $(← t):tactic))
def tD (t : TacM) : TacM := do `(tactic| focus (refine (?dF : Cp _) ?dC; rotate_left; $(← t):tactic; rotate_left; exact fun _ => ?dC))
def tC (a : TacM) : TacM := do `(tactic| ((with_reducible refine $(idn "caR") ($(idn "o") := ?o) ?ha ?hk ?_); (case ha => $(← a):tactic); (case hk => kernel_rfl!)))
def tM (i : Nat) : TacM := `(tactic| exact $(idn "Mem.at") $(idn "Dm") $(Lean.quote i) _ _ rfl)
def tP : TacM := `(tactic| exact $(idn "kp_mem") $(idn "Dm") _ _ (by assumption))
def tAlt (l : List TacM) (z : TacM) : TacM := l.foldr (fun x r => do `(tactic| first | $(← x):tactic | $(← r):tactic)) z
def tMs (n : Nat) (z : TacM) : TacM := tAlt ((List.range n).map tM) z
def tSs (l : List String) (z : TacM) : TacM := l.foldr (fun w r => tS r ("stop" ++ w)) z
def tOf (k : Char) (w : String) : TacM := if k == 'A' then tA w else if k == 'K' then tK w else if k == 'I' then tI w else if k == 'f' then (if w.endsWith "*" then tF' (w.dropEnd 1).toString else tF w) else tR w
def tWs (k : Char) (l : List String) : List TacM := l.map (tOf k)
def wds (s : String) : List String := (s.splitOn " ").filter (· != "")
def tT (k : Char) (s : String) : List TacM := tWs k (wds s)
def tFail : TacM := `(tactic| fail)
/-- the tactic «walk_at "#n;facts;stops"» of a text: one step of the walk; n objects of the ledger are looked at -/
def walkW (facts stops : String) (n : Nat) : TacM :=
  let at_ := tMs n tP
  let unit := tAlt (tT 'R' "bStand bPoint bRule" ++ tT 'A' "bRoomFor bRoom" ++ tT 'R' "bHold bindT") tFail
  let bind := tAlt [tR "bPure", tG "isU" unit, tR "bFresh", tR "bHold", tL at_ "bLoadP", tL at_ "bLoad", tR "bindT"] tFail
  let ev := tAlt (tT 'K' "evL evG evCall") tFail
  let ite := tAlt (tR "ifTry" :: tA "ite_no" :: tT 'K' "iteB0 iteB1 iteF iteT") tFail
  let uni := tAlt (tT 'R' "wpAny_standAt wpAny_rule wpAny_point" ++ tT 'A' "wpAny_cRoomFor wpAny_cRoom") tFail
  let leaf := tAlt (tR "pureT" :: tG "isEval" ev :: tR "holdI" :: tG "isIte" ite :: tG "isSpl" (tK "spA") :: tG "isUnit" uni :: tT 'R' "tryF onF wpAny_attempt cmK" ++ tT 'f' facts ++ [tD (tSs (wds stops) `(tactic| wp_delta))] ++ tT 'R' "wpAny_pure wpAny_askSetting wpAny_fresh'" ++ [tL at_ "loadPI", tL at_ "loadI"] ++ tT 'I' "wpAny_pure bindT") tFail
  let rest := tAlt (tT 'R' "gotI gotG1 gotG0 caF caB caT spE" ++ [tK "spN", tC at_]) tFail
  tAlt [tR "thenI", tG "isBind" bind, tG "isWp" leaf] rest
def walkS (x : Lean.TSyntax `str) : TacM :=
  let s := x.getString
  match s.splitOn ";" with
  | [n, f, p] => if n.startsWith "#" then walkW f p (n.drop 1).toNat! else Lean.Macro.throwUnsupported
  | _ => Lean.Macro.throwUnsupported

end Mine
local macro_rules | `(tactic| walk_at $s:str) => Mine.walkS s
namespace Mine
noncomputable def Kp (h h' : Heap) : Prop := ∀ b o, h.get? b = some o → h'.get? b = some o
theorem Kp.refl (h : Heap) : Kp h h := fun _ _ e => e
theorem Kp.trans {h h' h'' : Heap} (x : Kp h h') (y : Kp h' h'') : Kp h h'' := fun b o e => y b o (x b o e)
theorem kp_mem {h h' : Heap} {news : List (Addr × Obj)} (D : Mem h h' [] news) : Kp h h' := fun b o e => D.keep b o e (by simp [away])
theorem deep {M : Model} {A : Around} {α : Type} {t : Sem α} {Q : α → Shared → Prop} {E : Value → Shared → Prop} {s : Shared} (h : wpAny M AX t Q E s) (hh : A.handled = none) (hd : A.depth ≤ 800) (hu : A.units ≤ 9000) : wpAny M A t Q E s := by
  intro Γ p hΓ
  obtain ⟨h1, h2, _, _, h5⟩ := hΓ
  refine h Γ p ⟨h1.trans hh, Nat.le_trans h2 hd, ?_, ?_, Nat.le_trans h5 hu⟩
  · intro l e; exact absurd e (by simp [AX])
  · intro l e; exact absurd e (by simp [AX])
theorem bindK {α β : Type} {M : Model} {A : Around} {m : Sem α} {f : α → Sem β} {Q : β → Shared → Prop} {E : Value → Shared → Prop} {s : Shared}
    (h : ∀ Q' : α → Shared → Prop, (∀ a s', wpAny M A (f a) Q E s' → Q' a s') → wpAny M A m Q' E s) : wpAny M A (m >>= f) Q E s :=
  wpAny_bind (h _ fun _ _ x => x)
theorem ite_no {α : Type} {M : Model} {A : Around} {c : Bool} {a b : Sem α} {Q : α → Shared → Prop} {E : Value → Shared → Prop} {s : Shared} (hc : c = false) (h : wpAny M A b Q E s) : wpAny M A (if c = true then a else b) Q E s := by
  rw [if_neg (by rw [hc]; exact Bool.false_ne_true)]; exact h
abbrev MM (w : World) : Model := model PySem.Challenge.rw_ij0005_01.row.toRowW.prog w
local macro_rules | `(tactic| x_close) => `(tactic| (apply_assumption <;> first | exact kp_mem (by assumption) | exact Mem.at (by assumption) 0 _ _ rfl | exact Mem.at (by assumption) 1 _ _ rfl))
theorem collect1 (w : World) : ∀ (s : Shared) (hx : (KX w.params).In s.heap) (Q : Value → Shared → Prop) (E : Value → Shared → Prop) (sl : Addr) (t : Tok)
   (hsl : s.heap.get? sl = some ⟨.type "list", none, .seq #[.str (Str.ofString "obj") t] 0, #[]⟩)
   (k : ∀ a h' tk, Kp s.heap h' → h'.get? a = some ⟨.type "list", none, .seq #[.str (Str.ofString "obj") t] 1, #[]⟩ → Q (.ref a) { s with heap := h', toks := tk }),
   wpAny (model PySem.Challenge.rw_ij0005_01.row.toRowW.prog w) AX (runValue (.builtin "proto.collect" ⟨[.ref sl], []⟩)) Q E s := by
  k_fill
  intros
  x_run

end Mine
namespace Mine
section
variable {M : Model} {A : Around} {E : Value → Shared → Prop} {h₀ h : Heap} {g : Array GenState} {d : Drawn} {t : Nat} {os : OsState} {news : List (Addr × Obj)} {a : Addr} {o o' : Obj} {p : Option Value} {f : Obj → Obj} {x : Str} {r : Option Value}
/-- the rest after a change of the heap, for any heap that the ledger fits: (?_ : Au ..) heap ledger leaves no binder -/
abbrev Au (h₀ : Heap) (news : List (Addr × Obj)) (g : Array GenState) (d : Drawn) (t : Nat) (os : OsState) (Q : Shared → Prop) : Prop := ∀ h', Mem h₀ h' [] news → Q ⟨h', g, d, t, os⟩
abbrev Aa (h₀ : Heap) (news : List (Addr × Obj)) (g : Array GenState) (d : Drawn) (t : Nat) (os : OsState) (o : Obj) (Q : Addr → Shared → Prop) : Prop := ∀ a h', Mem h₀ h' [] ((a, o) :: news) → Q a ⟨h', g, d, t, os⟩
theorem allocB {Q : Addr → Shared → Prop} (k : Q h.objs.size ⟨h.push o, g, d, t, os⟩) : wpAny M A (alloc o) Q E ⟨h, g, d, t, os⟩ := wpAny_alloc k
theorem updD (D : Mem h₀ h [] news) (i : Nat) (hi : news[i]? = some (a, o)) (e : f o = o') (hf : o'.isFreed = false) : Mem h₀ (h.update a f) [] (news.set i (a, o')) := e ▸ D.update hi (e ▸ hf)
theorem updB {Q : Unit → Shared → Prop} (D : Mem h₀ h [] news) (i : Nat) (hi : news[i]? = some (a, o)) (k : Q () ⟨h.update a f, g, d, t, os⟩) : wpAny M A (updatePart a p f) Q E ⟨h, g, d, t, os⟩ := wpAny_updatePart (D.at i a o hi) k
theorem updB' {Q : Unit → Shared → Prop} (D : Mem h₀ h [] news) (i : Nat) (hi : news[i]? = some (a, o)) (k : Q () ⟨h.update a f, g, d, t, os⟩) : wpAny M A (update a f) Q E ⟨h, g, d, t, os⟩ := wpAny_update (D.at i a o hi) k
theorem allocM {Q : Addr → Shared → Prop} (D : Mem h₀ h [] news) (hf : o.isFreed = false) (k : ∀ a h', Mem h₀ h' [] ((a, o) :: news) → Q a ⟨h', g, d, t, os⟩) : wpAny M A (alloc o) Q E ⟨h, g, d, t, os⟩ :=
  wpAny_alloc (k _ _ (D.alloc hf))
theorem updM {Q : Unit → Shared → Prop} (D : Mem h₀ h [] news) (i : Nat) (hi : news[i]? = some (a, o)) (e : f o = o') (hf : o'.isFreed = false) (k : ∀ h', Mem h₀ h' [] (news.set i (a, o')) → Q () ⟨h', g, d, t, os⟩) :
    wpAny M A (updatePart a p f) Q E ⟨h, g, d, t, os⟩ :=
  wpAny_updatePart (D.at i a o hi) (k _ (e ▸ D.update hi (e ▸ hf)))
theorem updM' {Q : Unit → Shared → Prop} (D : Mem h₀ h [] news) (i : Nat) (hi : news[i]? = some (a, o)) (e : f o = o') (hf : o'.isFreed = false) (k : ∀ h', Mem h₀ h' [] (news.set i (a, o')) → Q () ⟨h', g, d, t, os⟩) :
    wpAny M A (update a f) Q E ⟨h, g, d, t, os⟩ :=
  wpAny_update (D.at i a o hi) (k _ (e ▸ D.update hi (e ▸ hf)))
theorem loadM {Q : Obj → Shared → Prop} (D : Mem h₀ h [] news) (i : Nat) (hi : news[i]? = some (a, o)) (q : Q o ⟨h, g, d, t, os⟩) : wpAny M A (loadPart a p) Q E ⟨h, g, d, t, os⟩ := wpAny_loadPart (D.at i a o hi) q
theorem loadM' {Q : Obj → Shared → Prop} (D : Mem h₀ h [] news) (i : Nat) (hi : news[i]? = some (a, o)) (q : Q o ⟨h, g, d, t, os⟩) : wpAny M A (load a) Q E ⟨h, g, d, t, os⟩ := wpAny_load (D.at i a o hi) q
theorem loadO {Q : Obj → Shared → Prop} (D : Mem h₀ h [] news) (e : h₀.get? a = some o) (q : Q o ⟨h, g, d, t, os⟩) : wpAny M A (loadPart a p) Q E ⟨h, g, d, t, os⟩ := wpAny_loadPart (kp_mem D _ _ e) q
theorem loadO' {Q : Obj → Shared → Prop} (D : Mem h₀ h [] news) (e : h₀.get? a = some o) (q : Q o ⟨h, g, d, t, os⟩) : wpAny M A (load a) Q E ⟨h, g, d, t, os⟩ := wpAny_load (kp_mem D _ _ e) q
theorem nsGetM {Q : Option Value → Shared → Prop} (D : Mem h₀ h [] news) (i : Nat) (hi : news[i]? = some (a, o)) (e : nsLook x o = pure r) (q : Q r ⟨h, g, d, t, os⟩) : wpAny M A (nsGet a x) Q E ⟨h, g, d, t, os⟩ := by
  unfold nsGet
  exact wpAny_bind (wpAny_loadPart (D.at i a o hi) (wpAny_of_eq e q))
theorem nsGetO {Q : Option Value → Shared → Prop} (D : Mem h₀ h [] news) (e0 : h₀.get? a = some o) (e : nsLook x o = pure r) (q : Q r ⟨h, g, d, t, os⟩) : wpAny M A (nsGet a x) Q E ⟨h, g, d, t, os⟩ := by
  unfold nsGet
  exact wpAny_bind (wpAny_loadPart (kp_mem D _ _ e0) (wpAny_of_eq e q))
theorem nsGetN {NG : Addr → Str → Sem (Option Value)} (hN : nsGet = NG) {Q : Option Value → Shared → Prop} (D : Mem h₀ h [] news) (i : Nat) (hi : news[i]? = some (a, o)) (e : nsLook x o = pure r) (q : Q r ⟨h, g, d, t, os⟩) : wpAny M A (NG a x) Q E ⟨h, g, d, t, os⟩ := hN ▸ nsGetM D i hi e q
end

end Mine
namespace Mine
section
variable {M : Model} {A : Around} {E : Value → Shared → Prop} {h₀ h : Heap} {g : Array GenState} {d : Drawn} {t : Nat} {os : OsState} {news : List (Addr × Obj)} {a : Addr} {o o' : Obj} {x : Str}
noncomputable def nsPut (P : Params) (a : Addr) (x : Str) (v : Value) (t : Nat) (h : Heap) : Heap := h.update a (Obj.putName x (PyData.keyHash P x) (.str x t) v)
noncomputable def nsOut (a : Addr) (x : Str) (h : Heap) : Heap := h.update a (Obj.dropName x)
theorem nsPutD {P : Params} {v : Value} {o' : Nat → Obj} (D : Mem h₀ h [] news) (i : Nat) (hi : news[i]? = some (a, o)) (e' : ∀ tk, Obj.putName x (PyData.keyHash P x) (.str x tk) v o = o' tk) (hf : ∀ tk, (o' tk).isFreed = false) : Mem h₀ (nsPut P a x v t h) [] (news.set i (a, o' t)) :=
  e' t ▸ D.update hi (e' t ▸ hf t)
theorem nsSetB {NS : Addr → Str → Value → Sem Unit} (hN : nsSet = NS) {Q : Unit → Shared → Prop} (D : Mem h₀ h [] news) (i : Nat) {c : Value} {dd : Option Addr} {es : Array DictEntry} {n : Nat} {sl : Array (Option Value)} {v : Value} (hi : news[i]? = some (a, ⟨c, dd, .dict es n, sl⟩)) (e : aRefKeyMayBeTheName x es = false)
    (q : Q () ⟨nsPut M.w.params a x v t h, g, d, t + 1, os⟩) : wpAny M A (NS a x v) Q E ⟨h, g, d, t, os⟩ := by
  subst hN
  unfold nsSet strHash mkText
  refine wpAny_bind (wpAny_bind (wpAny_askSetting (wpAny_pure (wpAny_bind (wpAny_bind (wpAny_fresh (wpAny_pure (wpAny_bind (wpAny_loadPart (D.at i a _ hi) ?_)))))))))
  dsimp only
  rw [e, if_neg Bool.false_ne_true]
  refine wpAny_updatePart (D.at i a _ hi) ?_
  unfold nsPut PyData.keyHash at q
  exact q
theorem nsOutD (D : Mem h₀ h [] news) (i : Nat) (hi : news[i]? = some (a, o)) (e' : Obj.dropName x o = o') (hf : o'.isFreed = false) : Mem h₀ (nsOut a x h) [] (news.set i (a, o')) := e' ▸ D.update hi (e' ▸ hf)
theorem nsDelB {ND : Addr → Str → Sem Bool} (hN : nsDel = ND) {Q : Bool → Shared → Prop} (D : Mem h₀ h [] news) (i : Nat) (hi : news[i]? = some (a, o)) (e : nsHas x o = pure true) (q : Q true ⟨nsOut a x h, g, d, t, os⟩) : wpAny M A (ND a x) Q E ⟨h, g, d, t, os⟩ := by
  subst hN
  unfold nsDel
  refine wpAny_bind (wpAny_loadPart (D.at i a o hi) (wpAny_bind ?_))
  rw [e]
  refine wpAny_pure ?_
  rw [if_pos rfl]
  refine wpAny_bind (wpAny_updatePart (D.at i a o hi) ?_)
  exact wpAny_pure q
theorem nsDelN {ND : Addr → Str → Sem Bool} (hN : nsDel = ND) {Q : Bool → Shared → Prop} (D : Mem h₀ h [] news) (i : Nat) (hi : news[i]? = some (a, o)) (e : nsHas x o = pure true) (e' : Obj.dropName x o = o') (hf : o'.isFreed = false)
    (q : ∀ h', Mem h₀ h' [] (news.set i (a, o')) → Q true ⟨h', g, d, t, os⟩) : wpAny M A (ND a x) Q E ⟨h, g, d, t, os⟩ := by
  subst hN
  unfold nsDel
  refine wpAny_bind (wpAny_loadPart (D.at i a o hi) (wpAny_bind ?_))
  rw [e]
  refine wpAny_pure ?_
  rw [if_pos rfl]
  refine wpAny_bind (wpAny_updatePart (D.at i a o hi) ?_)
  exact wpAny_pure (q _ (e' ▸ D.update hi (e' ▸ hf)))
theorem nsSetN {NS : Addr → Str → Value → Sem Unit} (hN : nsSet = NS) {Q : Unit → Shared → Prop} (D : Mem h₀ h [] news) (i : Nat) {c : Value} {dd : Option Addr} {es : Array DictEntry} {n : Nat} {sl : Array (Option Value)} {v : Value} {o' : Nat → Obj} (hi : news[i]? = some (a, ⟨c, dd, .dict es n, sl⟩)) (e : aRefKeyMayBeTheName x es = false)
    (e' : ∀ tk, Obj.putName x (PyData.keyHash M.w.params x) (.str x tk) v ⟨c, dd, .dict es n, sl⟩ = o' tk) (hf : ∀ tk, (o' tk).isFreed = false)
    (q : ∀ h', Mem h₀ h' [] (news.set i (a, o' t)) → Q () ⟨h', g, d, t + 1, os⟩) : wpAny M A (NS a x v) Q E ⟨h, g, d, t, os⟩ := by
  subst hN
  unfold nsSet strHash mkText
  refine wpAny_bind (wpAny_bind (wpAny_askSetting (wpAny_pure (wpAny_bind (wpAny_bind (wpAny_fresh (wpAny_pure (wpAny_bind (wpAny_loadPart (D.at i a _ hi) ?_)))))))))
  dsimp only
  rw [e, if_neg Bool.false_ne_true]
  refine wpAny_updatePart (D.at i a _ hi) ?_
  have := e' t
  unfold PyData.keyHash at this
  exact q _ (this ▸ D.update hi (this ▸ hf t))
end

end Mine
namespace Mine
section
variable {M : Model} {A : Around} {E : Value → Shared → Prop} {s : Shared}
theorem wpa_map {α β : Type} {M : Model} {A : Around} {m : Sem α} {f : α → β} {Q : β → Shared → Prop} {E : Value → Shared → Prop} {s : Shared} (h : wpAny M A m (fun a s' => Q (f a) s') E s) : wpAny M A (f <$> m) Q E s := by
  rw [map_eq_pure_bind]
  refine wpAny_bind (wpAny_mono h (fun _ _ x => wpAny_pure x) (fun _ _ x => x))
theorem classDataH {a : Addr} {c : Value} {dd : Option Addr} {cd : ClassData} {sl : Array (Option Value)} {Q : ClassData → Shared → Prop}
    (hC : s.heap.get? a = some ⟨c, dd, .cls cd, sl⟩) (q : Q cd s) : wpAny M A (classData a) Q E s := by
  unfold classData
  exact wpAny_bind (wpAny_load hC (wpAny_pure q))
theorem tlC {C : Addr} {c : Value} {dd : Option Addr} {cd : ClassData} {sl : Array (Option Value)} {o : Obj} {x : Str} {r : Option Value} {Q : Option Value → Shared → Prop}
    (hC : s.heap.get? C = some ⟨c, dd, .cls cd, sl⟩) (hm : cd.mro = [.ref C, .type "object"]) (hN : s.heap.get? cd.ns = some o)
    (e : nsLook x o = pure none) (e2 : builtinOwn "object" x = r) (q : Q r s) : wpAny M A (typeLookup (.ref C) x) Q E s := by
  unfold typeLookup mroOf
  refine wpAny_bind (wpAny_bind (classDataH hC (wpAny_pure ?_)))
  rw [hm]
  simp only [List.forIn_cons, List.forIn_nil, classOwn, bind_assoc]
  refine wpAny_bind (classDataH hC ?_)
  unfold nsGet
  refine wpAny_bind (wpAny_bind (wpAny_loadPart hN ?_))
  rw [e]
  refine wpAny_pure ?_
  simp only [pure_bind]
  rw [e2]
  cases r <;> exact wpAny_pure q
theorem tlCh {C : Addr} {c : Value} {dd : Option Addr} {cd : ClassData} {sl : Array (Option Value)} {o : Obj} {x : Str} {v : Value} {Q : Option Value → Shared → Prop}
    (hC : s.heap.get? C = some ⟨c, dd, .cls cd, sl⟩) (hm : cd.mro = [.ref C, .type "object"]) (hN : s.heap.get? cd.ns = some o)
    (e : nsLook x o = pure (some v)) (q : Q (some v) s) : wpAny M A (typeLookup (.ref C) x) Q E s := by
  unfold typeLookup mroOf
  refine wpAny_bind (wpAny_bind (classDataH hC (wpAny_pure ?_)))
  rw [hm]
  simp only [List.forIn_cons, List.forIn_nil, classOwn, bind_assoc]
  refine wpAny_bind (classDataH hC ?_)
  unfold nsGet
  refine wpAny_bind (wpAny_bind (wpAny_loadPart hN ?_))
  rw [e]
  refine wpAny_pure ?_
  simp only [pure_bind]
  exact wpAny_pure q
theorem stopSet {a : Addr} {x : Str} {v : Value} {Q : Unit → Shared → Prop} (h : wpAny M A (nsSet a x v) Q E s) : wpAny M A (nsSet a x v) Q E s := h
theorem stopGet {a : Addr} {x : Str} {Q : Option Value → Shared → Prop} (h : wpAny M A (nsGet a x) Q E s) : wpAny M A (nsGet a x) Q E s := h
theorem stopDel {a : Addr} {x : Str} {Q : Bool → Shared → Prop} (h : wpAny M A (nsDel a x) Q E s) : wpAny M A (nsDel a x) Q E s := h
theorem tryK {α : Type} {m : Sem α} {k : Value → Sem α} {Q : α → Shared → Prop} (h : ∀ E' : Value → Shared → Prop, wpAny M A m Q E' s) : wpAny M A (m.tryCatch k) Q E s := wpAny_tryCatch (h _)
end

end Mine
namespace Mine
theorem entry_tn : entryFor table "type.__new__" = some Builtin.«type.__new__» := entryFor_of_tree (by kernel_rfl)
theorem st1 : isSubtype (.type "tuple") (.type "tuple") = pure true := by rw [isSubtype_type]; kernel_rfl
theorem st2 : isSubtype (.type "dict") (.type "dict") = pure true := by rw [isSubtype_type]; kernel_rfl
theorem st3 : isSubtype (.type "type") (.type "type") = pure true := by rw [isSubtype_type]; kernel_rfl
theorem st4 : isSubtype (.type "object") (.type "object") = pure true := by rw [isSubtype_type]; kernel_rfl
theorem ty1 : typeOf (.type "object") = pure (.type "type") := by kernel_rfl
theorem ty2 : isType (.type "object") = pure true := rfl
theorem mr1 : mroOf (.type "object") = pure [.type "object"] := by rw [mroOf_type]; kernel_rfl
theorem eb1 : Builtin.extendedBase [.type "object"] = pure (.type "object") := by kernel_rfl
theorem tl1 : typeLookup (.type "dict") "__iter__" = pure (some (.builtin "dict.__iter__")) := by rw [typeLookup_type, builtinLookup_eq_fast]; kernel_rfl
theorem tl2 : typeLookup (.type "object") "__weakref__" = pure none := by rw [typeLookup_type, builtinLookup_eq_fast]; kernel_rfl
theorem tl3 : typeLookup (.type "object") "__dict__" = pure none := by rw [typeLookup_type, builtinLookup_eq_fast]; kernel_rfl
theorem isid : Builtin.Slots.isIdentifier (Str.ofString "obj") = some true := by kernel_rfl

end Mine
namespace Mine
theorem tl4 : typeLookup (.type "type") (Str.ofString "mro") = pure (some (.builtin "type.mro")) := by rw [typeLookup_type, builtinLookup_eq_fast]; kernel_rfl
theorem neO (C : Addr) : (Value.type "object" != Value.ref C) = true := by kernel_rfl
theorem nsC (C : Addr) : (Value.ref C != Value.ref C) = false := by simp
theorem fil (C : Addr) : [Value.ref C, .type "object"].filter (fun x => x != Value.ref C) = [.type "object"] := by
  simp only [List.filter, neO, nsC]

end Mine
namespace Mine
theorem tl5 : typeLookup (.type "object") (Str.ofString "__new__") = pure (some (.builtin "object.__new__")) := by rw [typeLookup_type, builtinLookup_eq_fast]; kernel_rfl

end Mine
namespace Mine
theorem sn1 : typeLookup (.type "str") (Str.ofString "__set_name__") = pure none := by rw [typeLookup_type, builtinLookup_eq_fast]; kernel_rfl
theorem sn2 : typeLookup (.type "int") (Str.ofString "__set_name__") = pure none := by rw [typeLookup_type, builtinLookup_eq_fast]; kernel_rfl
theorem sn3 : typeLookup (.type "list") (Str.ofString "__set_name__") = pure none := by rw [typeLookup_type, builtinLookup_eq_fast]; kernel_rfl
theorem sn4 : typeLookup (.type "function") (Str.ofString "__set_name__") = pure none := by rw [typeLookup_type, builtinLookup_eq_fast]; kernel_rfl
theorem sn5 : typeLookup (.type "NoneType") (Str.ofString "__set_name__") = pure none := by rw [typeLookup_type, builtinLookup_eq_fast]; kernel_rfl
theorem sn6 : typeLookup (.type "tuple") (Str.ofString "__set_name__") = pure none := by rw [typeLookup_type, builtinLookup_eq_fast]; kernel_rfl
theorem sn7 : typeLookup (.type "member_descriptor") (Str.ofString "__set_name__") = pure none := by rw [typeLookup_type, builtinLookup_eq_fast]; kernel_rfl
theorem isb1 (C : Addr) : (Value.ref C == Value.ref C) = true := by simp
theorem moo : classOwn (.type "object") (Str.ofString "__init_subclass__") = pure (some (.builtin "object.__init_subclass__")) := by kernel_rfl
theorem tl6 : typeLookup (.type "super") (Str.ofString "__getattribute__") = pure (some (.builtin "super.__getattribute__")) := by rw [typeLookup_type, builtinLookup_eq_fast]; kernel_rfl
theorem ty3 : typeOf (.builtin "super.__getattribute__") = pure (.type "wrapper_descriptor") := by kernel_rfl
theorem ty4 : typeOf (.builtin "object.__init_subclass__") = pure (.type "classmethod_descriptor") := by kernel_rfl
theorem tl7 : typeLookup (.type "classmethod_descriptor") (Str.ofString "__get__") = pure (some (.builtin "classmethod_descriptor.__get__")) := by rw [typeLookup_type, builtinLookup_eq_fast]; kernel_rfl
theorem entry_sg : entryFor table "super.__getattribute__" = some Builtin.«super.__getattribute__» := entryFor_of_tree (by kernel_rfl)
theorem slot_sg : Slot "super" (Str.ofString "__getattribute__") "super.__getattribute__" :=
  .of (owner := "super") (n := "__getattribute__") tl6 (by decide +kernel) (by decide +kernel) (by decide +kernel)
    (by first | exact .inl (by decide +kernel) | exact .inr (by decide +kernel)) (by rw [isSubtype_type]; kernel_rfl)
theorem args_sg (a b : Value) : argsOk "super.__getattribute__" ⟨[a, b], []⟩ := by kernel_rfl
theorem kx2 {P : Params} {h : Heap} (x : (KX P).In h) : h.get? cStatics = some ⟨.none, none, .dict #[] 0, #[]⟩ := x 2 _ (by kernel_rfl)
theorem aft (C : Addr) : ([Value.ref C, .type "object"].dropWhile (fun x => x != Value.ref C)).drop 1 = [.type "object"] := by simp [List.dropWhile]

end Mine
namespace Mine
local macro_rules | `(tactic| x_close) => `(tactic| (apply_assumption <;> first | exact kp_mem (by assumption) | exact Kp.refl _ | exact Mem.at (by assumption) 0 _ _ rfl))
theorem super1 (w : World) : ∀ (s : Shared) (hx : (KX w.params).In s.heap) (Q : Value → Shared → Prop) (E : Value → Shared → Prop) (C N bt : Addr) (t1 t2 : Tok)
   (hC : s.heap.get? C = some (kclsObj C N bt t1 t2))
   (k : ∀ a h' tk, Kp s.heap h' → h'.get? a = some ⟨.type "super", none, .fields #[.ref C, .ref C, .ref C], #[]⟩ → Q (.ref a) { s with heap := h', toks := tk }),
   wpAny (model PySem.Challenge.rw_ij0005_01.row.toRowW.prog w) AX (PySem.call (.type "super") [.ref C, .ref C] []) Q E s := by
  k_fill
  intros
  simp only [kclsObj] at *
  x_run
theorem isc1 (w : World) : ∀ (s : Shared) (hx : (KX w.params).In s.heap) (Q : Value → Shared → Prop) (E : Value → Shared → Prop) (C N bt : Addr) (t1 t2 : Tok)
   (hC : s.heap.get? C = some (kclsObj C N bt t1 t2))
   (k : ∀ a h' tk, Kp s.heap h' → h'.get? a = some ⟨.type "builtin_function_or_method", none, .fields #[.builtin "object.__init_subclass__", .ref C], #[]⟩ → Q (.ref a) { s with heap := h', toks := tk }),
   wpAny (model PySem.Challenge.rw_ij0005_01.row.toRowW.prog w) AX (PySem.call (.builtin "classmethod_descriptor.__get__") [.builtin "object.__init_subclass__", .none, .ref C] []) Q E s := by
  k_fill
  intros
  simp only [kclsObj] at *
  x_run
theorem isc2 (w : World) : ∀ (s : Shared) (hx : (KX w.params).In s.heap) (Q : Value → Shared → Prop) (E : Value → Shared → Prop) (C N bt a : Addr) (t1 t2 : Tok)
   (hC : s.heap.get? C = some (kclsObj C N bt t1 t2))
   (ha : s.heap.get? a = some ⟨.type "builtin_function_or_method", none, .fields #[.builtin "object.__init_subclass__", .ref C], #[]⟩)
   (k : ∀ h' tk, Kp s.heap h' → Q .none { s with heap := h', toks := tk }),
   wpAny (model PySem.Challenge.rw_ij0005_01.row.toRowW.prog w) AX (PySem.call (.ref a) [] []) Q E s := by
  k_fill
  intros
  simp only [kclsObj] at *
  x_run

end Mine
namespace Mine
variable {w : World} {A : Around} {Q : PySem.Fin → Shared → Prop} {E : Value → Shared → Prop}
theorem tn (hh : A.handled = none) (hd : A.depth ≤ 800) (hu : A.units ≤ 8000) (h : Heap) (g : Array GenState) (d : Drawn) (t : Nat) (os : OsState) (t0 : Tok) (bt nsd sl st f1 f2 f3 f4 f5 f6 : Addr) (tt : Nat → Tok) (t20 t21 : Tok) (fd : Nat → FuncData)
  (hX : (KX w.params).In h)
  (hbt : h.get? bt = some ⟨.type "tuple", none, .seq #[.type "object"] 0, #[]⟩)
  (hns : h.get? nsd = some ⟨.type "dict", none, .dict #[en w.params "__module__" (tt 0) (.str (Str.ofString "cpy313.functools") (tt 1)), en w.params "__qualname__" (tt 2) (.str (Str.ofString "cmp_to_key.<locals>.K") (tt 3)), en w.params "__firstlineno__" (tt 4) (.int 23 (tt 5)), en w.params "__slots__" (tt 6) (.ref sl),
    en w.params "__init__" (tt 7) (.ref f1), en w.params "__lt__" (tt 8) (.ref f2), en w.params "__gt__" (tt 9) (.ref f3), en w.params "__eq__" (tt 10) (.ref f4), en w.params "__le__" (tt 11) (.ref f5), en w.params "__ge__" (tt 12) (.ref f6), en w.params "__hash__" (tt 13) .none, en w.params "__static_attributes__" (tt 14) (.ref st)] 12, #[]⟩)
  (hsl : h.get? sl = some ⟨.type "list", none, .seq #[.str (Str.ofString "obj") t20] 0, #[]⟩)
  (hst : h.get? st = some ⟨.type "tuple", none, .seq #[.str (Str.ofString "obj") t21] 0, #[]⟩)
  (hf1 : h.get? f1 = some ⟨.type "function", none, .func (fd 1), #[]⟩)
  (hf2 : h.get? f2 = some ⟨.type "function", none, .func (fd 2), #[]⟩)
  (hf3 : h.get? f3 = some ⟨.type "function", none, .func (fd 3), #[]⟩)
  (hf4 : h.get? f4 = some ⟨.type "function", none, .func (fd 4), #[]⟩)
  (hf5 : h.get? f5 = some ⟨.type "function", none, .func (fd 5), #[]⟩)
  (hf6 : h.get? f6 = some ⟨.type "function", none, .func (fd 6), #[]⟩)
  (hsm : (nsd == sysModules) = false)
  (kfin : ∀ (C N md : Addr) (h' : Heap) (tk : Nat) (tm : Nat → Tok) (t4 : Tok), Kp h h' → h'.get? C = some (kclsObj C N bt t0 (tt 3)) → h'.get? N = some (knsObj w.params sl f1 f2 f3 f4 f5 f6 st md tm) →
    h'.get? md = some ⟨.type "member_descriptor", none, .fields #[.str (Str.ofString "obj") t4, .ref C, .builtin "proto.slot", .builtin "proto.slot#set", .int 0 0], #[]⟩ → Q (.done (.ret (.ref C))) ⟨h', g, d, tk, os⟩)
  : wpAny (MM w) A (Builtin.«type.__new__» ⟨[.type "type", .str (Str.ofString "K") t0, .ref bt, .ref nsd], []⟩) Q E ⟨h, g, d, t, os⟩ := by
  unfold Builtin.«type.__new__»
  generalize hng : nsGet = NG
  generalize hnd : nsDel = ND
  generalize hnt : nsSet = NS
  refine (?_ : Ar _ _) (Mem.start h); intro Dm
  repeat walk_at "#3;st1 st2 st3 st4 ty1 ty2 mr1 tl1 tl2;"
  refine deep (collect1 w _ hX _ _ sl _ hsl ?_) hh hd (by first | (refine lb (by assumption) ?_; rfl) | omega)
  intro cl h1 tk1 kp1 hcl
  refine (?_ : Ar _ _) (hX.keeps kp1); intro hX1
  refine (?_ : Ar _ _) (kp1 _ _ hbt); intro hbt1
  refine (?_ : Ar _ _) (kp1 _ _ hns); intro hns1
  refine (?_ : Ar _ _) (kp1 _ _ hsl); intro hsl1
  refine (?_ : Ar _ _) (kp1 _ _ hst); intro hst1
  refine (?_ : Ar _ _) (kp1 _ _ hf1); intro hf11
  refine (?_ : Ar _ _) (kp1 _ _ hf2); intro hf21
  refine (?_ : Ar _ _) (kp1 _ _ hf3); intro hf31
  refine (?_ : Ar _ _) (kp1 _ _ hf4); intro hf41
  refine (?_ : Ar _ _) (kp1 _ _ hf5); intro hf51
  refine (?_ : Ar _ _) (kp1 _ _ hf6); intro hf61
  clear hX hbt hns hsl hst Dm hf1 hf2 hf3 hf4 hf5 hf6
  refine (?_ : Ar _ _) (Mem.start h1); intro Dm
  try dsimp -zeta only
  repeat walk_at "#3;st1 st2 st3 st4 ty1 ty2 mr1 tl1 tl2;"
  rw [isid]; try dsimp -zeta only
  repeat walk_at "#3;st1 st2 st3 st4 ty1 ty2 mr1 tl1 tl2;"
  refine allocB ((?_ : Aa _ _ _ _ _ _ _ _) _ _ (Mem.alloc Dm rfl))
  clear Dm; intro N hN Dm
  repeat walk_at "#3;st1 st2 st3 st4 ty1 ty2 mr1 tl1 tl2;"
  refine nsGetN (r := some (.str (Str.ofString "cmp_to_key.<locals>.K") (tt 3))) hng Dm 0 rfl (by kernel_rfl!) ?_
  repeat walk_at "#3;st1 st2 st3 st4 ty1 ty2 mr1 tl1 tl2;"
  refine nsGetN (r := some (.str (Str.ofString "cmp_to_key.<locals>.K") (tt 3))) hng Dm 0 rfl (by kernel_rfl!) ?_
  repeat walk_at "#3;st1 st2 st3 st4 ty1 ty2 mr1 tl1 tl2;"
  refine nsGetN (r := none) hng Dm 0 rfl (by kernel_rfl!) ?_
  repeat walk_at "#3;st1 st2 st3 st4 ty1 ty2 mr1 tl1 tl2;"
  refine allocB ((?_ : Aa _ _ _ _ _ _ _ _) _ _ (Mem.alloc Dm rfl))
  clear Dm; intro C hC Dm
  repeat walk_at "#3;st1 st2 st3 st4 ty1 ty2 mr1 tl1 tl2;"
  refine updB Dm 0 rfl ((?_ : Au _ _ _ _ _ _ _) _ (updD (o' := ⟨.type "type", none, .cls { name := Str.ofString "K", bases := [.type "object"], mro := [], ns := N, qualname := Str.ofString "cmp_to_key.<locals>.K" }, #[some (.ref bt)]⟩) Dm 0 rfl (by kernel_rfl!) rfl))
  clear Dm; intro hC1 Dm; dsimp only [List.set] at Dm
  repeat walk_at "#3;st1 st2 st3 st4 ty1 ty2 mr1 tl1 tl2;"
  refine updB Dm 0 rfl ((?_ : Au _ _ _ _ _ _ _) _ (updD (o' := ⟨.type "type", none, .cls { name := Str.ofString "K", bases := [.type "object"], mro := [], ns := N, qualname := Str.ofString "cmp_to_key.<locals>.K" }, #[some (.ref bt), none, some (.str (Str.ofString "K") t0)]⟩) Dm 0 rfl (by kernel_rfl!) rfl))
  clear Dm; intro hC2 Dm; dsimp only [List.set] at Dm
  repeat walk_at "#3;st1 st2 st3 st4 ty1 ty2 mr1 tl1 tl2;"
  refine updB Dm 0 rfl ((?_ : Au _ _ _ _ _ _ _) _ (updD (o' := ⟨.type "type", none, .cls { name := Str.ofString "K", bases := [.type "object"], mro := [], ns := N, qualname := Str.ofString "cmp_to_key.<locals>.K" }, #[some (.ref bt), none, some (.str (Str.ofString "K") t0), some (.str (Str.ofString "cmp_to_key.<locals>.K") (tt 3))]⟩) Dm 0 rfl (by kernel_rfl!) rfl))
  clear Dm; intro hC3 Dm; dsimp only [List.set] at Dm
  repeat walk_at "#3;st1 st2 st3 st4 ty1 ty2 mr1 tl1 tl2;"
  refine nsDelB hnd Dm 1 rfl (by kernel_rfl!) ((?_ : Au _ _ _ _ _ _ _) _ (nsOutD (o' := ⟨.type "dict", none, .dict #[en w.params "__module__" (tt 0) (.str (Str.ofString "cpy313.functools") (tt 1)), en w.params "__firstlineno__" (tt 4) (.int 23 (tt 5)), en w.params "__slots__" (tt 6) (.ref sl), en w.params "__init__" (tt 7) (.ref f1), en w.params "__lt__" (tt 8) (.ref f2), en w.params "__gt__" (tt 9) (.ref f3), en w.params "__eq__" (tt 10) (.ref f4), en w.params "__le__" (tt 11) (.ref f5), en w.params "__ge__" (tt 12) (.ref f6), en w.params "__hash__" (tt 13) .none, en w.params "__static_attributes__" (tt 14) (.ref st)] 1, #[]⟩) Dm 1 rfl (by kernel_rfl!) rfl))
  clear Dm; intro hC4 Dm; dsimp only [List.set] at Dm
  repeat walk_at "#3;st1 st2 st3 st4 ty1 ty2 mr1 tl1 tl2;"
  repeat walk_at "#3;mr1 tl2 tl4 tl5;Set Get"
  refine nsGetN (r := none) hng Dm 1 rfl (by kernel_rfl!) ?_
  repeat walk_at "#3;mr1 tl2 tl4 tl5;Set Get"
  refine nsGetN (r := none) hng Dm 1 rfl (by kernel_rfl!) ?_
  repeat walk_at "#3;mr1 tl2 tl4 tl5;Set Get"
  refine nsGetN (r := none) hng Dm 1 rfl (by kernel_rfl!) ?_
  repeat walk_at "#3;mr1 tl2 tl4 tl5;Set Get"
  refine nsGetN (r := none) hng Dm 1 rfl (by kernel_rfl!) ?_
  repeat walk_at "#3;mr1 tl2 tl4 tl5;Set Get"
  refine nsGetN (r := none) hng Dm 1 rfl (by kernel_rfl!) ?_
  repeat walk_at "#3;mr1 tl2 tl4 tl5;Set Get"
  change wpAny _ _ (List.anyM _ (List.filter _ [Value.ref C, .type "object"])) _ _ _
  rw [fil]
  repeat walk_at "#3;mr1 tl2 tl4 tl5;Set Get"
  refine updB Dm 0 rfl ((?_ : Au _ _ _ _ _ _ _) _ (updD (o' := ⟨.type "type", none, .cls { name := Str.ofString "K", bases := [.type "object"], mro := [.ref C, .type "object"], ns := N, qualname := Str.ofString "cmp_to_key.<locals>.K" }, #[some (.ref bt), none, some (.str (Str.ofString "K") t0), some (.str (Str.ofString "cmp_to_key.<locals>.K") (tt 3))]⟩) Dm 0 rfl (by kernel_rfl!) rfl))
  clear Dm; intro hC5 Dm; dsimp only [List.set] at Dm
  repeat walk_at "#3;mr1 tl2 tl4 tl5;Set Get"
  try dsimp -zeta only
  repeat walk_at "#3;mr1 tl2 tl4 tl5;Set Get"
  refine updB Dm 0 rfl ((?_ : Au _ _ _ _ _ _ _) _ (updD (o' := ⟨.type "type", none, .cls { name := Str.ofString "K", bases := [.type "object"], mro := [.ref C, .type "object"], ns := N, qualname := Str.ofString "cmp_to_key.<locals>.K" }, #[some (.ref bt), none, some (.str (Str.ofString "K") t0), some (.str (Str.ofString "cmp_to_key.<locals>.K") (tt 3)), some (.builtin "object.__new__")]⟩) Dm 0 rfl (by kernel_rfl!) rfl))
  clear Dm; intro hC6 Dm; dsimp only [List.set] at Dm
  repeat walk_at "#3;mr1 tl2 tl4 tl5;Set Get"
  refine tlC (r := some (.builtin "object.__new__")) (Mem.at Dm 0 _ _ rfl) rfl (Mem.at Dm 1 _ _ rfl) (by kernel_rfl!) (by kernel_rfl!) ?_
  repeat walk_at "#3;mr1 tl2 tl4 tl5;Set Get"
  refine nsGetN (r := none) rfl Dm 1 rfl (by kernel_rfl!) ?_
  repeat walk_at "#3;mr1 tl2 tl4 tl5;Set Get"
  refine allocB ((?_ : Aa _ _ _ _ _ _ _ _) _ _ (Mem.alloc Dm rfl))
  clear Dm; intro md hD Dm
  repeat walk_at "#3;mr1 tl2 tl4 tl5;Set Get"
  refine nsSetB (x := Str.ofString "obj") rfl Dm 2 rfl (by kernel_rfl!) ((?_ : Au _ _ _ _ _ _ _) _ (nsPutD (o' := fun tk => ⟨.type "dict", none, .dict #[en w.params "__module__" (tt 0) (.str (Str.ofString "cpy313.functools") (tt 1)), en w.params "__firstlineno__" (tt 4) (.int 23 (tt 5)), en w.params "__slots__" (tt 6) (.ref sl), en w.params "__init__" (tt 7) (.ref f1), en w.params "__lt__" (tt 8) (.ref f2), en w.params "__gt__" (tt 9) (.ref f3), en w.params "__eq__" (tt 10) (.ref f4), en w.params "__le__" (tt 11) (.ref f5), en w.params "__ge__" (tt 12) (.ref f6), en w.params "__hash__" (tt 13) .none, en w.params "__static_attributes__" (tt 14) (.ref st), en w.params "obj" tk (.ref md)] 2, #[]⟩) Dm 2 rfl (by intro tk; kernel_rfl!) (fun _ => rfl)))
  clear Dm; intro hD1 Dm; dsimp only [List.set] at Dm
  repeat walk_at "#3;mr1 tl2 tl4 tl5;Set Get"
  refine updB' Dm 1 rfl ((?_ : Au _ _ _ _ _ _ _) _ (updD (o' := ⟨.type "type", none, .cls { name := Str.ofString "K", bases := [.type "object"], mro := [.ref C, .type "object"], ns := N, qualname := Str.ofString "cmp_to_key.<locals>.K", slotNames := [Str.ofString "obj"], hasDict := false }, #[some (.ref bt), none, some (.str (Str.ofString "K") t0), some (.str (Str.ofString "cmp_to_key.<locals>.K") (tt 3)), some (.builtin "object.__new__")]⟩) Dm 1 rfl (by kernel_rfl!) rfl))
  clear Dm; intro hD2 Dm; dsimp only [List.set] at Dm
  repeat walk_at "#3;mr1 tl2 tl4 tl5;Set Get"
  refine updB Dm 1 rfl ((?_ : Au _ _ _ _ _ _ _) _ (updD (o' := ⟨.type "type", none, .cls { name := Str.ofString "K", bases := [.type "object"], mro := [.ref C, .type "object"], ns := N, qualname := Str.ofString "cmp_to_key.<locals>.K", slotNames := [Str.ofString "obj"], hasDict := false }, #[some (.ref bt), none, some (.str (Str.ofString "K") t0), some (.str (Str.ofString "cmp_to_key.<locals>.K") (tt 3)), some (.builtin "object.__new__"), some (.bool false)]⟩) Dm 1 rfl (by kernel_rfl!) rfl))
  clear Dm; intro hD3 Dm; dsimp only [List.set] at Dm
  repeat walk_at "#3;mr1 tl2 tl4 tl5;Set Get"
  refine nsGetN (r := none) hng Dm 2 rfl (by kernel_rfl!) ?_
  repeat walk_at "#3;mr1 tl2 tl4 tl5;Set Get"
  refine nsSetB (x := Str.ofString "__doc__") hnt Dm 2 rfl (by kernel_rfl!) ((?_ : Au _ _ _ _ _ _ _) _ (nsPutD (o' := fun tk => ⟨.type "dict", none, .dict #[en w.params "__module__" (tt 0) (.str (Str.ofString "cpy313.functools") (tt 1)), en w.params "__firstlineno__" (tt 4) (.int 23 (tt 5)), en w.params "__slots__" (tt 6) (.ref sl), en w.params "__init__" (tt 7) (.ref f1), en w.params "__lt__" (tt 8) (.ref f2), en w.params "__gt__" (tt 9) (.ref f3), en w.params "__eq__" (tt 10) (.ref f4), en w.params "__le__" (tt 11) (.ref f5), en w.params "__ge__" (tt 12) (.ref f6), en w.params "__hash__" (tt 13) .none, en w.params "__static_attributes__" (tt 14) (.ref st), en w.params "obj" (tk1 + 1) (.ref md), en w.params "__doc__" tk .none] 3, #[]⟩) Dm 2 rfl (by intro tk; kernel_rfl!) (fun _ => rfl)))
  clear Dm; intro hD4 Dm; dsimp only [List.set] at Dm
  repeat walk_at "#3;mr1 tl2 tl4 tl5;Set Get"
  refine nsGetN (r := some (.ref f4)) hng Dm 2 rfl (by kernel_rfl!) ?_
  repeat walk_at "#3;mr1 tl2 tl4 tl5;Set Get"
  refine nsGetN (r := some .none) hng Dm 2 rfl (by kernel_rfl!) ?_
  repeat walk_at "#3;mr1 tl2 tl4 tl5;Set Get"
  repeat walk_at "#3;tl6 tl7 ty4 moo sn1 sn2 sn3 sn4 sn5 sn6 sn7;Get"
  refine (?_ : Ar _ _) (hX1.keeps (kp_mem Dm)); intro hX4
  refine deep (super1 w _ hX4 _ _ C N bt t0 (tt 3) (Mem.at Dm 1 _ _ rfl) ?_) hh hd (by first | (refine lb (by assumption) ?_; rfl) | omega)
  intro sp h2 tk2 kp2 hsp
  refine (?_ : Ar _ _) (kp2 _ _ (Mem.at Dm 1 _ _ rfl)); intro hC2
  refine (?_ : Ar _ _) (kp2 _ _ (Mem.at Dm 2 _ _ rfl)); intro hN2
  refine (?_ : Ar _ _) (kp2 _ _ (Mem.at Dm 0 _ _ rfl)); intro hm2
  refine (?_ : Ar _ _) (hX4.keeps kp2); intro hX2
  refine (?_ : Ar _ _) (kp1.trans ((kp_mem Dm).trans kp2)); intro kpa
  clear Dm
  refine (?_ : Ar _ _) (Mem.start h2); intro Dm
  try dsimp only at hC2 hN2 hm2
  try dsimp -zeta only
  repeat walk_at "#3;tl6 tl7 ty4 moo sn1 sn2 sn3 sn4 sn5 sn6 sn7;Get"
  refine wpAny_of_eq (slot_sg.bind _) ?_
  repeat walk_at "#3;tl6 tl7 ty4 moo sn1 sn2 sn3 sn4 sn5 sn6 sn7;Get"
  refine wpAny_call_entry slot_sg ⟨_, hsp, rfl⟩ entry_sg ?_ (args_sg _ _)
  unfold Builtin.«super.__getattribute__»
  repeat walk_at "#3;tl6 tl7 ty4 moo sn1 sn2 sn3 sn4 sn5 sn6 sn7;Get"
  refine nsGetO (r := none) Dm (kx2 hX2) (by kernel_rfl!) ?_
  repeat walk_at "#3;tl6 tl7 ty4 moo sn1 sn2 sn3 sn4 sn5 sn6 sn7;Get"
  change wpAny _ _ (forIn (List.drop 1 (List.dropWhile (fun x => x != Value.ref C) [Value.ref C, .type "object"])) (none, ()) _) _ _ _
  rw [aft]
  repeat walk_at "#3;tl6 tl7 ty4 moo sn1 sn2 sn3 sn4 sn5 sn6 sn7;Get"
  change wpAny _ _ (call (.builtin "classmethod_descriptor.__get__") [.builtin "object.__init_subclass__", if (Value.ref C == Value.ref C) = true then .none else .ref C, .ref C]) _ _ _
  rw [isb1, if_pos rfl]
  refine deep (isc1 w _ hX2 _ _ C N bt t0 (tt 3) hC2 ?_) hh hd (by show A.units + 1 ≤ 9000; exact lbk 1 hu rfl)
  intro ia h3 tk3 kp3 hia
  refine (?_ : Ar _ _) (kp3 _ _ hC2); intro hC3
  refine (?_ : Ar _ _) (kp3 _ _ hN2); intro hN3
  refine (?_ : Ar _ _) (kp3 _ _ hm2); intro hm3
  refine (?_ : Ar _ _) (hX2.keeps kp3); intro hX3
  refine (?_ : Ar _ _) (kpa.trans kp3); intro kpb
  clear Dm
  refine (?_ : Ar _ _) (Mem.start h3); intro Dm
  try dsimp only at hC3 hN3 hm3
  try dsimp -zeta only
  repeat walk_at "#3;tl6 tl7 ty4 moo sn1 sn2 sn3 sn4 sn5 sn6 sn7;Get"
  refine ⟨_, rfl, ?_⟩
  repeat walk_at "#3;tl6 tl7 ty4 moo sn1 sn2 sn3 sn4 sn5 sn6 sn7;Get"
  refine deep (isc2 w _ hX3 _ _ C N bt ia t0 (tt 3) hC3 hia ?_) hh hd (by first | (refine lb (by assumption) ?_; rfl) | omega)
  intro h4 tk4 kp4
  refine (?_ : Ar _ _) (kp4 _ _ hC3); intro hC4
  refine (?_ : Ar _ _) (kp4 _ _ hN3); intro hN4
  refine (?_ : Ar _ _) (kp4 _ _ hm3); intro hm4
  refine (?_ : Ar _ _) (kpb.trans kp4); intro kpc
  clear Dm
  refine (?_ : Ar _ _) (Mem.start h4); intro Dm
  try dsimp only at hC4 hN4 hm4
  try dsimp -zeta only
  repeat walk_at "#3;tl6 tl7 ty4 moo sn1 sn2 sn3 sn4 sn5 sn6 sn7;Get"
  exact kfin C N md h4 tk4 (fun i => if i < 2 then tt i else if i < 13 then tt (i + 2) else tk1 + (i - 12)) tk1 kpc hC4 hN4 hm4
end Mine
namespace Mine
theorem mro_t : mroOf (.type "type") = pure [.type "type", .type "object"] := by rw [mroOf_type]; kernel_rfl
theorem new_t : typeLookup (.type "type") "__new__" = pure (some (.builtin "type.__new__")) := by rw [typeLookup_type, builtinLookup_eq_fast]; kernel_rfl
theorem made_t : Bind.madeBy (.type "type") = pure (some "type.__new__") := madeBy_type mro_t new_t (by decide +kernel)
theorem sub_tt : isSubtype (.type "type") (.type "type") = pure true := by rw [isSubtype_type]; kernel_rfl
theorem init_t : typeLookup (.type "type") (Str.ofString "__init__") = pure (some (.builtin "type.__init__")) := by rw [typeLookup_type, builtinLookup_eq_fast]; kernel_rfl
theorem slot_ti : Slot "type" (Str.ofString "__init__") "type.__init__" :=
  .of (owner := "type") (n := "__init__") init_t (by decide +kernel) (by decide +kernel) (by decide +kernel)
    (by first | exact .inl (by decide +kernel) | exact .inr (by decide +kernel)) (by rw [isSubtype_type]; kernel_rfl)
theorem chk_t (args : List Value) : checkTypeCall "type" ⟨args, []⟩ = pure () := by kernel_rfl
theorem chk_n (a b c : Value) : checkBuiltinCall "type.__new__" ⟨[.type "type", a, b, c], []⟩ = pure () := by kernel_rfl
theorem entry_ti : entryFor table "type.__init__" = some Builtin.«type.__init__» := entryFor_of_tree (by kernel_rfl)
theorem args_ti (a b c d : Value) : argsOk "type.__init__" ⟨[a, b, c, d], []⟩ := by kernel_rfl
theorem ty5 : typeOf (.type "type") = pure (.type "type") := by kernel_rfl
theorem tl8 : typeLookup (.type "type") (Str.ofString "__getattribute__") = pure (some (.builtin "type.__getattribute__")) := by rw [typeLookup_type, builtinLookup_eq_fast]; kernel_rfl
theorem slot_tg : Slot "type" (Str.ofString "__getattribute__") "type.__getattribute__" :=
  .of (owner := "type") (n := "__getattribute__") tl8 (by decide +kernel) (by decide +kernel) (by decide +kernel)
    (by first | exact .inl (by decide +kernel) | exact .inr (by decide +kernel)) (by rw [isSubtype_type]; kernel_rfl)
theorem tl9 : typeLookup (.type "dict") (Str.ofString "__getitem__") = pure (some (.builtin "dict.__getitem__")) := by rw [typeLookup_type, builtinLookup_eq_fast]; kernel_rfl

end Mine
namespace Mine
variable {N : Nat}
section
variable {M : Model} {A : Around} {E : Value → Shared → Prop} {s : Shared}
noncomputable def NewAt (h : Heap) (k : Nat) (c P : Addr) (q : Str) : Prop := k ≤ c ∧ k ≤ P ∧ h.IsCode c P #[] ∧ h.TableAt c P #[] ∧ h.CodeRec (.ref c) q
theorem codeAtJ {env : Env} {pos : Pos} {make : CodeContext → Sem Value} {c P : Addr} {ps : Array Value} {q : Str} {Q : Value → Shared → Prop} (hc : env.code = .ref c) (hok : s.heap.IsCode c P ps) (htab : s.heap.TableAt c P ps)
    (hmk : ∀ ctx (Q' : Value → Shared → Prop), (∀ c' P' h' tk, Kp s.heap h' → NewAt h' s.heap.objs.size c' P' q → Q' (.ref c') { s with heap := h', toks := tk }) → wpAny M A (make ctx) Q' E s)
    (hit : ∀ x, codeAmong pos ps.toList = some x → Q x s)
    (miss : codeAmong pos ps.toList = none → ∀ c' P' h' tk, Heap.ExtBut P s.heap h' → h'.IsCode c P (ps ++ #[rawInt pos.line, rawInt pos.col, .ref c']) → h'.TableAt c P (ps ++ #[rawInt pos.line, rawInt pos.col, .ref c']) →
      NewAt h' s.heap.objs.size c' P' q → Q (.ref c') { s with heap := h', toks := tk }) : wpAny M A (codeAt env pos make) Q E s := by
  obtain ⟨o, vs, file, tf, flags, tg, inF, text, tt, op, ho, hd, h11, h2, h7, h9, h10, hop, hpd, htr, hne⟩ := id hok
  obtain ⟨⟨oc, vc, hoc, hcc, hdc, h11c⟩, htP⟩ := id htab
  have eop : op = { cls := .none, data := .fields ps } := Option.some.inj (hop.symm.trans htP)
  subst eop
  have e0 : (env.code == Value.none) = false := by rw [hc]; rfl
  unfold codeAt
  rw [hc, if_neg (by rw [← hc, e0]; exact Bool.false_ne_true)]
  refine wpAny_bind (wpAny_fieldsOf ho hd ?_)
  rw [h11]
  refine wpAny_bind (wpAny_fieldsOf hop hpd ?_)
  cases hn : codeAmong pos ps.toList with
  | some x => exact wpAny_pure (hit x hn)
  | none =>
    dsimp only
    rw [h2, h7, h9, h10]
    refine wpAny_bind (hmk _ _ fun c' P' h' tk hk hN => ?_)
    obtain ⟨n1, n2, n3, n4, n5⟩ := hN
    have g0 := hk _ _ htP
    have hnew : (Obj.mapFields (fun vs => if (codeAmong pos vs.toList).isSome = true then vs else vs ++ #[rawInt pos.line, rawInt pos.col, .ref c']) { cls := .none, data := .fields ps }) =
        { cls := .none, data := .fields (ps ++ #[rawInt pos.line, rawInt pos.col, .ref c']) } := by simp only [Obj.mapFields, hn]; rfl
    refine wpAny_bind (wpAny_updateFieldsOfTheText g0 rfl ?_)
    have hget := Heap.get?_update_self (h := h') (fun o => Obj.mapFields (fun vs => if (codeAmong pos vs.toList).isSome = true then vs else vs ++ #[rawInt pos.line, rawInt pos.col, .ref c']) o) g0 (by rw [hnew]; rfl)
    rw [hnew] at hget
    refine wpAny_bind (wpAny_fieldsOf hget rfl ?_)
    have hl : (ps ++ #[rawInt pos.line, rawInt pos.col, Value.ref c']).toList = ps.toList ++ [rawInt pos.line, rawInt pos.col, .ref c'] := by simp
    rw [hl, codeAmong_snoc _ htr hn]
    have sb := (Heap.SameBut.update (h := h') (a := P) (f := fun o => Obj.mapFields (fun vs => if (codeAmong pos vs.toList).isSome = true then vs else vs ++ #[rawInt pos.line, rawInt pos.col, .ref c']) o))
    have eb := sb.extBut
    have lP : P < s.heap.objs.size := Heap.lt_size htP
    have hcP : c' ≠ P := Nat.ne_of_gt (Nat.lt_of_lt_of_le lP n1)
    have hPP : P' ≠ P := Nat.ne_of_gt (Nat.lt_of_lt_of_le lP n2)
    refine wpAny_pure (miss hn c' P' _ _ (fun b o' hb e => eb b o' hb (hk b o' e)) ?_ ?_ ⟨n1, n2, n3.extBut eb hcP hPP, n4.extBut eb hcP hPP, ?_⟩)
    · exact ⟨o, vs, file, tf, flags, tg, inF, text, tt, _, eb _ _ hne (hk _ _ ho), hd, h11, h2, h7, h9, h10, hget, rfl, by rw [hl]; exact TriplesOk_snoc _ _ _ _ htr, hne⟩
    · exact ⟨⟨oc, vc, eb _ _ hne (hk _ _ hoc), hcc, hdc, h11c⟩, hget⟩
    · obtain ⟨c₂, o₂, vs₂, t₂, e₂, g₂, r₂⟩ := n5
      cases e₂
      exact ⟨_, o₂, vs₂, t₂, rfl, eb _ _ hcP g₂, r₂⟩
theorem among_snoc {q : Pos} {a b : Nat} {c x : Value} : ∀ (l : List Value), TriplesOk l → codeAmong q (l ++ [rawInt a, rawInt b, c]) = some x → codeAmong q l = some x ∨ (x = c ∧ q.line = a ∧ q.col = b) := by
  intro l h hx
  fun_induction TriplesOk l with
  | case1 =>
    right
    simp only [List.nil_append, codeAmong, rawInt] at hx
    split at hx
    · rename_i hc
      simp only [Bool.and_eq_true, beq_iff_eq] at hc
      refine ⟨(Option.some.inj hx).symm, ?_, ?_⟩
      · have := hc.1; omega
      · have := hc.2; omega
    · cases hx
  | case2 a' t b' u x' rest ih =>
    simp only [List.cons_append, codeAmong] at hx ⊢
    split at hx
    · rename_i hc; rw [if_pos hc]; exact .inl hx
    · rename_i hc; rw [if_neg hc]; exact ih h hx
  | case3 l h1 h2 => exact h.elim
noncomputable def qn (q : Nat → Str) (h : Heap) (pos : Pos) (x : Value) : Prop := ∃ cc od vs os t, x = .ref cc ∧ h.get? cc = some ⟨.type "code", od, .fields vs, os⟩ ∧ vs[1]? = some (.str (q pos.line) t)
noncomputable def Jm (N : Nat) (q : Nat → Str) (c P : Addr) (h : Heap) : Prop := 103 + N < P ∧ 103 + N < c ∧ ∃ ps, h.IsCode c P ps ∧ h.TableAt c P ps ∧ ∀ pos x, codeAmong pos ps.toList = some x → qn q h pos x
theorem Jm.but {q : Nat → Str} {c P a : Addr} {h h' : Heap} (J : Jm N q c P h) (hs : Heap.ExtBut a h h') (oa : Obj) (ha : h.get? a = some oa) (hd : ∀ vs, oa.data ≠ .fields vs) : Jm N q c P h' := by
  obtain ⟨l1, l2, ps, hok, htab, hq⟩ := J
  have hca : c ≠ a := by
    rintro rfl
    obtain ⟨o, vs, _, _, _, _, _, _, _, _, ho, hd', _⟩ := hok
    rw [ha] at ho; cases ho; exact hd _ hd'
  have hPa : P ≠ a := by
    rintro rfl
    have := htab.2
    rw [ha] at this; cases this; exact hd _ rfl
  refine ⟨l1, l2, ps, hok.extBut hs hca hPa, htab.extBut hs hca hPa, fun pos x e => ?_⟩
  obtain ⟨cc, od, vs, os, t, e1, e2, e3⟩ := hq pos x e
  refine ⟨cc, od, vs, os, t, e1, hs _ _ ?_ e2, e3⟩
  rintro rfl
  rw [ha] at e2; cases e2; exact hd _ rfl
theorem Jm.kp {q : Nat → Str} {c P : Addr} {h h' : Heap} (J : Jm N q c P h) (hs : Kp h h') : Jm N q c P h' := by
  obtain ⟨l1, l2, ps, hok, htab, hq⟩ := J
  refine ⟨l1, l2, ps, hok.keeps hs, htab.keeps hs, fun pos x e => ?_⟩
  obtain ⟨cc, od, vs, os, t, e1, e2, e3⟩ := hq pos x e
  exact ⟨cc, od, vs, os, t, e1, hs _ _ e2, e3⟩
theorem qn_of {q : Nat → Str} {h : Heap} {c P : Addr} {ps : Array Value} {pos : Pos} (ht : h.TableAt c P ps) (hr : h.CodeRec (.ref c) (q pos.line)) : qn q h pos (.ref c) := by
  obtain ⟨⟨o, vs, g, hc, hd, _⟩, _⟩ := ht
  obtain ⟨c2, o2, vs2, t2, e2, g2, d2, r2⟩ := hr
  cases e2
  rw [g] at g2; cases g2
  rw [hd] at d2; cases d2
  obtain ⟨cl, dd, da, sl⟩ := o
  simp only at hc hd
  subst hc hd
  exact ⟨_, dd, vs, sl, t2, rfl, g, r2⟩
noncomputable def JT (q : Nat → Str) (c P : Addr) (h : Heap) : Prop := ∃ ps, h.IsCode c P ps ∧ h.TableAt c P ps ∧ ∀ pos x, codeAmong pos ps.toList = some x → qn q h pos x
theorem JT.kd {q : Nat → Str} {c P : Addr} {h h' : Heap} (J : JT q c P h) (k : ∀ b o, h.get? b = some o → (o.cls = .type "code" ∨ o.cls = .none) → h'.get? b = some o) : JT q c P h' := by
  obtain ⟨ps, ⟨o, vs, file, tf, flags, tg, inF, text, tt, op, ho, hd, h11, h2, h7, h9, h10, hop, hpd, htr, hne⟩, ⟨⟨oc, vc, hoc, hcc, hdc, h11c⟩, htP⟩, hq⟩ := J
  have e1 : oc = o := Option.some.inj (hoc.symm.trans ho)
  have e2 : op = tableObj ps := Option.some.inj (hop.symm.trans htP)
  subst e1 e2
  exact ⟨ps, ⟨oc, vs, file, tf, flags, tg, inF, text, tt, _, k _ _ ho (.inl hcc), hd, h11, h2, h7, h9, h10, k _ _ hop (.inr rfl), hpd, htr, hne⟩, ⟨⟨oc, vc, k _ _ hoc (.inl hcc), hcc, hdc, h11c⟩, k _ _ htP (.inr rfl)⟩, fun pos x e => by
    obtain ⟨cc, od, vs', os, t, a1, a2, a3⟩ := hq pos x e
    exact ⟨cc, od, vs', os, t, a1, k _ _ a2 (.inl rfl), a3⟩⟩
theorem JT.kp {q : Nat → Str} {c P : Addr} {h h' : Heap} (J : JT q c P h) (hs : Kp h h') : JT q c P h' := J.kd fun b o e _ => hs b o e
theorem JT.tab {q : Nat → Str} {c P : Addr} {h : Heap} (J : JT q c P h) : ∃ vs, h.get? P = some (tableObj vs) := by
  obtain ⟨ps, _, b, _⟩ := J
  exact ⟨ps, b.2⟩
theorem fcodeT {env : Env} {q : Nat → Str} {c P : Addr} {pos : Pos} {fl : Nat} {name qual : Str} {p : Arguments} {scope : Scope} {body : FuncBody} {Q : Value → Shared → Prop} (hc : env.code = .ref c) (J : JT q c P s.heap) (hq : qual = q pos.line)
    (k : ∀ x h' tk, Heap.ExtBut P s.heap h' → JT q c P h' → qn q h' pos x → Q x { s with heap := h', toks := tk }) : wpAny M A (functionCode env pos fl name qual p scope body) Q E s := by
  obtain ⟨ps, hok, htab, hq'⟩ := id J
  unfold functionCode
  refine codeAtJ hc hok htab (q := qual) (fun ctx Q' h => wpAny_newCodeX fun c' P' h' tk a1 a2 a3 a4 a5 a6 => h c' P' h' tk a1 ⟨a2, a3, a4, a5, a6⟩) (fun x hx => ?_) (fun hn c' P' h' tk hx hok' htab' hN => ?_)
  · exact k x s.heap s.toks (fun _ _ _ e => e) J (hq' _ _ hx)
  · obtain ⟨n1, n2, n3, n4, n5⟩ := hN
    have lP : P < s.heap.objs.size := Heap.lt_size htab.2
    have me : qn q h' pos (.ref c') := qn_of n4 (hq ▸ n5)
    refine k _ h' tk hx ⟨_, hok', htab', fun pos' x hx' => ?_⟩ me
    have hl : (ps ++ #[rawInt pos.line, rawInt pos.col, Value.ref c']).toList = ps.toList ++ [rawInt pos.line, rawInt pos.col, .ref c'] := by simp
    rw [hl] at hx'
    obtain ⟨_, _, _, _, _, _, _, _, _, _, _, _, _, _, _, _, _, _, _, htr, _⟩ := hok
    rcases among_snoc _ htr hx' with z | ⟨z, z1, z2⟩
    · obtain ⟨cc, od, vs, os, t, e1, e2, e3⟩ := hq' _ _ z
      refine ⟨cc, od, vs, os, t, e1, hx _ _ ?_ e2, e3⟩
      rintro rfl
      have := htab.2
      rw [e2] at this; cases this
    · subst z
      obtain ⟨cc, od, vs, os, t, e1, e2, e3⟩ := me
      exact ⟨cc, od, vs, os, t, e1, e2, by rw [z1]; exact e3⟩
theorem fcodeJ {env : Env} {q : Nat → Str} {c P : Addr} {pos : Pos} {fl : Nat} {name qual : Str} {p : Arguments} {scope : Scope} {body : FuncBody} {Q : Value → Shared → Prop} (hc : env.code = .ref c) (J : Jm N q c P s.heap) (hq : qual = q pos.line)
    (k : ∀ x h' tk, Heap.ExtBut P s.heap h' → Jm N q c P h' → qn q h' pos x → Q x { s with heap := h', toks := tk }) : wpAny M A (functionCode env pos fl name qual p scope body) Q E s := by
  obtain ⟨l1, l2, J⟩ := J
  exact fcodeT hc J hq fun x h' tk e J' m => k x h' tk e ⟨l1, l2, J'⟩ m
theorem Jm.b30 {q : Nat → Str} {c P : Addr} {h h' : Heap} {ps : Array Value} (J : Jm N q c P h) (hs : Heap.ExtBut 30 h h') (h30 : h.get? 30 = some { cls := .none, data := .fields ps }) : Jm N q c P h' := by
  obtain ⟨l1, l2, ps, hok, htab, hq⟩ := J
  have m1 : P ≠ 30 := Nat.ne_of_gt (Nat.lt_of_lt_of_le (by omega : 30 < 103 + N + 1) l1)
  have m2 : c ≠ 30 := Nat.ne_of_gt (Nat.lt_of_lt_of_le (by omega : 30 < 103 + N + 1) l2)
  refine ⟨l1, l2, ps, hok.extBut hs m2 m1, htab.extBut hs m2 m1, fun pos x e => ?_⟩
  obtain ⟨cc, od, vs, os, t, e1, e2, e3⟩ := hq pos x e
  refine ⟨cc, od, vs, os, t, e1, hs _ _ ?_ e2, e3⟩
  rintro rfl
  rw [h30] at e2; cases e2
noncomputable def tabC (cc : Addr) : Array Value := #[rawInt 23, rawInt 4, .ref cc]
noncomputable def Jc (N : Nat) (q : Nat → Str) (cc P : Addr) (h : Heap) : Prop := h.IsCode 34 30 (tabC cc) ∧ h.TableAt 34 30 (tabC cc) ∧ Jm N q cc P h
noncomputable def J34 (N : Nat) (q : Nat → Str) (h : Heap) : Prop := (∃ o, h.get? (103 + N) = some o) ∧ ((h.IsCode 34 30 #[] ∧ h.TableAt 34 30 #[]) ∨ ∃ cc P, Jc N q cc P h)
theorem ccodeJ {env : Env} {q : Nat → Str} {pos : Pos} {fl : Nat} {name qual : Str} {scope : Scope} {Q : Value → Shared → Prop} (hc : env.code = .ref 34) (J : J34 N q s.heap) (hl : pos.line = 23) (hcol : pos.col = 4)
    (k : ∀ cc P h' tk, Heap.ExtBut 30 s.heap h' → Jc N q cc P h' → Q (.ref cc) { s with heap := h', toks := tk }) : wpAny M A (classCode env pos fl name qual scope) Q E s := by
  obtain ⟨⟨_, hsz⟩, ⟨hok, htab⟩ | ⟨cc, P, hok, htab, hJ⟩⟩ := J
  all_goals replace hsz := Heap.lt_size hsz
  · unfold classCode
    refine codeAtJ hc hok htab (q := qual) (fun ctx Q' h => wpAny_newCodeX fun c' P' h' tk a1 a2 a3 a4 a5 a6 => h c' P' h' tk a1 ⟨a2, a3, a4, a5, a6⟩) (fun x hx => ?_) (fun hn c' P' h' tk hx hok' htab' hN => ?_)
    · cases hx
    · obtain ⟨n1, n2, n3, n4, n5⟩ := hN
      rw [hl, hcol] at hok' htab'
      exact k c' P' h' tk hx ⟨hok', htab', Nat.lt_of_lt_of_le hsz n2, Nat.lt_of_lt_of_le hsz n1, #[], n3, n4, fun _ _ e => by cases e⟩
  · unfold classCode
    refine codeAtJ hc hok htab (q := qual) (fun ctx Q' h => wpAny_newCodeX fun c' P' h' tk a1 a2 a3 a4 a5 a6 => h c' P' h' tk a1 ⟨a2, a3, a4, a5, a6⟩) (fun x hx => ?_) (fun hn c' P' h' tk hx hok' htab' hN => ?_)
    · have : codeAmong pos (tabC cc).toList = some (.ref cc) := by simp [tabC, codeAmong, rawInt, hl, hcol]
      rw [this] at hx
      cases hx
      exact k cc P s.heap s.toks (fun _ _ _ e => e) ⟨hok, htab, hJ⟩
    · exfalso
      have : codeAmong pos (tabC cc).toList = some (.ref cc) := by simp [tabC, codeAmong, rawInt, hl, hcol]
      rw [this] at hn
      cases hn
end

end Mine
namespace Mine
section
variable {M : Model} {A : Around} {E : Value → Shared → Prop} {s : Shared} {Q : Value → Shared → Prop}
theorem stopFC {env : Env} {pos : Pos} {fl : Nat} {name qual : Str} {p : Arguments} {scope : Scope} {body : FuncBody} (h : wpAny M A (functionCode env pos fl name qual p scope body) Q E s) : wpAny M A (functionCode env pos fl name qual p scope body) Q E s := h
theorem stopCC {env : Env} {pos : Pos} {fl : Nat} {name qual : Str} {scope : Scope} (h : wpAny M A (classCode env pos fl name qual scope) Q E s) : wpAny M A (classCode env pos fl name qual scope) Q E s := h
theorem stopGA {o : Value} {x : Str} {b : Bool} (h : wpAny M A (getAttr o x b) Q E s) : wpAny M A (getAttr o x b) Q E s := h
theorem stopEF {n : Nat} {Q : Unit → Shared → Prop} (h : wpAny M A (enterFrame n) Q E s) : wpAny M A (enterFrame n) Q E s := h
theorem noE {α : Type} {m : Sem α} {Q : α → Shared → Prop} (h : wpAny M A m Q NoE s) : wpAny M A m Q E s := wpAny_mono h (fun _ _ x => x) (fun _ _ x => x.elim)
theorem onK {α : Type} {m : Sem α} {k : Value → Sem Unit} {Q : α → Shared → Prop} (h : ∀ E' : Value → Shared → Prop, wpAny M A m Q E' s) : wpAny M A (m.onRaise k) Q E s := wpAny_onRaise (h _)
end

end Mine
namespace Mine
section
variable {M : Model} {A : Around} {E : Value → Shared → Prop} {s : Shared} {env : Env} {Q : Value → Shared → Prop} {x : Str} {pos : Pos} {v : Value}
@[irreducible] def GotV (Q : Value → Shared → Prop) (o : Option Value) (s : Shared) : Prop := ∃ v, o = some v ∧ Q v s
@[irreducible] def GotG (M : Model) (A : Around) (env : Env) (x : Str) (Q : Value → Shared → Prop) (E : Value → Shared → Prop) (o : Option Value) (s : Shared) : Prop := (∃ v, o = some v ∧ Q v s) ∨ (o = none ∧ wpAny M A (nsGet env.builtins x) (GotV Q) E s)
theorem gotI (h : Q v s) : GotV Q (some v) s := by unfold GotV; exact ⟨v, rfl, h⟩
theorem gotG1 (h : Q v s) : GotG M A env x Q E (some v) s := by unfold GotG; exact .inl ⟨v, rfl, h⟩
theorem gotG0 (h : wpAny M A (nsGet env.builtins x) (GotV Q) E s) : GotG M A env x Q E none s := by unfold GotG; exact .inr ⟨rfl, h⟩
noncomputable def nmB (x : Str) (env : Env) : Bool := !(x == ("__debug__" : Str)) && (env.scope.kind == .function)
noncomputable def nmL (x : Str) (env : Env) : Bool := nmB x env && (env.kindOf x == some .local)
noncomputable def nmG (x : Str) (env : Env) : Bool := nmB x env && (env.kindOf x == some .globalImplicit)
theorem evN (hb : nmB x env = true) (h : wpAny M A (match env.kindOf x with
  | some .local => (do match ← nsGet env.locals x with
    | some v => pure v
    | none =>
      rule "name.local.unbound"
      raiseError "UnboundLocalError" s!"cannot access local variable '{x.toString}' where it is not associated with a value")
  | some .globalImplicit => loadGlobal env x
  | _ => loadName env x) Q E s) : wpAny M A (eval (.Name x pos) env) Q E s := by
  unfold nmB at hb
  rw [Bool.and_eq_true, Bool.not_eq_true'] at hb
  obtain ⟨h1, h2⟩ := hb
  have h3 : env.scope.kind = .function := by simpa using h2
  show wpAny M A (do standAt pos; if (x == ("__debug__" : Str)) = true then debugConstant else loadName env x) Q E s
  refine wpAny_bind (wpAny_standAt ?_)
  rw [h1, if_neg Bool.false_ne_true]
  have hk : env.scope.kind.isAnnotationScope = false := by rw [h3]; rfl
  have hbk : env.blockKind = .function := by unfold Env.blockKind; rw [hk, if_neg Bool.false_ne_true, h3]
  cases e : env.kindOf x with
  | none => rw [e] at h; exact h
  | some k =>
    rw [e] at h
    cases k <;> first | exact h | (unfold loadName; simp only [hk, Bool.false_and, Bool.false_eq_true, if_false, hbk, e]; exact h) | skip
    all_goals trace_state
theorem evL (hc : nmL x env = true) (h : wpAny M A (nsGet env.locals x) (GotV Q) E s) : wpAny M A (eval (.Name x pos) env) Q E s := by
  unfold nmL at hc
  rw [Bool.and_eq_true] at hc
  have e : env.kindOf x = some .local := by simpa using hc.2
  refine evN hc.1 ?_
  rw [e]
  refine wpAny_bind (wpAny_mono h (fun o s' q => ?_) fun _ _ q => q)
  unfold GotV at q
  obtain ⟨v, rfl, q⟩ := q
  exact wpAny_pure q
theorem evG (hc : nmG x env = true) (h : wpAny M A (nsGet env.globals x) (GotG M A env x Q E) E s) : wpAny M A (eval (.Name x pos) env) Q E s := by
  unfold nmG at hc
  rw [Bool.and_eq_true] at hc
  have e : env.kindOf x = some .globalImplicit := by simpa using hc.2
  refine evN hc.1 ?_
  rw [e]
  unfold loadGlobal
  refine wpAny_bind (wpAny_mono h (fun o s' q => ?_) fun _ _ q => q)
  unfold GotG at q
  rcases q with ⟨v, rfl, q⟩ | ⟨rfl, q⟩
  · exact wpAny_pure q
  · refine wpAny_bind (wpAny_mono q (fun o s' q => ?_) fun _ _ q => q)
    unfold GotV at q
    obtain ⟨v, rfl, q⟩ := q
    exact wpAny_pure q
end

end Mine
namespace Mine
section
variable {M : Model} {A : Around} {E : Value → Shared → Prop} {s : Shared} {env : Env} {pos : Pos} {Q : List Value → Shared → Prop} {e : Expr} {rest : List Expr} {done : List Value} {v : Value}
noncomputable def isSt : Expr → Bool
  | .Starred _ _ => true
  | _ => false
@[irreducible] def SpK (M : Model) (A : Around) (E : Value → Shared → Prop) (env : Env) (pos : Pos) (Q : List Value → Shared → Prop) (rest : List Expr) (done : List Value) (v : Value) (s : Shared) : Prop := wpAny M A (spliced (backTo pos (starEach rest env))) (fun vs s => Q (done ++ v :: vs) s) E s
theorem star_cons (hs : isSt e = false) : starEach (e :: rest) env = (false, eval e env) :: starEach rest env := by
  cases e <;> first | rfl | (cases hs)
theorem spB (hs : isSt e = false) (h : wpAny M A (eval e env) (fun v s => wpAny M A (spliced (backTo pos (starEach rest env))) (fun vs s => Q (v :: vs) s) E s) E s) : wpAny M A (spliced (backTo pos (starEach (e :: rest) env))) Q E s := by
  rw [star_cons hs]
  show wpAny M A (do
    let v ← eval e env
    let here ← (if false = true then do
        if ← notIterableAtAll v then
          rule "star.not-iterable"; raiseError "TypeError" s!"Value after * must be an iterable, not {← typeNameOf v}"
        collect v
      else pure [v] : Sem (List Value))
    return here ++ (← holding here (spliced (backTo pos (starEach rest env))))) Q E s
  refine wpAny_bind (wpAny_mono h (fun v s' q => ?_) fun _ _ q => q)
  rw [if_neg Bool.false_ne_true]
  refine wpAny_bind (wpAny_pure ?_)
  refine wpAny_bind (wpAny_holding ?_)
  exact wpAny_mono q (fun vs s' q => wpAny_pure q) fun _ _ q => q
theorem spA (hs : isSt e = false) (h : wpAny M A (eval e env) (SpK M A E env pos Q rest []) E s) : wpAny M A (spliced (backTo pos (starEach (e :: rest) env))) Q E s := by
  unfold SpK at h
  exact spB hs h
theorem spN (hs : isSt e = false) (h : wpAny M A (eval e env) (SpK M A E env pos Q rest (done ++ [v])) E s) : SpK M A E env pos Q (e :: rest) done v s := by
  unfold SpK at h ⊢
  refine spB hs (wpAny_mono h (fun v' s' q => ?_) fun _ _ q => q)
  refine wpAny_mono q (fun vs s' q => ?_) fun _ _ q => q
  rw [List.append_assoc] at q
  exact q
theorem spE (h : Q (done ++ [v]) s) : SpK M A E env pos Q [] done v s := by
  unfold SpK
  exact wpAny_pure h

section
variable {fv : Value} {vs : List Value} {Q : Value → Shared → Prop} {args : List Expr} {x : Str} {p : Pos}
@[irreducible] def CaK (M : Model) (A : Around) (E : Value → Shared → Prop) (Q : Value → Shared → Prop) (fv : Value) (vs : List Value) (s : Shared) : Prop :=
  wpAny M A (do
    let r ← match ← keeperOf fv with
      | .frame => callMarked plainCall fv vs []
      | .boundFrame => callMarked callOfAMethodObject fv vs []
      | .machine => call fv vs []
      | _ => operate (fv :: vs) (call fv vs [])
    holding [r] point
    pure r) Q E s
@[irreducible] def CaF (M : Model) (A : Around) (E : Value → Shared → Prop) (env : Env) (pos : Pos) (Q : Value → Shared → Prop) (args : List Expr) (fv : Value) (s : Shared) : Prop := wpAny M A (spliced (backTo pos (starEach args env))) (CaK M A E Q fv) E s
theorem caF (h : wpAny M A (spliced (backTo pos (starEach args env))) (CaK M A E Q fv) E s) : CaF M A E env pos Q args fv s := by unfold CaF; exact h
theorem cmK' {m f : Value} {ps : List Value} {kw : List (Str × Value)} (h : wpAny M A (call f ps kw) Q E s) : wpAny M A (callMarked m f ps kw) Q E s := fun Γ p hΓ => by
  unfold callMarked
  rw [Sem.wp_keep]
  exact h Γ p hΓ
theorem caEnd (h : wpAny M A (call fv vs []) Q E s) : wpAny M A (do let r ← call fv vs []; holding [r] point; pure r) Q E s := by
  refine wpAny_bind (wpAny_mono h (fun r s' q => ?_) fun _ _ q => q)
  exact wpAny_bind (wpAny_holding (wpAny_point (wpAny_pure q)))
theorem caEndM {m : Value} (h : wpAny M A (call fv vs []) Q E s) : wpAny M A (do let r ← callMarked m fv vs []; holding [r] point; pure r) Q E s := by
  refine wpAny_bind (wpAny_mono (cmK' h) (fun r s' q => ?_) fun _ _ q => q)
  exact wpAny_bind (wpAny_holding (wpAny_point (wpAny_pure q)))
theorem caB {id : String} (h : wpAny M A (call (.builtin id) vs []) Q E s) : CaK M A E Q (.builtin id) vs s := by
  unfold CaK
  refine wpAny_bind (wpAny_pure ?_)
  exact caEnd h
theorem caT {id : String} (h : wpAny M A (call (.type id) vs []) Q E s) : CaK M A E Q (.type id) vs s := by
  unfold CaK
  refine wpAny_bind (wpAny_pure ?_)
  exact caEnd h
theorem caFn {a : Addr} {c : Value} {dd : Option Addr} {fd : FuncData} {sl : Array (Option Value)} (ha : s.heap.get? a = some ⟨c, dd, .func fd, sl⟩) (h : wpAny M A (call (.ref a) vs []) Q E s) : CaK M A E Q (.ref a) vs s := by
  unfold CaK
  refine wpAny_bind ?_
  unfold keeperOf
  refine wpAny_bind (wpAny_load ha (wpAny_pure ?_))
  refine caEndM ?_
  exact h
end
end
section
variable {M : Model} {A : Around} {E : Value → Shared → Prop} {s : Shared} {env : Env} {pos : Pos} {Q : Value → Shared → Prop} {args : List Expr} {x : Str} {p : Pos} {fv : Value}
noncomputable def clOk (args : List Expr) : Bool := args.all (fun e => !isSt e) && Nat.ble args.length 30
theorem backs : ∀ (args : List Expr), args.all (fun e => !isSt e) = true → (∀ q ∈ backTo pos (starEach args env), q.1 = false) ∧ (backTo pos (starEach args env)).length = args.length
  | [], _ => ⟨fun _ h => (nomatch h), rfl⟩
  | e :: rest, h => by
    rw [List.all_cons, Bool.and_eq_true] at h
    have he : isSt e = false := by simpa using h.1
    have ih := backs rest h.2
    rw [star_cons he]
    refine ⟨fun q hq => ?_, congrArg (· + 1) ih.2⟩
    rcases List.mem_cons.mp hq with rfl | hq
    · rfl
    · exact ih.1 q hq
theorem argsEnd {L : List (Bool × Sem Value)} {Q : Args → Shared → Prop} (hL : ∀ q ∈ L, q.1 = false) (h : wpAny M A (spliced L) (fun vs s => Q ⟨vs, []⟩ s) E s) : wpAny M A (evalArgs fv true L []) Q E s := by
  have go : ∀ (v : List Value) (s' : Shared), Q ⟨v, []⟩ s' → ∀ L', wpAny M A (evalArgs fv true L' []) Q E s → wpAny M A (evalArgs fv true L' []) Q E s := fun _ _ _ _ x => x
  clear go
  match L, hL, h with
  | [], _, h =>
    unfold evalArgs
    refine wpAny_bind (m := spliced []) (wpAny_mono h (fun vs s' q => ?_) fun _ _ q => q)
    exact wpAny_holding (wpAny_bind (wpAny_pure (wpAny_bind (wpAny_pure (wpAny_pure q)))))
  | [(false, y)], _, h =>
    unfold evalArgs
    refine wpAny_bind (m := spliced [(false, y)]) (wpAny_mono h (fun vs s' q => ?_) fun _ _ q => q)
    exact wpAny_holding (wpAny_bind (wpAny_pure (wpAny_bind (wpAny_pure (wpAny_pure q)))))
  | [(true, y)], hL, _ => exact absurd (hL _ (.head _)) (by simp)
  | (false, y) :: b :: t, _, h =>
    unfold evalArgs
    refine wpAny_bind (m := spliced ((false, y) :: b :: t)) (wpAny_mono h (fun vs s' q => ?_) fun _ _ q => q)
    exact wpAny_holding (wpAny_bind (wpAny_pure (wpAny_bind (wpAny_pure (wpAny_pure q)))))
  | (true, y) :: b :: t, hL, _ => exact absurd (hL _ (.head _)) (by simp)
theorem evCall (hc : clOk args = true) (h : wpAny M A (eval (.Name x p) env) (CaF M A E env pos Q args) E s) : wpAny M A (eval (.Call (.Name x p) args [] pos) env) Q E s := by
  unfold clOk at hc
  rw [Bool.and_eq_true] at hc
  obtain ⟨b1, b2⟩ := backs (pos := pos) (env := env) args hc.1
  have hl : args.length ≤ 30 := Nat.le_of_ble_eq_true hc.2
  show wpAny M A (do callWith pos (← eval (.Name x p) env) [] (backTo pos (starEach args env)) []) Q E s
  refine wpAny_bind (wpAny_mono h (fun fv s' q => ?_) fun _ _ q => q)
  unfold CaF at q
  unfold callWith
  refine wpAny_bind (wpAny_holding (argsEnd b1 (wpAny_mono q (fun vs s2 q => ?_) fun _ _ q => q)))
  unfold CaK at q
  refine wpAny_bind (wpAny_standAt ?_)
  have ha : (backTo pos (starEach args env)).any (·.1) = false := by
    rw [List.any_eq_false]; intro q hq; rw [b1 q hq]; exact Bool.false_ne_true
  have hn : ¬ ((backTo pos (starEach args env)).length + 2 * ([] : List (Option Str × Sem Value)).length > 30) := by
    rw [b2, List.length_nil]; omega
  rw [ha]
  refine cast (congrArg (fun f => wpAny M A (keeperOf fv >>= f) Q E s2) (funext fun k => ?_)) q
  cases k <;> first | rfl | exact (if_neg hn).symm | (dsimp only; simp; done)
noncomputable def isTy : Value → Bool
  | .type x => x == "type"
  | _ => false
noncomputable def keepOk (o : Obj) : Bool := match o.data with
  | .func _ => true
  | .cls _ => isTy o.cls
  | _ => false
theorem tlTC : typeLookup (.type "type") (Str.ofString "__call__") = pure (some (.builtin "type.__call__")) := by rw [typeLookup_type, builtinLookup_eq_fast]; kernel_rfl
theorem caR {a : Addr} {o : Obj} {vs : List Value} (ha : s.heap.get? a = some o) (hk : keepOk o = true) (h : wpAny M A (call (.ref a) vs []) Q E s) : CaK M A E Q (.ref a) vs s := by
  obtain ⟨c, dd, da, sl⟩ := o
  cases da with
  | func fd => exact caFn ha h
  | cls cd =>
    have hc : c = .type "type" := by
      unfold keepOk isTy at hk
      dsimp only at hk
      split at hk
      · rename_i y; rw [eq_of_beq hk]
      · cases hk
    subst hc
    unfold CaK
    refine wpAny_bind ?_
    unfold keeperOf
    refine wpAny_bind (wpAny_load ha ?_)
    refine wpAny_bind (wpAny_specialOf (T := "type") ⟨_, ha, rfl⟩ tlTC ?_)
    refine wpAny_pure ?_
    exact caEnd h
  | _ => cases hk
end

end Mine
namespace Mine
noncomputable def ckbody : List Stmt := match PySem.Challenge.pw_ij0005_01.main.body[(4 : Nat)]? with | some (.FunctionDef _ _ b _ _ _ _ _ _ _) => b | _ => []
noncomputable def ckC : Stmt := match ckbody with | c :: _ => c | _ => .Return none ⟨0, 0, 0, 0⟩
noncomputable def ksc : Scope := match ckC with | .ClassDef _ _ _ _ _ _ s _ _ _ _ => s | _ => default
noncomputable def fsc : Scope := match PySem.Challenge.pw_ij0005_01.main.body[(4 : Nat)]? with | some (.FunctionDef _ _ _ _ _ _ s _ _ _) => s | _ => default
noncomputable def msc : Scope := match kcls[(3 : Nat)]? with | some (.FunctionDef _ _ _ _ _ _ s _ _ _) => s | _ => default
noncomputable def isc : Scope := match kcls[(2 : Nat)]? with | some (.FunctionDef _ _ _ _ _ _ s _ _ _) => s | _ => default
noncomputable def kargs (i : Nat) : Arguments := match kcls[i]? with | some (.FunctionDef _ a _ _ _ _ _ _ _ _) => a | _ => default
noncomputable def kbod (i : Nat) : List Stmt := match kcls[i]? with | some (.FunctionDef _ _ b _ _ _ _ _ _ _) => b | _ => default
noncomputable def ckargs : Arguments := match PySem.Challenge.pw_ij0005_01.main.body[(4 : Nat)]? with | some (.FunctionDef _ a _ _ _ _ _ _ _ _) => a | _ => default
noncomputable def ckfd (pm cd : Value) : FuncData := { name := Str.ofString "cmp_to_key", qualname := Str.ofString "cmp_to_key", params := ckargs, body := .stmts ckbody, scope := fsc, globals := mainGlobals, closure := [], defaults := .none, kwdefaults := .none, doc := .none, pyModule := pm, annotations := none, code := cd, closureTuple := .none, builtins := builtinsNs }
theorem fobj4 (pm cd : Value) : fobj 4 pm cd = ⟨.type "function", none, .func (ckfd pm cd), #[]⟩ := by kernel_rfl
noncomputable def kpos (i : Nat) : Pos := match kcls[i]? with | some (.FunctionDef _ _ _ _ _ _ _ _ _ p) => p | _ => ⟨0, 0, 0, 0⟩
noncomputable def kst (i : Nat) : Stmt := match kcls[i]? with | some s => s | _ => .Return none ⟨0, 0, 0, 0⟩
noncomputable def kdef (i : Nat) (n : String) (sc : Scope) (p : Pos) : Stmt := .FunctionDef (Str.ofString n) (kargs i) (kbod i) [] none [] sc none (Str.ofString n) p
theorem kcls_eq : kcls = [kst 0, kst 1, kdef 2 "__init__" isc (kpos 2), kdef 3 "__lt__" msc (kpos 3), kdef 4 "__gt__" msc (kpos 4), kdef 5 "__eq__" msc (kpos 5), kdef 6 "__le__" msc (kpos 6), kdef 7 "__ge__" msc (kpos 7), kst 8] := by kernel_rfl
noncomputable def qK (l : Nat) : Str := if l = 27 then Str.ofString "cmp_to_key.<locals>.K.__init__" else if l = 30 then Str.ofString "cmp_to_key.<locals>.K.__lt__" else if l = 33 then Str.ofString "cmp_to_key.<locals>.K.__gt__" else if l = 36 then Str.ofString "cmp_to_key.<locals>.K.__eq__" else if l = 39 then Str.ofString "cmp_to_key.<locals>.K.__le__" else Str.ofString "cmp_to_key.<locals>.K.__ge__"
noncomputable def code34 : Obj := ⟨(.type "code"), none, (.fields #[(.str (Str.ofString "cmp_to_key") 213), (.str (Str.ofString "cmp_to_key") 214), (.str (Str.ofString "/claim/cut.py") 215), (.int (21) 0), (.int (1) 0), (.int (0) 0), (.int (0) 0), (.int (3) 0), (.ref 29), (.bool true), (.int (181) 0), (.ref 30), .none, (.ref 31), (.ref 32), (.ref 33), (.int (219) 0), (.int (21) 0), (.str (Str.ofString "/claim/cut.py") 220)]), #[]⟩
theorem k34 {P : Params} {h : Heap} (x : (KX P).In h) : h.get? 34 = some code34 := x 34 _ (by kernel_rfl)
theorem k35 {P : Params} {h : Heap} (x : (KX P).In h) : h.get? 35 = some ⟨.type "function", none, .func (ckfd (.str (Str.ofString "cpy313.functools") 211) (.ref 34)), #[]⟩ := x 35 _ (by kernel_rfl)
noncomputable def fenv (L cell : Addr) : Env := { scope := fsc, locals := L, globals := mainGlobals, cells := [(Str.ofString "mycmp", cell)], qual := Str.ofString "cmp_to_key.<locals>.", func := some 35, code := .ref 34, frame := some L, builtins := builtinsNs }
noncomputable def ob0 (P : Params) : Obj := ⟨(.type "dict"), none, (.dict #[en P "__name__" 1 (.str (Str.ofString "builtins") 160), en P "__doc__" 2 (.builtin "builtins.__doc__:str#opaque"), en P "__package__" 3 (.builtin "builtins.__package__:str#opaque"), en P "__loader__" 4 (.builtin "builtins.__loader__:shared#opaque"), en P "__spec__" 5 (.builtin "builtins.__spec__#opaque"), en P "__build_class__" 6 (.builtin "__build_class__"), en P "__import__" 7 (.builtin "__import__"), en P "abs" 8 (.builtin "abs"), en P "all" 9 (.builtin "all"), en P "any" 10 (.builtin "any"), en P "ascii" 11 (.builtin "ascii"), en P "bin" 12 (.builtin "bin"), en P "breakpoint" 13 (.builtin "breakpoint"), en P "callable" 14 (.builtin "callable"), en P "chr" 15 (.builtin "chr"), en P "compile" 16 (.builtin "compile"), en P "delattr" 17 (.builtin "delattr"), en P "dir" 18 (.builtin "dir"), en P "divmod" 19 (.builtin "divmod"), en P "eval" 20 (.builtin "eval"), en P "exec" 21 (.builtin "exec"), en P "format" 22 (.builtin "format"), en P "getattr" 23 (.builtin "getattr"), en P "globals" 24 (.builtin "globals"), en P "hasattr" 25 (.builtin "hasattr"), en P "hash" 26 (.builtin "hash"), en P "hex" 27 (.builtin "hex"), en P "id" 28 (.builtin "id"), en P "input" 29 (.builtin "input"), en P "isinstance" 30 (.builtin "isinstance"), en P "issubclass" 31 (.builtin "issubclass"), en P "iter" 32 (.builtin "iter"), en P "aiter" 33 (.builtin "aiter"), en P "len" 34 (.builtin "len"), en P "locals" 35 (.builtin "locals"), en P "max" 36 (.builtin "max"), en P "min" 37 (.builtin "min"), en P "next" 38 (.builtin "next"), en P "anext" 39 (.builtin "anext"), en P "oct" 40 (.builtin "oct"), en P "ord" 41 (.builtin "ord"), en P "pow" 42 (.builtin "pow"), en P "print" 43 (.builtin "print"), en P "repr" 44 (.builtin "repr"), en P "round" 45 (.builtin "round"), en P "setattr" 46 (.builtin "setattr"), en P "sorted" 47 (.builtin "sorted"), en P "sum" 48 (.builtin "sum"), en P "vars" 49 (.builtin "vars"), en P "None" 50 .none, en P "Ellipsis" 51 .ellipsis, en P "NotImplemented" 52 .notImplemented, en P "False" 53 (.bool false), en P "True" 54 (.bool true), en P "bool" 55 (.type "bool"), en P "memoryview" 56 (.type "memoryview"), en P "bytearray" 57 (.type "bytearray"), en P "bytes" 58 (.type "bytes"), en P "classmethod" 59 (.type "classmethod"), en P "complex" 60 (.type "complex"), en P "dict" 61 (.type "dict"), en P "enumerate" 62 (.type "enumerate"), en P "filter" 63 (.type "filter"), en P "float" 64 (.type "float"), en P "frozenset" 65 (.type "frozenset"), en P "property" 66 (.type "property"), en P "int" 67 (.type "int"), en P "list" 68 (.type "list"), en P "map" 69 (.type "map"), en P "object" 70 (.type "object"), en P "range" 71 (.type "range"), en P "reversed" 72 (.type "reversed"), en P "set" 73 (.type "set"), en P "slice" 74 (.type "slice"), en P "staticmethod" 75 (.type "staticmethod"), en P "str" 76 (.type "str"), en P "super" 77 (.type "super"), en P "tuple" 78 (.type "tuple"), en P "type" 79 (.type "type"), en P "zip" 80 (.type "zip"), en P "__debug__" 81 (.bool true), en P "BaseException" 82 (.type "BaseException"), en P "BaseExceptionGroup" 83 (.type "BaseExceptionGroup"), en P "Exception" 84 (.type "Exception"), en P "GeneratorExit" 85 (.type "GeneratorExit"), en P "KeyboardInterrupt" 86 (.type "KeyboardInterrupt"), en P "SystemExit" 87 (.type "SystemExit"), en P "ArithmeticError" 88 (.type "ArithmeticError"), en P "AssertionError" 89 (.type "AssertionError"), en P "AttributeError" 90 (.type "AttributeError"), en P "BufferError" 91 (.type "BufferError"), en P "EOFError" 92 (.type "EOFError"), en P "ImportError" 93 (.type "ImportError"), en P "LookupError" 94 (.type "LookupError"), en P "MemoryError" 95 (.type "MemoryError"), en P "NameError" 96 (.type "NameError"), en P "OSError" 97 (.type "OSError"), en P "ReferenceError" 98 (.type "ReferenceError"), en P "RuntimeError" 99 (.type "RuntimeError"), en P "StopAsyncIteration" 100 (.type "StopAsyncIteration"), en P "StopIteration" 101 (.type "StopIteration"), en P "SyntaxError" 102 (.type "SyntaxError"), en P "SystemError" 103 (.type "SystemError"), en P "TypeError" 104 (.type "TypeError"), en P "ValueError" 105 (.type "ValueError"), en P "Warning" 106 (.type "Warning"), en P "FloatingPointError" 107 (.type "FloatingPointError"), en P "OverflowError" 108 (.type "OverflowError"), en P "ZeroDivisionError" 109 (.type "ZeroDivisionError"), en P "BytesWarning" 110 (.type "BytesWarning"), en P "DeprecationWarning" 111 (.type "DeprecationWarning"), en P "EncodingWarning" 112 (.type "EncodingWarning"), en P "FutureWarning" 113 (.type "FutureWarning"), en P "ImportWarning" 114 (.type "ImportWarning"), en P "PendingDeprecationWarning" 115 (.type "PendingDeprecationWarning"), en P "ResourceWarning" 116 (.type "ResourceWarning"), en P "RuntimeWarning" 117 (.type "RuntimeWarning"), en P "SyntaxWarning" 118 (.type "SyntaxWarning"), en P "UnicodeWarning" 119 (.type "UnicodeWarning"), en P "UserWarning" 120 (.type "UserWarning"), en P "BlockingIOError" 121 (.type "BlockingIOError"), en P "ChildProcessError" 122 (.type "ChildProcessError"), en P "ConnectionError" 123 (.type "ConnectionError"), en P "FileExistsError" 124 (.type "FileExistsError"), en P "FileNotFoundError" 125 (.type "FileNotFoundError"), en P "InterruptedError" 126 (.type "InterruptedError"), en P "IsADirectoryError" 127 (.type "IsADirectoryError"), en P "NotADirectoryError" 128 (.type "NotADirectoryError"), en P "PermissionError" 129 (.type "PermissionError"), en P "ProcessLookupError" 130 (.type "ProcessLookupError"), en P "TimeoutError" 131 (.type "TimeoutError"), en P "IndentationError" 132 (.type "IndentationError"), en P "_IncompleteInputError" 133 (.type "_IncompleteInputError"), en P "IndexError" 134 (.type "IndexError"), en P "KeyError" 135 (.type "KeyError"), en P "ModuleNotFoundError" 136 (.type "ModuleNotFoundError"), en P "NotImplementedError" 137 (.type "NotImplementedError"), en P "PythonFinalizationError" 138 (.type "PythonFinalizationError"), en P "RecursionError" 139 (.type "RecursionError"), en P "UnboundLocalError" 140 (.type "UnboundLocalError"), en P "UnicodeError" 141 (.type "UnicodeError"), en P "BrokenPipeError" 142 (.type "BrokenPipeError"), en P "ConnectionAbortedError" 143 (.type "ConnectionAbortedError"), en P "ConnectionRefusedError" 144 (.type "ConnectionRefusedError"), en P "ConnectionResetError" 145 (.type "ConnectionResetError"), en P "TabError" 146 (.type "TabError"), en P "UnicodeDecodeError" 147 (.type "UnicodeDecodeError"), en P "UnicodeEncodeError" 148 (.type "UnicodeEncodeError"), en P "UnicodeTranslateError" 149 (.type "UnicodeTranslateError"), en P "ExceptionGroup" 150 (.type "ExceptionGroup"), en P "EnvironmentError" 151 (.type "OSError"), en P "IOError" 152 (.type "OSError"), en P "open" 153 (.builtin "open"), en P "quit" 154 (.builtin "builtins.quit#opaque"), en P "exit" 155 (.builtin "builtins.exit#opaque"), en P "copyright" 156 (.builtin "builtins.copyright#opaque"), en P "credits" 157 (.builtin "builtins.credits#opaque"), en P "license" 158 (.builtin "builtins.license#opaque"), en P "help" 159 (.builtin "builtins.help#opaque")] 159), #[]⟩
noncomputable def ob3 (P : Params) : Obj := ⟨(.type "dict"), none, (.dict #[en P "__name__" 165 (.str (Str.ofString "law_ij0005_01") 222), en P "__doc__" 166 .none, en P "__package__" 167 .none, en P "__loader__" 168 (.builtin "__main__.__loader__#opaque"), en P "__spec__" 169 .none, en P "__annotations__" 170 (.ref 6), en P "__builtins__" 171 (.ref 4), en P "__file__" 173 (.str (Str.ofString "/claim/cut.py") 172), en P "__cached__" 174 .none, en P "search_reverse" 201 (.ref 21), en P "get_line_col" 210 (.ref 28), en P "cmp_to_key" 221 (.ref 35), en P "_law_finds" 236 (.ref 42), en P "_law_places" 247 (.ref 49), en P "_law_read" 255 (.ref 56), en P "_law_order" 263 (.ref 63), en P "_law_contrary" 271 (.ref 70), en P "_law_five" 279 (.ref 77), en P "_law_hit" 291 (.ref 84), en P "_law_program" 299 (.ref 91), en P "_law_told" 306 (.ref 98), en P "law" 312 (.ref 103)] 22), #[]⟩
noncomputable def ob1 (P : Params) : Obj := ⟨(.type "dict"), none, (.dict #[en P "builtins" 162 (.ref 4), en P "__main__" 163 (.ref 5)] 2), #[]⟩
theorem k0 {P : Params} {h : Heap} (x : (KX P).In h) : h.get? builtinsNs = some (ob0 P) := x 0 _ (by kernel_rfl)
theorem k3 {P : Params} {h : Heap} (x : (KX P).In h) : h.get? mainGlobals = some (ob3 P) := x 3 _ (by kernel_rfl)
theorem k4 {P : Params} {h : Heap} (x : (KX P).In h) : h.get? 4 = some ⟨.type "module", some 0, .plain, #[]⟩ := x 4 _ (by kernel_rfl)
noncomputable def cenv (nsd cc fr cell : Addr) : Env := { scope := ksc, locals := nsd, globals := mainGlobals, cells := [(Str.ofString "mycmp", cell)], qual := Str.ofString "cmp_to_key.<locals>.K.", code := .ref cc, frame := some fr, builtins := builtinsNs }
theorem nolim {P : Params} {h : Heap} (x : (KX P).In h) : h.NoLimit := ⟨fun _ => none, ⟨_, _, _, kx2 x, rfl, by simp [StrKeys], fun _ => rfl⟩, rfl⟩
noncomputable def nsArr (P : Params) (tt : Nat → Tok) (sl : Addr) (f : Nat → Addr) : Array DictEntry := #[en P "__module__" (tt 0) (.str (Str.ofString "cpy313.functools") (tt 1)), en P "__qualname__" (tt 2) (.str (Str.ofString "cmp_to_key.<locals>.K") (tt 3)), en P "__firstlineno__" (tt 4) (.int 23 (tt 5)), en P "__slots__" (tt 6) (.ref sl),
    en P "__init__" (tt 7) (.ref (f 0)), en P "__lt__" (tt 8) (.ref (f 1)), en P "__gt__" (tt 9) (.ref (f 2)), en P "__eq__" (tt 10) (.ref (f 3)), en P "__le__" (tt 11) (.ref (f 4)), en P "__ge__" (tt 12) (.ref (f 5)), en P "__hash__" (tt 13) .none]
noncomputable def kfs (cell : Addr) (f cd ct : Nat → Addr) (od : Nat → Option Addr) (vs : Nat → Array Value) (os : Nat → Array (Option Value)) (sl : Addr) (t20 : Tok) : List (Addr × Obj) :=
  [(f 5, kfun 7 [(Str.ofString "mycmp", cell)] (.ref (cd 5)) (.ref (ct 5))), (cd 5, ⟨.type "code", od 5, .fields (vs 5), os 5⟩),
   (f 4, kfun 6 [(Str.ofString "mycmp", cell)] (.ref (cd 4)) (.ref (ct 4))), (cd 4, ⟨.type "code", od 4, .fields (vs 4), os 4⟩),
   (f 3, kfun 5 [(Str.ofString "mycmp", cell)] (.ref (cd 3)) (.ref (ct 3))), (cd 3, ⟨.type "code", od 3, .fields (vs 3), os 3⟩),
   (f 2, kfun 4 [(Str.ofString "mycmp", cell)] (.ref (cd 2)) (.ref (ct 2))), (cd 2, ⟨.type "code", od 2, .fields (vs 2), os 2⟩),
   (f 1, kfun 3 [(Str.ofString "mycmp", cell)] (.ref (cd 1)) (.ref (ct 1))), (cd 1, ⟨.type "code", od 1, .fields (vs 1), os 1⟩),
   (f 0, kfun 2 [] (.ref (cd 0)) .none), (cd 0, ⟨.type "code", od 0, .fields (vs 0), os 0⟩),
   (sl, ⟨.type "list", none, .seq #[.str (Str.ofString "obj") t20] 0, #[]⟩)]
theorem stopKD {M : Model} {A : Around} {E : Value → Shared → Prop} {s : Shared} {Q : Flow → Shared → Prop} {i : Nat} {n : String} {sc : Scope} {p : Pos} {env : Env} (h : wpAny M A (exec (kdef i n sc p) env) Q E s) : wpAny M A (exec (kdef i n sc p) env) Q E s := h

end Mine
namespace Mine
local macro_rules | `(tactic| x_close) => `(tactic| (apply_assumption <;> first | exact kp_mem (by assumption) | exact Kp.refl _ | exact Mem.at (by assumption) 0 _ _ (by kernel_rfl) | (refine (Mem.nw (by assumption) _ (.head _)).2)))
theorem prep1 (w : World) : ∀ (s : Shared) (hx : (KX w.params).In s.heap) (Q : Value → Shared → Prop) (E : Value → Shared → Prop) (t : Tok)
   (k : ∀ a h' tk, Kp s.heap h' → h'.get? a = some ⟨.type "builtin_function_or_method", none, .fields #[.builtin "type.__prepare__", .type "type"], #[]⟩ → Q (.ref a) { s with heap := h', toks := tk }),
   wpAny (model PySem.Challenge.rw_ij0005_01.row.toRowW.prog w) AX (PySem.call (.builtin "type.__getattribute__") [.type "type", .str (Str.ofString "__prepare__") t] []) Q E s := by
  k_fill
  intros
  x_run
theorem prep2 (w : World) : ∀ (s : Shared) (hx : (KX w.params).In s.heap) (Q : Value → Shared → Prop) (E : Value → Shared → Prop) (t : Tok) (a bt : Addr)
   (ha : s.heap.get? a = some ⟨.type "builtin_function_or_method", none, .fields #[.builtin "type.__prepare__", .type "type"], #[]⟩)
   (k : ∀ a h' tk, Kp s.heap h' → h'.get? a = some ⟨.type "dict", none, .dict #[] 0, #[]⟩ → s.heap.get? a = none → Q (.ref a) { s with heap := h', toks := tk }),
   wpAny (model PySem.Challenge.rw_ij0005_01.row.toRowW.prog w) AX (PySem.call (.ref a) [.str (Str.ofString "K") t, .ref bt] []) Q E s := by
  k_fill
  intros
  x_run

end Mine
namespace Mine
variable {N : Nat}
noncomputable def KL (N : Nat) (x : List Addr) (h h' : Heap) : Prop := ∀ b o, h.get? b = some o → b ∉ x → (hasCls o = true ∨ (b ≤ 103 + N ∧ b ≠ 30)) → h'.get? b = some o
theorem KL.zero {x : List Addr} {h h' : Heap} (k : KL N x h h') : KL 0 x h h' := fun b o e n c => k b o e n (c.imp id fun z => ⟨Nat.le_trans z.1 (by omega), z.2⟩)
theorem KL.of_kp {x : List Addr} {h h' : Heap} (k : Kp h h') : KL N x h h' := fun b o e _ _ => k b o e
theorem KL.trans {x : List Addr} {h h' h'' : Heap} (k : KL N x h h') (k' : KL N x h' h'') : KL N x h h'' := fun b o e n c => k' b o (k b o e n c) n c
theorem KL.mono {x y : List Addr} {h h' : Heap} (k : KL N x h h') (s : ∀ a, a ∈ x → a ∈ y) : KL N y h h' := fun b o e n c => k b o e (fun q => n (s b q)) c
theorem KL.of_but {a : Addr} {h h' : Heap} (k : Heap.ExtBut a h h') : KL N [a] h h' := fun b o e n _ => k b o (fun q => n (by simp [q])) e
theorem KL.of_tab {a : Addr} {h h' : Heap} {ps : Array Value} (k : Heap.ExtBut a h h') (ha : h.get? a = some { cls := .none, data := .fields ps }) (h3 : 103 + N < a ∨ a = 30) : KL N [] h h' := fun b o e _ c => by
  refine k b o ?_ e
  rintro rfl
  rw [ha] at e; cases e
  rcases c with c | ⟨c, c'⟩
  · cases c
  · rcases h3 with h3 | h3
    · exact absurd (Nat.lt_of_lt_of_le h3 c) (Nat.lt_irrefl _)
    · exact c' h3
theorem lookup_key {K : Frag} {a : Addr} {o : Obj} (e : K.lookup a = some o) : a ∈ K.map (·.1) := by
  induction K with
  | nil => cases e
  | cons p K ih =>
    obtain ⟨k, v⟩ := p
    rw [List.lookup_cons] at e
    split at e
    · rename_i q; simp only [beq_iff_eq] at q; subst q; exact .head _
    · exact .tail _ (ih e)
theorem kx_keys {P : Params} {a : Addr} {o : Obj} (e : (KX P).lookup a = some o) : a ≤ 103 ∧ a ≠ 30 := by
  have m := lookup_key e
  have q : ∀ x ∈ (KX P).map (·.1), x ≤ 103 ∧ x ≠ 30 := by
    have : (KX P).map (·.1) = [0, 1, 2, 3, 4, 5, 6, 20, 21, 27, 28, 34, 35, 41, 42, 48, 49, 55, 56, 62, 63, 69, 70, 76, 77, 83, 84, 90, 91, 97, 98, 102, 103] := rfl
    rw [this]; decide
  exact q a m
theorem kx_kl {P : Params} {x : List Addr} {h h' : Heap} (X : (KX P).In h) (k : KL N x h h') (hx : ∀ a ∈ x, ∀ o, (KX P).lookup a ≠ some o) : (KX P).In h' := fun a o e => by
  have q := kx_keys e
  exact k a o (X a o e) (fun m => hx a m o e) (.inr ⟨Nat.le_trans q.1 (by omega), q.2⟩)
theorem Jc.kl {q : Nat → Str} {cc T a : Addr} {h h' : Heap} (J : Jc N q cc T h) (hs : Heap.ExtBut a h h') (oa : Obj) (ha : h.get? a = some oa) (hd : ∀ vs, oa.data ≠ .fields vs) : Jc N q cc T h' := by
  obtain ⟨h1, h2, h3⟩ := J
  have n1 : (34 : Addr) ≠ a := by
    rintro rfl
    obtain ⟨o, vs, _, _, _, _, _, _, _, _, ho, hd', _⟩ := h1
    rw [ha] at ho; cases ho; exact hd _ hd'
  have n2 : (30 : Addr) ≠ a := by
    rintro rfl
    have := h2.2
    rw [ha] at this; cases this; exact hd _ rfl
  exact ⟨h1.extBut hs n1 n2, h2.extBut hs n1 n2, h3.but hs oa ha hd⟩
theorem Jc.kp {q : Nat → Str} {cc T : Addr} {h h' : Heap} (J : Jc N q cc T h) (k : Kp h h') : Jc N q cc T h' := ⟨J.1.keeps k, J.2.1.keeps k, J.2.2.kp k⟩
theorem k103 {P : Params} {h : Heap} (X : (KX P).In h) : h.get? 103 = some (fobj 15 (.str (Str.ofString "law_ij0005_01") 222) (.ref 102)) := X 103 _ (by kernel_rfl)
theorem J34.kp {P : Params} {q : Nat → Str} {h h' : Heap} (J : J34 N q h) (k : Kp h h') (X : (KX P).In h') : J34 N q h' := by
  obtain ⟨⟨o, y⟩, ⟨a, b⟩ | ⟨cc, T, z⟩⟩ := J
  · exact ⟨⟨o, k _ _ y⟩, .inl ⟨a.keeps k, b.keeps k⟩⟩
  · exact ⟨⟨o, k _ _ y⟩, .inr ⟨cc, T, z.kp k⟩⟩
structure CB (N : Nat) (P : Params) (h : Heap) (nsd cc T : Addr) (es : Array DictEntry) (n : Nat) (fs : List (Addr × Obj)) : Prop where
  X : (KX P).In h
  ns : h.get? nsd = some ⟨.type "dict", none, .dict es n, #[]⟩
  J : Jc N qK cc T h
  F : ∀ p ∈ fs, h.get? p.1 = some p.2 ∧ hasCls p.2 = true ∧ p.1 ≠ nsd
  big : ∀ o, (KX P).lookup nsd ≠ some o
section
variable {P : Params} {h h' : Heap} {nsd cc T : Addr} {es es' : Array DictEntry} {n n' : Nat} {fs : List (Addr × Obj)}
theorem CB.kp (C : CB N P h nsd cc T es n fs) (k : Kp h h') : CB N P h' nsd cc T es n fs := ⟨C.X.keeps k, k _ _ C.ns, C.J.kp k, fun p hp => ⟨k _ _ (C.F p hp).1, (C.F p hp).2⟩, C.big⟩
theorem CB.at (C : CB N P h nsd cc T es n fs) (i : Nat) (a : Addr) (o : Obj) (e : fs[i]? = some (a, o)) : h.get? a = some o := (C.F (a, o) (List.mem_of_getElem? e)).1
theorem CB.add (C : CB N P h nsd cc T es n fs) {a : Addr} {o : Obj} (ha : h.get? a = some o) (hc : hasCls o = true) (hne : ∀ es n, o.data ≠ .dict es n) : CB N P h nsd cc T es n ((a, o) :: fs) :=
  ⟨C.X, C.ns, C.J, fun p hp => by
    rcases List.mem_cons.mp hp with rfl | hp
    · refine ⟨ha, hc, ?_⟩
      rintro rfl
      have := C.ns
      rw [ha] at this; cases this; exact hne _ _ rfl
    · exact C.F p hp, C.big⟩
theorem CB.add' (C : CB N P h nsd cc T es n fs) {a : Addr} {o : Obj} (ha : h.get? a = some o) (hc : hasCls o = true) (hne : a ≠ nsd) : CB N P h nsd cc T es n ((a, o) :: fs) :=
  ⟨C.X, C.ns, C.J, fun p hp => by
    rcases List.mem_cons.mp hp with rfl | hp
    · exact ⟨ha, hc, hne⟩
    · exact C.F p hp, C.big⟩
theorem J34.tab {q : Nat → Str} (J : J34 N q h) : ∃ ps, h.get? 30 = some { cls := .none, data := .fields ps } := by
  obtain ⟨_, ⟨a, b⟩ | ⟨cc, T, z⟩⟩ := J
  · exact ⟨_, b.2⟩
  · exact ⟨_, z.2.1.2⟩
theorem nsSetCB {M : Model} {A : Around} {E : Value → Shared → Prop} {g : Array GenState} {d : Drawn} {t : Nat} {os : OsState} {x : Str} {v : Value} {es' : Nat → Array DictEntry} {Q : Unit → Shared → Prop} (C : CB N P h nsd cc T es n fs) (e : aRefKeyMayBeTheName x es = false)
    (e' : ∀ tk, Obj.putName x (PyData.keyHash M.w.params x) (.str x tk) v ⟨.type "dict", none, .dict es n, #[]⟩ = ⟨.type "dict", none, .dict (es' tk) n', #[]⟩)
    (k : ∀ h', CB N P h' nsd cc T (es' t) n' fs → KL N [nsd] h h' → Q () ⟨h', g, d, t + 1, os⟩) : wpAny M A (nsSet nsd x v) Q E ⟨h, g, d, t, os⟩ := by
  unfold nsSet strHash mkText
  refine wpAny_bind (wpAny_bind (wpAny_askSetting (wpAny_pure (wpAny_bind (wpAny_bind (wpAny_fresh (wpAny_pure (wpAny_bind (wpAny_loadPart C.ns ?_)))))))))
  dsimp only
  rw [e, if_neg Bool.false_ne_true]
  refine wpAny_updatePart C.ns ?_
  have hf := e' t
  unfold PyData.keyHash at hf
  have hget := Heap.get?_update_self (h := h) (Obj.putName x (PyData.keyHash M.w.params x) (.str x t) v) C.ns (by unfold PyData.keyHash; rw [hf]; rfl)
  unfold PyData.keyHash at hget
  rw [hf] at hget
  have eb := (Heap.SameBut.update (h := h) (a := nsd) (f := Obj.putName x (PyData.keyHash M.w.params x) (.str x t) v)).extBut
  unfold PyData.keyHash at eb
  refine k _ ⟨kx_kl (N := N) C.X (.of_but eb) (by intro a ha; simp at ha; subst ha; exact C.big), hget, C.J.kl eb _ C.ns (by intro vs; simp), fun p hp => ⟨eb _ _ (C.F p hp).2.2 (C.F p hp).1, (C.F p hp).2⟩, C.big⟩ (.of_but eb)
theorem fcodeCB {M : Model} {A : Around} {E : Value → Shared → Prop} {g : Array GenState} {d : Drawn} {t : Nat} {os : OsState} {env : Env} {pos : Pos} {fl : Nat} {name qual : Str} {p : Arguments} {scope : Scope} {body : FuncBody} {Q : Value → Shared → Prop} (C : CB N P h nsd cc T es n fs) (hc : env.code = .ref cc) (hq : qual = qK pos.line)
    (k : ∀ cd od vs os' tq h' tk, vs[1]? = some (.str (qK pos.line) tq) → CB N P h' nsd cc T es n ((cd, ⟨.type "code", od, .fields vs, os'⟩) :: fs) → KL N [] h h' → Q (.ref cd) ⟨h', g, d, tk, os⟩) : wpAny M A (functionCode env pos fl name qual p scope body) Q E ⟨h, g, d, t, os⟩ := by
  refine fcodeJ hc C.J.2.2 hq fun x h' tk hx hJ hq' => ?_
  obtain ⟨cd, od, vs, os', tq, rfl, e2, e3⟩ := hq'
  have hT := C.J.2.2
  obtain ⟨l1, l2, ps, hok, htab, _⟩ := hT
  have kl : KL N [] h h' := .of_tab hx htab.2 (.inl l1)
  have n1 : (34 : Addr) ≠ T := (Nat.ne_of_gt (Nat.lt_of_lt_of_le (by omega : 34 < 103 + N + 1) l1)).symm
  have n2 : (30 : Addr) ≠ T := (Nat.ne_of_gt (Nat.lt_of_lt_of_le (by omega : 30 < 103 + N + 1) l1)).symm
  refine k cd od vs os' tq h' tk e3 (CB.add ⟨kx_kl C.X kl (by simp), kl _ _ C.ns (by simp) (.inl rfl), ⟨C.J.1.extBut hx n1 n2, C.J.2.1.extBut hx n1 n2, hJ⟩, fun p hp => ⟨kl _ _ (C.F p hp).1 (by simp) (.inl (C.F p hp).2.1), (C.F p hp).2⟩, C.big⟩ e2 rfl (by intro es n; simp)) kl
theorem nsSetOld {M : Model} {A : Around} {E : Value → Shared → Prop} {g : Array GenState} {d : Drawn} {t : Nat} {os : OsState} {a : Addr} {x : Str} {v c : Value} {dd : Option Addr} {sl : Array (Option Value)} {o' : Nat → Obj} {Q : Unit → Shared → Prop}
    (ha : h.get? a = some ⟨c, dd, .dict es n, sl⟩) (e : aRefKeyMayBeTheName x es = false)
    (e' : ∀ tk, Obj.putName x (PyData.keyHash M.w.params x) (.str x tk) v ⟨c, dd, .dict es n, sl⟩ = o' tk) (hf : ∀ tk, (o' tk).isFreed = false)
    (k : ∀ h', Heap.ExtBut a h h' → h'.get? a = some (o' t) → Q () ⟨h', g, d, t + 1, os⟩) : wpAny M A (nsSet a x v) Q E ⟨h, g, d, t, os⟩ := by
  unfold nsSet strHash mkText
  refine wpAny_bind (wpAny_bind (wpAny_askSetting (wpAny_pure (wpAny_bind (wpAny_bind (wpAny_fresh (wpAny_pure (wpAny_bind (wpAny_loadPart ha ?_)))))))))
  dsimp only
  rw [e, if_neg Bool.false_ne_true]
  refine wpAny_updatePart ha ?_
  have hf' := e' t
  unfold PyData.keyHash at hf'
  have hget := Heap.get?_update_self (h := h) (Obj.putName x (PyData.keyHash M.w.params x) (.str x t) v) ha (by unfold PyData.keyHash; rw [hf']; exact hf t)
  unfold PyData.keyHash at hget
  rw [hf'] at hget
  have eb := (Heap.SameBut.update (h := h) (a := a) (f := Obj.putName x (PyData.keyHash M.w.params x) (.str x t) v)).extBut
  unfold PyData.keyHash at eb
  exact k _ eb hget
end
noncomputable def mdObj (C : Addr) (t4 : Tok) : Obj := ⟨.type "member_descriptor", none, .fields #[.str (Str.ofString "obj") t4, .ref C, .builtin "proto.slot", .builtin "proto.slot#set", .int 0 0], #[]⟩
noncomputable def IsK (P : Params) (h : Heap) (C : Addr) (fv : Value) : Prop := ∃ (N bt md cell sl st : Addr) (f cd ct : Nat → Addr) (od : Nat → Option Addr) (vs : Nat → Array Value) (os' : Nat → Array (Option Value)) (tq tm : Nat → Tok) (t1 t2 t4 t20 : Tok),
  h.get? C = some (kclsObj C N bt t1 t2) ∧ h.get? N = some (knsObj P sl (f 0) (f 1) (f 2) (f 3) (f 4) (f 5) st md tm) ∧ h.get? md = some (mdObj C t4) ∧ h.get? cell = some ⟨.type "cell", none, .cell (some fv), #[]⟩ ∧
  (∀ i, i < 6 → (vs i)[1]? = some (.str (qK (27 + 3 * i)) (tq i))) ∧ ∀ p ∈ kfs cell f cd ct od vs os' sl t20, h.get? p.1 = some p.2
theorem IsK.kl {P : Params} {h h' : Heap} {C : Addr} {fv : Value} (x : IsK P h C fv) (k : KL 0 [] h h') : IsK P h' C fv := by
  obtain ⟨N, bt, md, cell, sl, st, f, cd, ct, od, vs, os', tq, tm, t1, t2, t4, t20, a1, a2, a3, a4, a5, a6⟩ := x
  refine ⟨N, bt, md, cell, sl, st, f, cd, ct, od, vs, os', tq, tm, t1, t2, t4, t20, k _ _ a1 (by simp) (.inl rfl), k _ _ a2 (by simp) (.inl rfl), k _ _ a3 (by simp) (.inl rfl), k _ _ a4 (by simp) (.inl rfl), a5, fun p hp => k _ _ (a6 p hp) (by simp) (.inl ?_)⟩
  have : ∀ p ∈ kfs cell f cd ct od vs os' sl t20, hasCls p.2 = true := by
    intro p hp
    simp only [kfs, List.mem_cons, List.not_mem_nil, or_false] at hp
    rcases hp with rfl | rfl | rfl | rfl | rfl | rfl | rfl | rfl | rfl | rfl | rfl | rfl | rfl <;> rfl
  exact this p hp

end Mine
namespace Mine
set_option tactic.hygienic false
theorem tc (hh : A.handled = none) (hd : A.depth ≤ 800) (hu : A.units ≤ 7000) (h : Heap) (g : Array GenState) (d : Drawn) (t : Nat) (os : OsState) (t0 : Tok) (bt nsd sl st f1 f2 f3 f4 f5 f6 : Addr) (tt : Nat → Tok) (t20 t21 : Tok) (fd : Nat → FuncData)
  (hX : (KX w.params).In h)
  (hbt : h.get? bt = some ⟨.type "tuple", none, .seq #[.type "object"] 0, #[]⟩)
  (hns : h.get? nsd = some ⟨.type "dict", none, .dict #[en w.params "__module__" (tt 0) (.str (Str.ofString "cpy313.functools") (tt 1)), en w.params "__qualname__" (tt 2) (.str (Str.ofString "cmp_to_key.<locals>.K") (tt 3)), en w.params "__firstlineno__" (tt 4) (.int 23 (tt 5)), en w.params "__slots__" (tt 6) (.ref sl),
    en w.params "__init__" (tt 7) (.ref f1), en w.params "__lt__" (tt 8) (.ref f2), en w.params "__gt__" (tt 9) (.ref f3), en w.params "__eq__" (tt 10) (.ref f4), en w.params "__le__" (tt 11) (.ref f5), en w.params "__ge__" (tt 12) (.ref f6), en w.params "__hash__" (tt 13) .none, en w.params "__static_attributes__" (tt 14) (.ref st)] 12, #[]⟩)
  (hsl : h.get? sl = some ⟨.type "list", none, .seq #[.str (Str.ofString "obj") t20] 0, #[]⟩)
  (hst : h.get? st = some ⟨.type "tuple", none, .seq #[.str (Str.ofString "obj") t21] 0, #[]⟩)
  (hf1 : h.get? f1 = some ⟨.type "function", none, .func (fd 1), #[]⟩)
  (hf2 : h.get? f2 = some ⟨.type "function", none, .func (fd 2), #[]⟩)
  (hf3 : h.get? f3 = some ⟨.type "function", none, .func (fd 3), #[]⟩)
  (hf4 : h.get? f4 = some ⟨.type "function", none, .func (fd 4), #[]⟩)
  (hf5 : h.get? f5 = some ⟨.type "function", none, .func (fd 5), #[]⟩)
  (hf6 : h.get? f6 = some ⟨.type "function", none, .func (fd 6), #[]⟩)
  (hsm : (nsd == sysModules) = false)
  (kfin : ∀ (C N md : Addr) (h' : Heap) (tk : Nat) (tm : Nat → Tok) (t4 : Tok), Kp h h' → h'.get? C = some (kclsObj C N bt t0 (tt 3)) → h'.get? N = some (knsObj w.params sl f1 f2 f3 f4 f5 f6 st md tm) →
    h'.get? md = some ⟨.type "member_descriptor", none, .fields #[.str (Str.ofString "obj") t4, .ref C, .builtin "proto.slot", .builtin "proto.slot#set", .int 0 0], #[]⟩ → Q (.ref C) ⟨h', g, d, tk, os⟩)
  : wpAny (MM w) A (call (.type "type") [.str (Str.ofString "K") t0, .ref bt, .ref nsd]) Q E ⟨h, g, d, t, os⟩ := by
  refine wpAny_call (codeAny_of_tree ?_)
  show wpAny _ _ (callAny (.type "type") _) _ _ _
  refine wpAny_pure ⟨Code.quiet_builtin _ (by decide +kernel), codeAny_builtin F.entry_type_call ?_⟩
  rw [Around.under_plain (weight_type_call_type _ _ _) (units_type_call_type _ _ _)]
  refine (?_ : Ar _ _) (Mem.start h); intro Dm
  unfold Builtin.«type.__call__»
  repeat walk_at "#3;st3 mro_t made_t init_t;"
  change wpAny _ _ (call (.builtin "type.__new__") [.type "type", .str (Str.ofString "K") t0, .ref bt, .ref nsd]) _ _ _
  refine wpAny_call (codeAny_call_builtin (by decide +kernel) entry_tn (wpAny_of_eq (chk_n _ _ _) ?_))
  refine tn (A := A.in1.in1) hh hd (by show A.units + 1 + 1 ≤ 8000; omega) h g d t os t0 bt nsd sl st f1 f2 f3 f4 f5 f6 tt t20 t21 fd hX hbt hns hsl hst hf1 hf2 hf3 hf4 hf5 hf6 hsm ?_
  intro C N md h' tk tm t4 kp hC hN hmd
  refine (?_ : Ar _ _) (kfin C N md h' tk tm t4 kp hC hN hmd); intro hk
  clear Dm
  refine (?_ : Ar _ _) (Mem.start h'); intro Dm
  have hC' := hC
  unfold kclsObj at hC'
  try dsimp -zeta only
  repeat walk_at "#3;st3 mro_t made_t init_t;"
  refine wpAny_of_eq (slot_ti.bind _) ?_
  repeat walk_at "#3;st3 mro_t made_t init_t;"
  change wpAny _ _ (call (.builtin "type.__init__") [.ref C, .str (Str.ofString "K") t0, .ref bt, .ref nsd]) _ _ _
  refine wpAny_call_entry slot_ti ⟨_, hC, rfl⟩ entry_ti ?_ (args_ti _ _ _ _)
  unfold Builtin.«type.__init__»
  repeat walk_at "#3;st3 mro_t made_t init_t;"
  refine ⟨_, rfl, ?_⟩
  repeat walk_at "#3;st3 mro_t made_t init_t;"
  exact hk

end Mine
namespace Mine
variable {N : Nat}
set_option tactic.hygienic false
theorem fd3 (h : Heap) (g : Array GenState) (d : Drawn) (t : Nat) (os : OsState) {nsd cc T : Addr} {es : Array DictEntry} {n : Nat} {fs : List (Addr × Obj)} (fr cell : Addr) (C : CB N w.params h nsd cc T es n fs) {es' : Nat → Addr → Array DictEntry} {n' : Nat}
  (e1 : aRefKeyMayBeTheName (Str.ofString "__lt__") es = false)
  (e2 : ∀ tk f, Obj.putName (Str.ofString "__lt__") (PyData.keyHash w.params (Str.ofString "__lt__")) (.str (Str.ofString "__lt__") tk) (.ref f) ⟨.type "dict", none, .dict es n, #[]⟩ = ⟨.type "dict", none, .dict (es' tk f) n', #[]⟩)
  (kf : ∀ f cd ct od vs os' tq h' tk tkk, vs[1]? = some (.str (qK 30) tq) → CB N w.params h' nsd cc T (es' tkk f) n' ((f, kfun 3 [(Str.ofString "mycmp", cell)] (.ref cd) (.ref ct)) :: (cd, ⟨.type "code", od, .fields vs, os'⟩) :: fs) → KL N [nsd] h h' → Q .next ⟨h', g, d, tk, os⟩) :
  wpAny (MM w) A (exec (kdef 3 "__lt__" msc (kpos 3)) (cenv nsd cc fr cell)) Q E ⟨h, g, d, t, os⟩ := by
  unfold kdef
  refine noE ?_
  refine (?_ : Ar _ _) (Mem.start h); intro Dm
  repeat walk_at "#3;;Set Get FC"
  refine allocB ((?_ : Aa _ _ _ _ _ _ _ _) _ _ (Mem.alloc Dm rfl))
  clear Dm; intro ct hct Dm
  repeat walk_at "#3;;Set Get FC"
  refine (?_ : Ar _ _) (C.kp (kp_mem Dm)); intro C1
  refine fcodeCB C1 rfl (by kernel_rfl!) ?_
  intro cd od vs os' tq h1 tk1 hvs C2 kl1
  refine (?_ : Ar _ _) ((KL.of_kp (x := []) (kp_mem Dm)).trans kl1); intro kl2
  refine (?_ : Ar _ _) (k0 C2.X); intro h0
  refine (?_ : Ar _ _) (k3 C2.X); intro h3
  refine (?_ : Ar _ _) (k4 C2.X); intro h4
  clear Dm
  refine (?_ : Ar _ _) (Mem.start h1); intro Dm
  try dsimp -zeta only at *
  repeat walk_at "#3;;Set Get FC"
  refine nsGetO (r := some (.ref 4)) Dm h3 (by kernel_rfl!) ?_
  repeat walk_at "#3;;Set Get FC"
  refine nsGetO (r := some (.str (Str.ofString "law_ij0005_01") 222)) Dm h3 (by kernel_rfl!) ?_
  repeat walk_at "#3;;Set Get FC"
  refine allocB ((?_ : Aa _ _ _ _ _ _ (kfun 3 [(Str.ofString "mycmp", cell)] (.ref cd) (.ref ct)) _) _ _ (Mem.alloc Dm rfl))
  clear Dm; intro f hf Dm
  refine (?_ : Ar _ _) (C2.ns); intro hns2
  have C3 := (C2.kp (kp_mem Dm)).add (Mem.at Dm 0 _ _ rfl) rfl (by intro es n e; cases e)
  refine (?_ : Ar _ _) (kl2.trans (KL.of_kp (kp_mem Dm))); intro kl3
  repeat walk_at "#3;;Set Get FC"
  refine nsSetCB C3 e1 (fun tk => e2 tk f) ?_
  intro h4 C4 kl4
  repeat walk_at "#3;;Set Get FC"
  exact kf f cd ct od vs os' tq h4 _ _ hvs C4 ((kl3.mono (by simp)).trans kl4)
theorem fd4 (h : Heap) (g : Array GenState) (d : Drawn) (t : Nat) (os : OsState) {nsd cc T : Addr} {es : Array DictEntry} {n : Nat} {fs : List (Addr × Obj)} (fr cell : Addr) (C : CB N w.params h nsd cc T es n fs) {es' : Nat → Addr → Array DictEntry} {n' : Nat}
  (e1 : aRefKeyMayBeTheName (Str.ofString "__gt__") es = false)
  (e2 : ∀ tk f, Obj.putName (Str.ofString "__gt__") (PyData.keyHash w.params (Str.ofString "__gt__")) (.str (Str.ofString "__gt__") tk) (.ref f) ⟨.type "dict", none, .dict es n, #[]⟩ = ⟨.type "dict", none, .dict (es' tk f) n', #[]⟩)
  (kf : ∀ f cd ct od vs os' tq h' tk tkk, vs[1]? = some (.str (qK 33) tq) → CB N w.params h' nsd cc T (es' tkk f) n' ((f, kfun 4 [(Str.ofString "mycmp", cell)] (.ref cd) (.ref ct)) :: (cd, ⟨.type "code", od, .fields vs, os'⟩) :: fs) → KL N [nsd] h h' → Q .next ⟨h', g, d, tk, os⟩) :
  wpAny (MM w) A (exec (kdef 4 "__gt__" msc (kpos 4)) (cenv nsd cc fr cell)) Q E ⟨h, g, d, t, os⟩ := by
  unfold kdef
  refine noE ?_
  refine (?_ : Ar _ _) (Mem.start h); intro Dm
  repeat walk_at "#3;;Set Get FC"
  refine allocB ((?_ : Aa _ _ _ _ _ _ _ _) _ _ (Mem.alloc Dm rfl))
  clear Dm; intro ct hct Dm
  repeat walk_at "#3;;Set Get FC"
  refine (?_ : Ar _ _) (C.kp (kp_mem Dm)); intro C1
  refine fcodeCB C1 rfl (by kernel_rfl!) ?_
  intro cd od vs os' tq h1 tk1 hvs C2 kl1
  refine (?_ : Ar _ _) ((KL.of_kp (x := []) (kp_mem Dm)).trans kl1); intro kl2
  refine (?_ : Ar _ _) (k0 C2.X); intro h0
  refine (?_ : Ar _ _) (k3 C2.X); intro h3
  refine (?_ : Ar _ _) (k4 C2.X); intro h4
  clear Dm
  refine (?_ : Ar _ _) (Mem.start h1); intro Dm
  try dsimp -zeta only at *
  repeat walk_at "#3;;Set Get FC"
  refine nsGetO (r := some (.ref 4)) Dm h3 (by kernel_rfl!) ?_
  repeat walk_at "#3;;Set Get FC"
  refine nsGetO (r := some (.str (Str.ofString "law_ij0005_01") 222)) Dm h3 (by kernel_rfl!) ?_
  repeat walk_at "#3;;Set Get FC"
  refine allocB ((?_ : Aa _ _ _ _ _ _ (kfun 4 [(Str.ofString "mycmp", cell)] (.ref cd) (.ref ct)) _) _ _ (Mem.alloc Dm rfl))
  clear Dm; intro f hf Dm
  refine (?_ : Ar _ _) (C2.ns); intro hns2
  have C3 := (C2.kp (kp_mem Dm)).add (Mem.at Dm 0 _ _ rfl) rfl (by intro es n e; cases e)
  refine (?_ : Ar _ _) (kl2.trans (KL.of_kp (kp_mem Dm))); intro kl3
  repeat walk_at "#3;;Set Get FC"
  refine nsSetCB C3 e1 (fun tk => e2 tk f) ?_
  intro h4 C4 kl4
  repeat walk_at "#3;;Set Get FC"
  exact kf f cd ct od vs os' tq h4 _ _ hvs C4 ((kl3.mono (by simp)).trans kl4)
theorem fd5 (h : Heap) (g : Array GenState) (d : Drawn) (t : Nat) (os : OsState) {nsd cc T : Addr} {es : Array DictEntry} {n : Nat} {fs : List (Addr × Obj)} (fr cell : Addr) (C : CB N w.params h nsd cc T es n fs) {es' : Nat → Addr → Array DictEntry} {n' : Nat}
  (e1 : aRefKeyMayBeTheName (Str.ofString "__eq__") es = false)
  (e2 : ∀ tk f, Obj.putName (Str.ofString "__eq__") (PyData.keyHash w.params (Str.ofString "__eq__")) (.str (Str.ofString "__eq__") tk) (.ref f) ⟨.type "dict", none, .dict es n, #[]⟩ = ⟨.type "dict", none, .dict (es' tk f) n', #[]⟩)
  (kf : ∀ f cd ct od vs os' tq h' tk tkk, vs[1]? = some (.str (qK 36) tq) → CB N w.params h' nsd cc T (es' tkk f) n' ((f, kfun 5 [(Str.ofString "mycmp", cell)] (.ref cd) (.ref ct)) :: (cd, ⟨.type "code", od, .fields vs, os'⟩) :: fs) → KL N [nsd] h h' → Q .next ⟨h', g, d, tk, os⟩) :
  wpAny (MM w) A (exec (kdef 5 "__eq__" msc (kpos 5)) (cenv nsd cc fr cell)) Q E ⟨h, g, d, t, os⟩ := by
  unfold kdef
  refine noE ?_
  refine (?_ : Ar _ _) (Mem.start h); intro Dm
  repeat walk_at "#3;;Set Get FC"
  refine allocB ((?_ : Aa _ _ _ _ _ _ _ _) _ _ (Mem.alloc Dm rfl))
  clear Dm; intro ct hct Dm
  repeat walk_at "#3;;Set Get FC"
  refine (?_ : Ar _ _) (C.kp (kp_mem Dm)); intro C1
  refine fcodeCB C1 rfl (by kernel_rfl!) ?_
  intro cd od vs os' tq h1 tk1 hvs C2 kl1
  refine (?_ : Ar _ _) ((KL.of_kp (x := []) (kp_mem Dm)).trans kl1); intro kl2
  refine (?_ : Ar _ _) (k0 C2.X); intro h0
  refine (?_ : Ar _ _) (k3 C2.X); intro h3
  refine (?_ : Ar _ _) (k4 C2.X); intro h4
  clear Dm
  refine (?_ : Ar _ _) (Mem.start h1); intro Dm
  try dsimp -zeta only at *
  repeat walk_at "#3;;Set Get FC"
  refine nsGetO (r := some (.ref 4)) Dm h3 (by kernel_rfl!) ?_
  repeat walk_at "#3;;Set Get FC"
  refine nsGetO (r := some (.str (Str.ofString "law_ij0005_01") 222)) Dm h3 (by kernel_rfl!) ?_
  repeat walk_at "#3;;Set Get FC"
  refine allocB ((?_ : Aa _ _ _ _ _ _ (kfun 5 [(Str.ofString "mycmp", cell)] (.ref cd) (.ref ct)) _) _ _ (Mem.alloc Dm rfl))
  clear Dm; intro f hf Dm
  refine (?_ : Ar _ _) (C2.ns); intro hns2
  have C3 := (C2.kp (kp_mem Dm)).add (Mem.at Dm 0 _ _ rfl) rfl (by intro es n e; cases e)
  refine (?_ : Ar _ _) (kl2.trans (KL.of_kp (kp_mem Dm))); intro kl3
  repeat walk_at "#3;;Set Get FC"
  refine nsSetCB C3 e1 (fun tk => e2 tk f) ?_
  intro h4 C4 kl4
  repeat walk_at "#3;;Set Get FC"
  exact kf f cd ct od vs os' tq h4 _ _ hvs C4 ((kl3.mono (by simp)).trans kl4)
theorem fd6 (h : Heap) (g : Array GenState) (d : Drawn) (t : Nat) (os : OsState) {nsd cc T : Addr} {es : Array DictEntry} {n : Nat} {fs : List (Addr × Obj)} (fr cell : Addr) (C : CB N w.params h nsd cc T es n fs) {es' : Nat → Addr → Array DictEntry} {n' : Nat}
  (e1 : aRefKeyMayBeTheName (Str.ofString "__le__") es = false)
  (e2 : ∀ tk f, Obj.putName (Str.ofString "__le__") (PyData.keyHash w.params (Str.ofString "__le__")) (.str (Str.ofString "__le__") tk) (.ref f) ⟨.type "dict", none, .dict es n, #[]⟩ = ⟨.type "dict", none, .dict (es' tk f) n', #[]⟩)
  (kf : ∀ f cd ct od vs os' tq h' tk tkk, vs[1]? = some (.str (qK 39) tq) → CB N w.params h' nsd cc T (es' tkk f) n' ((f, kfun 6 [(Str.ofString "mycmp", cell)] (.ref cd) (.ref ct)) :: (cd, ⟨.type "code", od, .fields vs, os'⟩) :: fs) → KL N [nsd] h h' → Q .next ⟨h', g, d, tk, os⟩) :
  wpAny (MM w) A (exec (kdef 6 "__le__" msc (kpos 6)) (cenv nsd cc fr cell)) Q E ⟨h, g, d, t, os⟩ := by
  unfold kdef
  refine noE ?_
  refine (?_ : Ar _ _) (Mem.start h); intro Dm
  repeat walk_at "#3;;Set Get FC"
  refine allocB ((?_ : Aa _ _ _ _ _ _ _ _) _ _ (Mem.alloc Dm rfl))
  clear Dm; intro ct hct Dm
  repeat walk_at "#3;;Set Get FC"
  refine (?_ : Ar _ _) (C.kp (kp_mem Dm)); intro C1
  refine fcodeCB C1 rfl (by kernel_rfl!) ?_
  intro cd od vs os' tq h1 tk1 hvs C2 kl1
  refine (?_ : Ar _ _) ((KL.of_kp (x := []) (kp_mem Dm)).trans kl1); intro kl2
  refine (?_ : Ar _ _) (k0 C2.X); intro h0
  refine (?_ : Ar _ _) (k3 C2.X); intro h3
  refine (?_ : Ar _ _) (k4 C2.X); intro h4
  clear Dm
  refine (?_ : Ar _ _) (Mem.start h1); intro Dm
  try dsimp -zeta only at *
  repeat walk_at "#3;;Set Get FC"
  refine nsGetO (r := some (.ref 4)) Dm h3 (by kernel_rfl!) ?_
  repeat walk_at "#3;;Set Get FC"
  refine nsGetO (r := some (.str (Str.ofString "law_ij0005_01") 222)) Dm h3 (by kernel_rfl!) ?_
  repeat walk_at "#3;;Set Get FC"
  refine allocB ((?_ : Aa _ _ _ _ _ _ (kfun 6 [(Str.ofString "mycmp", cell)] (.ref cd) (.ref ct)) _) _ _ (Mem.alloc Dm rfl))
  clear Dm; intro f hf Dm
  refine (?_ : Ar _ _) (C2.ns); intro hns2
  have C3 := (C2.kp (kp_mem Dm)).add (Mem.at Dm 0 _ _ rfl) rfl (by intro es n e; cases e)
  refine (?_ : Ar _ _) (kl2.trans (KL.of_kp (kp_mem Dm))); intro kl3
  repeat walk_at "#3;;Set Get FC"
  refine nsSetCB C3 e1 (fun tk => e2 tk f) ?_
  intro h4 C4 kl4
  repeat walk_at "#3;;Set Get FC"
  exact kf f cd ct od vs os' tq h4 _ _ hvs C4 ((kl3.mono (by simp)).trans kl4)
theorem fd7 (h : Heap) (g : Array GenState) (d : Drawn) (t : Nat) (os : OsState) {nsd cc T : Addr} {es : Array DictEntry} {n : Nat} {fs : List (Addr × Obj)} (fr cell : Addr) (C : CB N w.params h nsd cc T es n fs) {es' : Nat → Addr → Array DictEntry} {n' : Nat}
  (e1 : aRefKeyMayBeTheName (Str.ofString "__ge__") es = false)
  (e2 : ∀ tk f, Obj.putName (Str.ofString "__ge__") (PyData.keyHash w.params (Str.ofString "__ge__")) (.str (Str.ofString "__ge__") tk) (.ref f) ⟨.type "dict", none, .dict es n, #[]⟩ = ⟨.type "dict", none, .dict (es' tk f) n', #[]⟩)
  (kf : ∀ f cd ct od vs os' tq h' tk tkk, vs[1]? = some (.str (qK 42) tq) → CB N w.params h' nsd cc T (es' tkk f) n' ((f, kfun 7 [(Str.ofString "mycmp", cell)] (.ref cd) (.ref ct)) :: (cd, ⟨.type "code", od, .fields vs, os'⟩) :: fs) → KL N [nsd] h h' → Q .next ⟨h', g, d, tk, os⟩) :
  wpAny (MM w) A (exec (kdef 7 "__ge__" msc (kpos 7)) (cenv nsd cc fr cell)) Q E ⟨h, g, d, t, os⟩ := by
  unfold kdef
  refine noE ?_
  refine (?_ : Ar _ _) (Mem.start h); intro Dm
  repeat walk_at "#3;;Set Get FC"
  refine allocB ((?_ : Aa _ _ _ _ _ _ _ _) _ _ (Mem.alloc Dm rfl))
  clear Dm; intro ct hct Dm
  repeat walk_at "#3;;Set Get FC"
  refine (?_ : Ar _ _) (C.kp (kp_mem Dm)); intro C1
  refine fcodeCB C1 rfl (by kernel_rfl!) ?_
  intro cd od vs os' tq h1 tk1 hvs C2 kl1
  refine (?_ : Ar _ _) ((KL.of_kp (x := []) (kp_mem Dm)).trans kl1); intro kl2
  refine (?_ : Ar _ _) (k0 C2.X); intro h0
  refine (?_ : Ar _ _) (k3 C2.X); intro h3
  refine (?_ : Ar _ _) (k4 C2.X); intro h4
  clear Dm
  refine (?_ : Ar _ _) (Mem.start h1); intro Dm
  try dsimp -zeta only at *
  repeat walk_at "#3;;Set Get FC"
  refine nsGetO (r := some (.ref 4)) Dm h3 (by kernel_rfl!) ?_
  repeat walk_at "#3;;Set Get FC"
  refine nsGetO (r := some (.str (Str.ofString "law_ij0005_01") 222)) Dm h3 (by kernel_rfl!) ?_
  repeat walk_at "#3;;Set Get FC"
  refine allocB ((?_ : Aa _ _ _ _ _ _ (kfun 7 [(Str.ofString "mycmp", cell)] (.ref cd) (.ref ct)) _) _ _ (Mem.alloc Dm rfl))
  clear Dm; intro f hf Dm
  refine (?_ : Ar _ _) (C2.ns); intro hns2
  have C3 := (C2.kp (kp_mem Dm)).add (Mem.at Dm 0 _ _ rfl) rfl (by intro es n e; cases e)
  refine (?_ : Ar _ _) (kl2.trans (KL.of_kp (kp_mem Dm))); intro kl3
  repeat walk_at "#3;;Set Get FC"
  refine nsSetCB C3 e1 (fun tk => e2 tk f) ?_
  intro h4 C4 kl4
  repeat walk_at "#3;;Set Get FC"
  exact kf f cd ct od vs os' tq h4 _ _ hvs C4 ((kl3.mono (by simp)).trans kl4)
theorem fd2 (h : Heap) (g : Array GenState) (d : Drawn) (t : Nat) (os : OsState) {nsd cc T : Addr} {es : Array DictEntry} {n : Nat} {fs : List (Addr × Obj)} (fr cell : Addr) (C : CB N w.params h nsd cc T es n fs) {es' : Nat → Addr → Array DictEntry} {n' : Nat}
  (e1 : aRefKeyMayBeTheName (Str.ofString "__init__") es = false)
  (e2 : ∀ tk f, Obj.putName (Str.ofString "__init__") (PyData.keyHash w.params (Str.ofString "__init__")) (.str (Str.ofString "__init__") tk) (.ref f) ⟨.type "dict", none, .dict es n, #[]⟩ = ⟨.type "dict", none, .dict (es' tk f) n', #[]⟩)
  (kf : ∀ f cd od vs os' tq h' tk tkk, vs[1]? = some (.str (qK 27) tq) → CB N w.params h' nsd cc T (es' tkk f) n' ((f, kfun 2 [] (.ref cd) .none) :: (cd, ⟨.type "code", od, .fields vs, os'⟩) :: fs) → KL N [nsd] h h' → Q .next ⟨h', g, d, tk, os⟩) :
  wpAny (MM w) A (exec (kdef 2 "__init__" isc (kpos 2)) (cenv nsd cc fr cell)) Q E ⟨h, g, d, t, os⟩ := by
  unfold kdef
  refine noE ?_
  refine (?_ : Ar _ _) (Mem.start h); intro Dm
  repeat walk_at "#3;;Set Get FC"
  refine (?_ : Ar _ _) (C.kp (kp_mem Dm)); intro C1
  refine fcodeCB C1 rfl (by kernel_rfl!) ?_
  intro cd od vs os' tq h1 tk1 hvs C2 kl1
  refine (?_ : Ar _ _) ((KL.of_kp (x := []) (kp_mem Dm)).trans kl1); intro kl2
  refine (?_ : Ar _ _) (k0 C2.X); intro h0
  refine (?_ : Ar _ _) (k3 C2.X); intro h3
  refine (?_ : Ar _ _) (k4 C2.X); intro h4
  clear Dm
  refine (?_ : Ar _ _) (Mem.start h1); intro Dm
  try dsimp -zeta only at *
  repeat walk_at "#3;;Set Get FC"
  refine nsGetO (r := some (.ref 4)) Dm h3 (by kernel_rfl!) ?_
  repeat walk_at "#3;;Set Get FC"
  refine nsGetO (r := some (.str (Str.ofString "law_ij0005_01") 222)) Dm h3 (by kernel_rfl!) ?_
  repeat walk_at "#3;;Set Get FC"
  refine allocB ((?_ : Aa _ _ _ _ _ _ (kfun 2 [] (.ref cd) .none) _) _ _ (Mem.alloc Dm rfl))
  clear Dm; intro f hf Dm
  refine (?_ : Ar _ _) (C2.ns); intro hns2
  have C3 := (C2.kp (kp_mem Dm)).add (Mem.at Dm 0 _ _ rfl) rfl (by intro es n e; cases e)
  refine (?_ : Ar _ _) (kl2.trans (KL.of_kp (kp_mem Dm))); intro kl3
  repeat walk_at "#3;;Set Get FC"
  refine nsSetCB C3 e1 (fun tk => e2 tk f) ?_
  intro h4 C4 kl4
  repeat walk_at "#3;;Set Get FC"
  exact kf f cd od vs os' tq h4 _ _ hvs C4 ((kl3.mono (by simp)).trans kl4)

end Mine
namespace Mine
variable {N : Nat}
set_option tactic.hygienic false
theorem kbody (h : Heap) (g : Array GenState) (d : Drawn) (t : Nat) (os : OsState) {nsd cc T : Addr} {fs : List (Addr × Obj)} (fr cell : Addr) (u0 u1 u2 u3 u4 : Tok)
  (C : CB N w.params h nsd cc T #[en w.params "__module__" u0 (.str (Str.ofString "law_ij0005_01") 222), en w.params "__qualname__" u1 (.str (Str.ofString "cmp_to_key.<locals>.K") u2), en w.params "__firstlineno__" u3 (.int 23 u4)] 3 fs)
  (kf : ∀ (f cd ct : Nat → Addr) od vs os' (tq tt : Nat → Tok) sl t20 h' tk, (∀ i, i < 6 → (vs i)[1]? = some (.str (qK (27 + 3 * i)) (tq i))) → CB N w.params h' nsd cc T (nsArr w.params tt sl f) 11 (kfs cell f cd ct od vs os' sl t20 ++ fs) → KL N [nsd] h h' → Q .next ⟨h', g, d, tk, os⟩) :
  wpAny (MM w) A (run (.body kcls (cenv nsd cc fr cell))) Q E ⟨h, g, d, t, os⟩ := by
  refine noE ?_
  refine wpAny_run (codeAny_body (by kernel_rfl!) (by kernel_rfl!) ?_)
  refine noE ?_
  rw [kcls_eq]
  refine (?_ : Ar _ _) (Mem.start h); intro Dm
  refine (?_ : Ar _ _) (C.ns); intro hns
  repeat walk_at "#3;;Set KD"
  refine nsSetCB (nsd := nsd) (es' := fun _ => #[en w.params "__module__" u0 (.str (Str.ofString "cpy313.functools") t), en w.params "__qualname__" u1 (.str (Str.ofString "cmp_to_key.<locals>.K") u2), en w.params "__firstlineno__" u3 (.int 23 u4)]) (n' := 3) (C.kp (kp_mem Dm)) (by kernel_rfl!) (by intro tk; kernel_rfl!) ?_
  intro h1 C1 kl1
  refine (?_ : Ar _ _) ((KL.of_kp (kp_mem Dm)).trans kl1); intro kx1
  clear Dm hns
  refine (?_ : Ar _ _) (Mem.start h1); intro Dm
  refine (?_ : Ar _ _) (C1.ns); intro hns
  repeat walk_at "#3;;Set KD"
  refine allocB ((?_ : Aa _ _ _ _ _ _ (⟨.type "list", none, .seq #[.str (Str.ofString "obj") (t + 1 + 1)] 0, #[]⟩) _) _ _ (Mem.alloc Dm rfl))
  clear Dm; intro sl hsl Dm
  repeat walk_at "#3;;Set KD"
  refine nsSetCB (nsd := nsd) (es' := fun tk => #[en w.params "__module__" u0 (.str (Str.ofString "cpy313.functools") t), en w.params "__qualname__" u1 (.str (Str.ofString "cmp_to_key.<locals>.K") u2), en w.params "__firstlineno__" u3 (.int 23 u4), en w.params "__slots__" tk (.ref sl)]) (n' := 4) ((C1.kp (kp_mem Dm)).add (Mem.at Dm 0 _ _ rfl) rfl (by intro es n e; cases e)) (by kernel_rfl!) (by intro tk; kernel_rfl!) ?_
  intro h2 C2 kl2
  refine (?_ : Ar _ _) (kx1.trans ((KL.of_kp (kp_mem Dm)).trans kl2)); intro kx2
  clear Dm hns
  refine (?_ : Ar _ _) (Mem.start h2); intro Dm
  refine (?_ : Ar _ _) (C2.ns); intro hns
  repeat walk_at "#3;;Set KD"
  refine fd2 _ _ _ _ _ fr cell C2 (es' := fun tk f => #[en w.params "__module__" u0 (.str (Str.ofString "cpy313.functools") t), en w.params "__qualname__" u1 (.str (Str.ofString "cmp_to_key.<locals>.K") u2), en w.params "__firstlineno__" u3 (.int 23 u4), en w.params "__slots__" (t + 1 + 1 + 1) (.ref sl), en w.params "__init__" tk (.ref f)]) (n' := 5) (by kernel_rfl!) (by intro tk f; kernel_rfl!) ?_
  intro f0 cd0 od0 vs0 os0 tq0 h3 tk0 tkk0 hv0 C3 kl3
  refine (?_ : Ar _ _) (kx2.trans kl3); intro kx3
  clear Dm hns
  refine (?_ : Ar _ _) (Mem.start h3); intro Dm
  refine (?_ : Ar _ _) (C3.ns); intro hns
  repeat walk_at "#3;;Set KD"
  refine fd3 _ _ _ _ _ fr cell C3 (es' := fun tk f => #[en w.params "__module__" u0 (.str (Str.ofString "cpy313.functools") t), en w.params "__qualname__" u1 (.str (Str.ofString "cmp_to_key.<locals>.K") u2), en w.params "__firstlineno__" u3 (.int 23 u4), en w.params "__slots__" (t + 1 + 1 + 1) (.ref sl), en w.params "__init__" tkk0 (.ref f0), en w.params "__lt__" tk (.ref f)]) (n' := 6) (by kernel_rfl!) (by intro tk f; kernel_rfl!) ?_
  intro f1 cd1 ct1 od1 vs1 os1 tq1 h4 tk1 tkk1 hv1 C4 kl4
  refine (?_ : Ar _ _) (kx3.trans kl4); intro kx4
  clear Dm hns
  refine (?_ : Ar _ _) (Mem.start h4); intro Dm
  refine (?_ : Ar _ _) (C4.ns); intro hns
  repeat walk_at "#3;;Set KD"
  refine fd4 _ _ _ _ _ fr cell C4 (es' := fun tk f => #[en w.params "__module__" u0 (.str (Str.ofString "cpy313.functools") t), en w.params "__qualname__" u1 (.str (Str.ofString "cmp_to_key.<locals>.K") u2), en w.params "__firstlineno__" u3 (.int 23 u4), en w.params "__slots__" (t + 1 + 1 + 1) (.ref sl), en w.params "__init__" tkk0 (.ref f0), en w.params "__lt__" tkk1 (.ref f1), en w.params "__gt__" tk (.ref f)]) (n' := 7) (by kernel_rfl!) (by intro tk f; kernel_rfl!) ?_
  intro f2 cd2 ct2 od2 vs2 os2 tq2 h5 tk2 tkk2 hv2 C5 kl5
  refine (?_ : Ar _ _) (kx4.trans kl5); intro kx5
  clear Dm hns
  refine (?_ : Ar _ _) (Mem.start h5); intro Dm
  refine (?_ : Ar _ _) (C5.ns); intro hns
  repeat walk_at "#3;;Set KD"
  refine fd5 _ _ _ _ _ fr cell C5 (es' := fun tk f => #[en w.params "__module__" u0 (.str (Str.ofString "cpy313.functools") t), en w.params "__qualname__" u1 (.str (Str.ofString "cmp_to_key.<locals>.K") u2), en w.params "__firstlineno__" u3 (.int 23 u4), en w.params "__slots__" (t + 1 + 1 + 1) (.ref sl), en w.params "__init__" tkk0 (.ref f0), en w.params "__lt__" tkk1 (.ref f1), en w.params "__gt__" tkk2 (.ref f2), en w.params "__eq__" tk (.ref f)]) (n' := 8) (by kernel_rfl!) (by intro tk f; kernel_rfl!) ?_
  intro f3 cd3 ct3 od3 vs3 os3 tq3 h6 tk3 tkk3 hv3 C6 kl6
  refine (?_ : Ar _ _) (kx5.trans kl6); intro kx6
  clear Dm hns
  refine (?_ : Ar _ _) (Mem.start h6); intro Dm
  refine (?_ : Ar _ _) (C6.ns); intro hns
  repeat walk_at "#3;;Set KD"
  refine fd6 _ _ _ _ _ fr cell C6 (es' := fun tk f => #[en w.params "__module__" u0 (.str (Str.ofString "cpy313.functools") t), en w.params "__qualname__" u1 (.str (Str.ofString "cmp_to_key.<locals>.K") u2), en w.params "__firstlineno__" u3 (.int 23 u4), en w.params "__slots__" (t + 1 + 1 + 1) (.ref sl), en w.params "__init__" tkk0 (.ref f0), en w.params "__lt__" tkk1 (.ref f1), en w.params "__gt__" tkk2 (.ref f2), en w.params "__eq__" tkk3 (.ref f3), en w.params "__le__" tk (.ref f)]) (n' := 9) (by kernel_rfl!) (by intro tk f; kernel_rfl!) ?_
  intro f4 cd4 ct4 od4 vs4 os4 tq4 h7 tk4 tkk4 hv4 C7 kl7
  refine (?_ : Ar _ _) (kx6.trans kl7); intro kx7
  clear Dm hns
  refine (?_ : Ar _ _) (Mem.start h7); intro Dm
  refine (?_ : Ar _ _) (C7.ns); intro hns
  repeat walk_at "#3;;Set KD"
  refine fd7 _ _ _ _ _ fr cell C7 (es' := fun tk f => #[en w.params "__module__" u0 (.str (Str.ofString "cpy313.functools") t), en w.params "__qualname__" u1 (.str (Str.ofString "cmp_to_key.<locals>.K") u2), en w.params "__firstlineno__" u3 (.int 23 u4), en w.params "__slots__" (t + 1 + 1 + 1) (.ref sl), en w.params "__init__" tkk0 (.ref f0), en w.params "__lt__" tkk1 (.ref f1), en w.params "__gt__" tkk2 (.ref f2), en w.params "__eq__" tkk3 (.ref f3), en w.params "__le__" tkk4 (.ref f4), en w.params "__ge__" tk (.ref f)]) (n' := 10) (by kernel_rfl!) (by intro tk f; kernel_rfl!) ?_
  intro f5 cd5 ct5 od5 vs5 os5 tq5 h8 tk5 tkk5 hv5 C8 kl8
  refine (?_ : Ar _ _) (kx7.trans kl8); intro kx8
  clear Dm hns
  refine (?_ : Ar _ _) (Mem.start h8); intro Dm
  refine (?_ : Ar _ _) (C8.ns); intro hns
  repeat walk_at "#3;;Set KD"
  refine nsSetCB (nsd := nsd) (es' := fun tk => #[en w.params "__module__" u0 (.str (Str.ofString "cpy313.functools") t), en w.params "__qualname__" u1 (.str (Str.ofString "cmp_to_key.<locals>.K") u2), en w.params "__firstlineno__" u3 (.int 23 u4), en w.params "__slots__" (t + 1 + 1 + 1) (.ref sl), en w.params "__init__" tkk0 (.ref f0), en w.params "__lt__" tkk1 (.ref f1), en w.params "__gt__" tkk2 (.ref f2), en w.params "__eq__" tkk3 (.ref f3), en w.params "__le__" tkk4 (.ref f4), en w.params "__ge__" tkk5 (.ref f5), en w.params "__hash__" tk .none]) (n' := 11) (C8.kp (kp_mem Dm)) (by kernel_rfl!) (by intro tk; kernel_rfl!) ?_
  intro h9 C9 kl9
  refine (?_ : Ar _ _) (kx8.trans ((KL.of_kp (kp_mem Dm)).trans kl9)); intro kx9
  clear Dm hns
  refine (?_ : Ar _ _) (Mem.start h9); intro Dm
  refine (?_ : Ar _ _) (C9.ns); intro hns
  repeat walk_at "#3;;Set KD"
  refine kf (fun i => [f0, f1, f2, f3, f4, f5].getD i 0) (fun i => [cd0, cd1, cd2, cd3, cd4, cd5].getD i 0) (fun i => [0, ct1, ct2, ct3, ct4, ct5].getD i 0) (fun i => [od0, od1, od2, od3, od4, od5].getD i none) (fun i => [vs0, vs1, vs2, vs3, vs4, vs5].getD i #[]) (fun i => [os0, os1, os2, os3, os4, os5].getD i #[]) (fun i => [tq0, tq1, tq2, tq3, tq4, tq5].getD i 0)
    (fun i => [u0, t, u1, u2, u3, u4, t + 1 + 1 + 1, tkk0, tkk1, tkk2, tkk3, tkk4, tkk5, tk5].getD i 0) sl (t + 1 + 1) h9 _ ?_ C9 kx9
  intro i hi
  rcases i with _ | _ | _ | _ | _ | _ | i
  · exact hv0
  · exact hv1
  · exact hv2
  · exact hv3
  · exact hv4
  · exact hv5
  · omega

end Mine
namespace Mine
variable {Nn : Nat}
set_option tactic.hygienic false
theorem ck (hh : A.handled = none) (hd : A.depth ≤ 700) (hu : A.units ≤ 6000) (h : Heap) (g : Array GenState) (d : Drawn) (t : Nat) (os : OsState) (fv : Value)
  (hX : (KX w.params).In h) (J : J34 Nn qK h)
  (kfin : ∀ C h' tk, KL Nn [] h h' → (KX w.params).In h' → J34 Nn qK h' → IsK w.params h' C fv → Q (.ref C) ⟨h', g, d, tk, os⟩) : wpAny (MM w) A (call (.ref 35) [fv]) Q E ⟨h, g, d, t, os⟩ := by
  refine wpAny_call (codeAny_of_tree ?_)
  show wpAny _ _ (callAny (.ref 35) _) _ _ _
  refine (?_ : Ar _ _) (k35 hX); intro h35
  refine (?_ : Ar _ _) (k34 hX); intro h34
  unfold code34 at h34
  refine (?_ : Ar _ _) (Mem.start h); intro Dm
  repeat walk_at "#3;st3 ty1 ty2 ty5 tl8 slot_tg.bind* tl9;Set Get CC EF"
  refine allocB ((?_ : Aa _ _ _ _ _ _ (⟨.type "frame", none, .dict #[] 0, #[]⟩) _) _ _ (Mem.alloc Dm rfl))
  clear Dm; intro L hL Dm
  repeat walk_at "#3;st3 ty1 ty2 ty5 tl8 slot_tg.bind* tl9;Set Get CC EF"
  refine allocB ((?_ : Aa _ _ _ _ _ _ (⟨.type "cell", none, .cell none, #[]⟩) _) _ _ (Mem.alloc Dm rfl))
  clear Dm; intro cell hL2 Dm
  repeat walk_at "#3;st3 ty1 ty2 ty5 tl8 slot_tg.bind* tl9;Set Get CC EF"
  refine updB' Dm 0 rfl ((?_ : Au _ _ _ _ _ _ _) _ (updD (o' := ⟨.type "cell", none, .cell (some fv), #[]⟩) Dm 0 rfl rfl rfl))
  clear Dm; intro hL3 Dm; dsimp only [List.set] at Dm
  repeat walk_at "#3;st3 ty1 ty2 ty5 tl8 slot_tg.bind* tl9;Set Get CC EF"
  refine (?_ : Ar (h.get? L = none) _) ((Dm.nw _ (.tail _ (.head _))).2); intro hLn
  refine wpAny_enterFrame (nolim (hX.keeps (kp_mem Dm))) (Nat.lt_of_le_of_lt hd (by decide)) ?_
  repeat walk_at "#3;st3 ty1 ty2 ty5 tl8 slot_tg.bind* tl9;Set Get CC EF"
  refine ⟨rfl, codeAny_func (body := ckbody) (env := fenv L cell) ?_⟩
  refine noE ?_
  refine (?_ : Ar _ _) (hX.keeps (kp_mem Dm)); intro hX3
  refine (?_ : Ar _ _) (k0 hX); intro h0
  refine (?_ : Ar _ _) (k3 hX); intro h30
  refine (?_ : Ar _ _) (k4 hX); intro h4
  repeat walk_at "#3;st3 ty1 ty2 ty5 tl8 slot_tg.bind* tl9;Set Get CC EF"
  refine nsGetO (r := some (.builtin "__build_class__")) Dm h0 (by kernel_rfl!) ?_
  repeat walk_at "#3;st3 ty1 ty2 ty5 tl8 slot_tg.bind* tl9;Set Get CC EF"
  refine nsGetO (r := none) Dm h30 (by kernel_rfl!) ?_
  repeat walk_at "#3;st3 ty1 ty2 ty5 tl8 slot_tg.bind* tl9;Set Get CC EF"
  refine nsGetO (r := some (.type "object")) Dm h0 (by kernel_rfl!) ?_
  repeat walk_at "#3;st3 ty1 ty2 ty5 tl8 slot_tg.bind* tl9;Set Get CC EF"
  refine allocB ((?_ : Aa _ _ _ _ _ _ (⟨.type "tuple", none, .seq #[.type "object"] 0, #[]⟩) _) _ _ (Mem.alloc Dm rfl))
  clear Dm; intro bt hbt Dm
  repeat walk_at "#3;st3 ty1 ty2 ty5 tl8 slot_tg.bind* tl9;Set Get CC EF"
  refine (?_ : Ar ((A.deeper (fenv L cell)).handled = none) _) (hh); intro dh
  refine (?_ : Ar ((A.deeper (fenv L cell)).depth ≤ 800) _) (by show A.depth + 1 ≤ 800; exact lbk 1 hd rfl); intro dd
  refine (?_ : Ar ((A.deeper (fenv L cell)).units ≤ 9000) _) (by show A.units + 3 ≤ 9000; exact lbk 3 hu rfl); intro du
  refine (?_ : Ar _ _) (hX.keeps (kp_mem Dm)); intro hX4
  refine deep (prep1 w _ hX4 _ _ _ ?_) dh dd du
  intro pa h1 tk1 kp1 hpa
  try dsimp -zeta only at *
  refine (?_ : Ar _ _) ((kp_mem Dm).trans kp1); intro kpa
  refine (?_ : Ar _ _) (kp1 _ _ (Mem.at Dm 1 _ _ rfl)); intro hcell1
  refine (?_ : Ar _ _) (kp1 _ _ (Mem.at Dm 2 _ _ rfl)); intro hL1
  refine (?_ : Ar _ _) (kp1 _ _ (Mem.at Dm 0 _ _ rfl)); intro hbt1
  refine (?_ : Ar _ _) (hX4.keeps kp1); intro hX5
  clear Dm
  refine (?_ : Ar _ _) (Mem.start h1); intro Dm
  repeat walk_at "#3;st3 ty1 ty2 ty5 tl8 slot_tg.bind* tl9;Set Get CC EF"
  refine deep (prep2 w _ hX5 _ _ _ pa bt hpa ?_) dh dd du
  intro nsd h2 tk2 kp2 hns2 hnew
  try dsimp -zeta only at *
  refine (?_ : Ar _ _) (kpa.trans kp2); intro kpb
  refine (?_ : Ar _ _) (kp2 _ _ hcell1); intro hcell2
  refine (?_ : Ar _ _) (kp2 _ _ hL1); intro hL2
  refine (?_ : Ar _ _) (kp2 _ _ hbt1); intro hbt2
  refine (?_ : Ar _ _) (hX5.keeps kp2); intro hX6
  clear Dm
  refine (?_ : Ar _ _) (Mem.start h2); intro Dm
  repeat walk_at "#3;st3 ty1 ty2 ty5 tl8 slot_tg.bind* tl9;Set Get CC EF"
  refine (?_ : Ar _ _) (J.kp kpb hX6); intro J2
  refine (?_ : Ar (∀ o, (KX w.params).lookup nsd ≠ some o) _) (fun o e => by have := hX5 nsd o e; rw [hnew] at this; cases this); intro big
  have hsm : (nsd == sysModules) = false := by
    cases q : (nsd == sysModules) with
    | false => rfl
    | true =>
      have q' := eq_of_beq q
      exact absurd (show (KX w.params).lookup nsd = some (ob1 w.params) by rw [q']; kernel_rfl) (big _)
  repeat walk_at "#3;st3 ty1 ty2 ty5 tl8 slot_tg.bind* tl9;Set Get CC EF"
  refine ccodeJ (q := qK) rfl J2 rfl rfl ?_
  intro cc T h3 tk3 hx3 hJ3
  obtain ⟨ps3, e30⟩ := J2.tab
  refine (?_ : Ar (KL Nn [] h2 h3) _) (KL.of_tab hx3 e30 (.inr rfl)); intro kl3
  have C3 := (((CB.mk (fs := []) (kx_kl hX6 kl3 (by simp)) (kl3 _ _ hns2 (by simp) (.inl rfl)) hJ3 (by simp) big).add (kl3 _ _ hcell2 (by simp) (.inl rfl)) rfl (by intro es n e; cases e)).add (kl3 _ _ hbt2 (by simp) (.inl rfl)) rfl (by intro es n e; cases e)).add' (kl3 _ _ hL2 (by simp) (.inl rfl)) rfl (by rintro rfl; exact absurd (congrArg Obj.cls (Option.some.inj (hL2.symm.trans hns2))) (by simp))
  refine (?_ : Ar (KL Nn [] h h3) _) ((KL.of_kp kpb).trans kl3); intro klA
  clear Dm h0 h4 h30
  refine (?_ : Ar _ _) (k0 C3.X); intro g0
  refine (?_ : Ar _ _) (k3 C3.X); intro g3
  refine (?_ : Ar _ _) (k4 C3.X); intro g4
  refine (?_ : Ar _ _) (Mem.start h3); intro Dm
  repeat walk_at "#3;st3 ty1 ty2 ty5 tl8 slot_tg.bind* tl9;Set Get CC EF"
  refine nsGetO (r := some (.ref 4)) Dm g3 (by kernel_rfl!) ?_
  repeat walk_at "#3;st3 ty1 ty2 ty5 tl8 slot_tg.bind* tl9;Set Get CC EF"
  refine nsGetO (r := some (.str (Str.ofString "law_ij0005_01") 222)) Dm g3 (by kernel_rfl!) ?_
  repeat walk_at "#3;st3 ty1 ty2 ty5 tl8 slot_tg.bind* tl9;Set Get CC EF"
  try dsimp -zeta only
  refine allocB ((?_ : Aa _ _ _ _ _ _ _ _) _ _ (Mem.alloc Dm rfl))
  clear Dm; intro fr hfr Dm
  repeat walk_at "#3;st3 ty1 ty2 ty5 tl8 slot_tg.bind* tl9;Set Get CC EF"
  refine wpAny_enterFrame (nolim (C3.X.keeps (kp_mem Dm))) (Nat.lt_of_le_of_lt dd (by decide)) ?_
  refine (?_ : Ar _ _) (C3.ns); intro hns3
  repeat walk_at "#3;st3 ty1 ty2 ty5 tl8 slot_tg.bind* tl9;Set Get CC EF"
  refine nsGetO (r := none) Dm hns3 (by kernel_rfl!) ?_
  repeat walk_at "#3;st3 ty1 ty2 ty5 tl8 slot_tg.bind* tl9;Set Get CC EF"
  refine nsGetO (r := some (.str (Str.ofString "law_ij0005_01") 222)) Dm g3 (by kernel_rfl!) ?_
  repeat walk_at "#3;st3 ty1 ty2 ty5 tl8 slot_tg.bind* tl9;Set Get CC EF"
  refine nsSetCB (nsd := nsd) (es' := fun tk => #[en w.params "__module__" tk (.str (Str.ofString "law_ij0005_01") 222)]) (n' := 1) (C3.kp (kp_mem Dm)) (by kernel_rfl!) (by intro tk; kernel_rfl!) ?_
  intro h5 C5 kl5
  refine (?_ : Ar _ _) ((klA.mono (y := [nsd]) (by simp)).trans ((KL.of_kp (kp_mem Dm)).trans kl5)); intro klB
  clear Dm hns3
  refine (?_ : Ar _ _) (C5.ns); intro hns5
  refine (?_ : Ar _ _) (Mem.start h5); intro Dm
  repeat walk_at "#3;st3 ty1 ty2 ty5 tl8 slot_tg.bind* tl9;Set Get CC EF"
  refine nsSetCB (nsd := nsd) (es' := fun tk => #[en w.params "__module__" tk3 (.str (Str.ofString "law_ij0005_01") 222), en w.params "__qualname__" tk (.str (Str.ofString "cmp_to_key.<locals>.K") (tk3 + 1))]) (n' := 2) (C5.kp (kp_mem Dm)) (by kernel_rfl!) (by intro tk; kernel_rfl!) ?_
  intro h6 C6 kl6
  refine (?_ : Ar _ _) (klB.trans ((KL.of_kp (kp_mem Dm)).trans kl6)); intro klC
  clear Dm hns5
  refine (?_ : Ar _ _) (C6.ns); intro hns6
  refine (?_ : Ar _ _) (Mem.start h6); intro Dm
  repeat walk_at "#3;st3 ty1 ty2 ty5 tl8 slot_tg.bind* tl9;Set Get CC EF"
  refine nsSetCB (nsd := nsd) (es' := fun tk => #[en w.params "__module__" tk3 (.str (Str.ofString "law_ij0005_01") 222), en w.params "__qualname__" (tk3 + 1 + 1) (.str (Str.ofString "cmp_to_key.<locals>.K") (tk3 + 1)), en w.params "__firstlineno__" tk (.int 23 (tk3 + 1 + 1 + 1))]) (n' := 3) (C6.kp (kp_mem Dm)) (by kernel_rfl!) (by intro tk; kernel_rfl!) ?_
  intro h7 C7 kl7
  refine (?_ : Ar _ _) (klC.trans ((KL.of_kp (kp_mem Dm)).trans kl7)); intro klD
  clear Dm hns6
  refine (?_ : Ar _ _) (C7.ns); intro hns7
  refine (?_ : Ar _ _) (Mem.start h7); intro Dm
  repeat walk_at "#3;st3 ty1 ty2 ty5 tl8 slot_tg.bind* tl9;Set Get CC EF"
  refine kbody h7 g d _ os fr cell _ _ _ _ _ C7 ?_
  intro f cd ct od vs os' tq tt sl t20 h8 tk8 hv C8 kl8
  refine (?_ : Ar _ _) (klD.trans ((KL.of_kp (kp_mem Dm)).trans kl8)); intro klE
  clear Dm hns7
  refine (?_ : Ar _ _) (C8.ns); intro hns8
  refine (?_ : Ar _ _) (Mem.start h8); intro Dm
  repeat walk_at "#3;st3 ty1 ty2 ty5 tl8 slot_tg.bind* tl9;Set Get CC EF"
  refine allocB ((?_ : Aa _ _ _ _ _ _ (⟨.type "tuple", none, .seq #[.str (Str.ofString "obj") tk8] 0, #[]⟩) _) _ _ (Mem.alloc Dm rfl))
  clear Dm; intro st hst Dm
  repeat walk_at "#3;st3 ty1 ty2 ty5 tl8 slot_tg.bind* tl9;Set Get CC EF"
  refine nsSetCB (nsd := nsd) (es' := fun tk => (nsArr w.params tt sl f).push (en w.params "__static_attributes__" tk (.ref st))) (n' := 12) ((C8.kp (kp_mem Dm)).add (Mem.at Dm 0 _ _ rfl) rfl (by intro es n e; cases e)) (by kernel_rfl!) (by intro tk; kernel_rfl!) ?_
  intro h9 C9 kl9
  refine (?_ : Ar _ _) (klE.trans ((KL.of_kp (kp_mem Dm)).trans kl9)); intro klF
  clear Dm hns8
  refine (?_ : Ar _ _) (Mem.start h9); intro Dm
  repeat walk_at "#3;st3 ty1 ty2 ty5 tl8 slot_tg.bind* tl9;Set Get CC EF"
  change wpAny _ _ (call (.type "type") [.str (Str.ofString "K") t, .ref bt, .ref nsd] []) _ _ _
  refine tc dh dd (by show A.units + 3 ≤ 7000; exact lbk 3 hu rfl) h9 g d _ os t bt nsd sl st (f 0) (f 1) (f 2) (f 3) (f 4) (f 5) (fun i => if i = 14 then tk8 + 1 else tt i) t20 tk8
    (fun i => match i with | 1 => kfd 2 [] (.ref (cd 0)) .none | 2 => kfd 3 [(Str.ofString "mycmp", cell)] (.ref (cd 1)) (.ref (ct 1)) | 3 => kfd 4 [(Str.ofString "mycmp", cell)] (.ref (cd 2)) (.ref (ct 2)) | 4 => kfd 5 [(Str.ofString "mycmp", cell)] (.ref (cd 3)) (.ref (ct 3)) | 5 => kfd 6 [(Str.ofString "mycmp", cell)] (.ref (cd 4)) (.ref (ct 4)) | _ => kfd 7 [(Str.ofString "mycmp", cell)] (.ref (cd 5)) (.ref (ct 5)))
    C9.X (C9.at 15 _ _ rfl) C9.ns (C9.at 13 _ _ rfl) (C9.at 0 _ _ rfl) (C9.at 11 _ _ rfl) (C9.at 9 _ _ rfl) (C9.at 7 _ _ rfl) (C9.at 5 _ _ rfl) (C9.at 3 _ _ rfl) (C9.at 1 _ _ rfl) hsm ?_
  intro C N md h10 tk10 tm t4 kp10 hC hN hmd
  refine (?_ : Ar _ _) (kp10 _ _ (C9.at 14 _ _ rfl)); intro hLz
  clear Dm
  refine (?_ : Ar _ _) (Mem.start h10); intro Dm
  repeat walk_at "#3;st3 ty1 ty2 ty5 tl8 slot_tg.bind* tl9;Set Get CC EF"
  refine nsSetOld (a := L) (o' := fun tk => ⟨.type "frame", none, .dict #[⟨PyData.keyHash w.params (Str.ofString "K"), .str (Str.ofString "K") tk, .ref C⟩] 1, #[]⟩) hLz (by kernel_rfl!) (by intro tk; kernel_rfl!) (fun _ => rfl) ?_
  intro h11 eb11 hL11
  clear Dm
  refine (?_ : Ar _ _) (Mem.start h11); intro Dm
  repeat walk_at "#3;st3 ty1 ty2 ty5 tl8 slot_tg.bind* tl9;Set Get CC EF"
  refine nsGetO (r := some (.ref C)) Dm hL11 (by kernel_rfl!) ?_
  repeat walk_at "#3;st3 ty1 ty2 ty5 tl8 slot_tg.bind* tl9;Set Get CC EF"
  have klL : KL Nn [] h h11 := fun b o e _ c => by
    have n1 : b ∉ [nsd] := by
      intro m
      simp only [List.mem_singleton] at m
      subst m
      have := kpa _ _ e
      rw [hnew] at this; cases this
    have n2 : b ≠ L := by
      rintro rfl
      rw [hLn] at e; cases e
    exact eb11 _ _ n2 (kp10 _ _ (klF b o e n1 c))
  refine (?_ : Ar (∀ b o, h10.get? b = some o → o.cls ≠ .type "frame" → h11.get? b = some o) _) (fun b o e n => eb11 _ _ (by rintro rfl; rw [hLz] at e; cases e; exact n rfl) e); intro fin
  refine (?_ : Ar ((KX w.params).In h11) _) (fun a o e => eb11 _ _ (by rintro rfl; have := hX _ _ e; rw [hLn] at this; cases this) (kp10 _ _ (C9.X a o e))); intro hX11
  refine kfin C h11 _ klL hX11 ⟨J.1.elim fun o z => ⟨o, klL _ o z (by simp) (.inr ⟨Nat.le_refl _, Nat.ne_of_gt (by omega : 30 < 103 + Nn)⟩)⟩, .inr ⟨cc, T, (C9.J.kp kp10).kl eb11 _ hLz (by intro vs; simp)⟩⟩ ⟨N, bt, md, cell, sl, st, f, cd, ct, od, vs, os', tq, tm, _, _, t4, t20, fin _ _ hC (by simp [kclsObj]), fin _ _ hN (by simp [knsObj]), fin _ _ hmd (by simp [mdObj]), fin _ _ (kp10 _ _ (C9.at 16 _ _ rfl)) (by simp), hv, fun p hp => fin _ _ (kp10 _ _ (C9.F p (.tail _ (List.mem_append_left _ hp))).1) ?_⟩
  simp only [kfs, List.mem_cons, List.not_mem_nil, or_false] at hp
  rcases hp with rfl | rfl | rfl | rfl | rfl | rfl | rfl | rfl | rfl | rfl | rfl | rfl | rfl <;> simp [kfun]

end Mine
namespace Mine
noncomputable def inst (C dx a : Addr) : Obj := ⟨.ref C, some dx, .plain, #[some (.ref a)]⟩
theorem vs_form {vs : Array Value} {v : Value} (h : vs[1]? = some v) : ∃ x r, vs = ⟨x :: v :: r⟩ := by
  obtain ⟨l⟩ := vs
  match l, h with
  | x :: y :: r, h => exact ⟨x, r, by simp at h; rw [h]⟩

end Mine
namespace Mine
noncomputable def tup (l c : Int) (u v : Tok) : Obj := ⟨.type "tuple", none, .seq #[.int l u, .int c v] 0, #[]⟩
noncomputable def ordI (l c l' c' : Int) : Int := if l = l' ∧ c = c' then 0 else if l < l' ∨ (l = l' ∧ c < c') then -1 else 3
noncomputable def CmpC (w : World) (fv : Value) (R : Int → Int → Int → Int → Int) : Prop := ∀ (A : Around) (hh : A.handled = none) (hd : A.depth ≤ 790) (hu : A.units ≤ 8900) (s : Shared) (hx : (KX w.params).In s.heap) (Q : Value → Shared → Prop) (E : Value → Shared → Prop) (a b : Addr) (l c l' c' : Int) (u1 u2 u3 u4 : Tok)
   (ha : s.heap.get? a = some ⟨.type "tuple", none, .seq #[.int l u1, .int c u2] 0, #[]⟩) (hb : s.heap.get? b = some ⟨.type "tuple", none, .seq #[.int l' u3, .int c' u4] 0, #[]⟩)
   (k : ∀ r u h' tk, Kp s.heap h' → r = R l c l' c' → Q (.int r u) { s with heap := h', toks := tk }),
   wpAny (model PySem.Challenge.rw_ij0005_01.row.toRowW.prog w) A (PySem.call fv [.ref a, .ref b] []) Q E s

end Mine
namespace Mine
section
variable {w : World} {A : Around} {E : Value → Shared → Prop} {h : Heap} {g : Array GenState} {d : Drawn} {t : Nat} {os : OsState} {Q : Value → Shared → Prop}
theorem tl_ms : typeLookup (.type "member_descriptor") (Str.ofString "__set__") = pure (some (.builtin "member_descriptor.__set__")) := KF.slot_mset.lookup
theorem mgetC {s : Shared} {p x : Addr} {v : Value} {R : Result → Shared → Prop} {o : Obj} (ho : s.heap.get? p = some o) (hc : o.cls = .type "member_descriptor")
  (h : wpAny (MM w) A.in1 (Builtin.«member_descriptor.__get__» ⟨[.ref p, .ref x, v], []⟩) (fun fin s' => match fin with | .done f => R (.ok f) s' | .again c' => c'.quiet = true ∧ codeAny (MM w) A c' R s') (fun e s' => R (.error e) s') s) :
  codeAny (MM w) A (.call (.builtin "member_descriptor.__get__") ⟨[.ref p, .ref x, v], []⟩) R s :=
  codeAny_call_builtin KF.slot_mem.plain KF.entry_mem (KF.slot_mem.check _ _ _ s (.ref p) [.ref x, v] [] _ ⟨_, ho, hc⟩ (KF.args_mem _ _ _) h)
theorem subCC {h : Heap} {C N bt : Addr} {t1 t2 : Tok} (hC : h.get? C = some (kclsObj C N bt t1 t2)) : Looks (MM w) h (isSubtype (.ref C) (.ref C)) true := by
  unfold kclsObj at hC
  intro A Q E s kk q
  obtain ⟨h', g, d, t, os⟩ := s
  refine (?_ : Ar _ _) (kk _ _ hC); intro hC1
  refine (?_ : Ar _ _) (Mem.start h'); intro Dm
  unfold isSubtype
  repeat walk_at "#1;;"
  simpa using q
theorem gh1W (hh : A.handled = none) (hd : A.depth ≤ 800) (hu : A.units ≤ 9000) (X : (KX w.params).In h) {C N bt sl fI fL fG fE fLe fGe sa md x dx a : Addr} {tk t1 t2 t4 : Tok} {tt : Nat → Tok}
   (hC : h.get? C = some (kclsObj C N bt t1 t2)) (hN : h.get? N = some (knsObj w.params sl fI fL fG fE fLe fGe sa md tt)) (hmd : h.get? md = some (mdObj C t4))
   (hx : h.get? x = some (inst C dx a))
   (k : ∀ h' tk, Kp h h' → Q (.ref a) ⟨h', g, d, tk, os⟩) :
   wpAny (MM w) A (runValue (.builtin "proto.getattr_hooked" ⟨[.ref x, .str (Str.ofString "obj") tk], []⟩)) Q E ⟨h, g, d, t, os⟩ := by
  refine (?_ : Ar _ _) (Mem.start h); intro Dm
  refine wpAny_runValue (codeAny_builtin F.plainObj_entry_getattr_hooked ?_)
  unfold Builtin.«proto.getattr_hooked»
  refine noE ?_
  repeat walk_at "#3;;Set Get"
  refine tlCh (v := .ref md) (kp_mem Dm _ _ hC) rfl (kp_mem Dm _ _ hN) (by kernel_rfl!) ?_
  repeat walk_at "#3;;Set Get"
  refine wpAny_of_eq KF.slot_mem.lookup ?_
  repeat walk_at "#3;;Set Get"
  refine wpAny_of_eq tl_ms ?_
  repeat walk_at "#3;;Set Get"
  refine tlC (r := none) (kp_mem Dm _ _ hC) rfl (kp_mem Dm _ _ hN) (by kernel_rfl!) (by kernel_rfl!) ?_
  repeat walk_at "#3;;Set Get"
  refine wpAny_call (mgetC (kp_mem Dm _ _ hmd) rfl ?_)
  unfold Builtin.«member_descriptor.__get__» Builtin.Getset_descriptor.descrGet
  rw [dga_obj]
  repeat walk_at "#3;;Set Get"
  refine subCC hC _ _ _ _ (kp_mem Dm) ?_
  repeat walk_at "#3;;Set Get"
  refine ⟨Code.quiet_builtin _ (by decide +kernel), codeAny_builtin KF.entry_slot ?_⟩
  unfold Builtin.«proto.slot» Builtin.Slots.target
  repeat walk_at "#3;;Set Get"
  exact k _ _ (kp_mem Dm)
end

end Mine
namespace Mine
set_option tactic.hygienic false
noncomputable def opB (op : CmpOp) (a b : Int) : Bool := match op with | .Lt => decide (a < b) | .Gt => decide (a > b) | .Eq => a == b | .LtE => decide (a ≤ b) | .GtE => decide (b ≤ a) | _ => false
noncomputable def opOk (op : CmpOp) : Bool := match op with | .Lt | .Gt | .Eq | .LtE | .GtE => true | _ => false
theorem cmpI {A : Around} {E : Value → Shared → Prop} {s : Shared} {Q : Value → Shared → Prop} {op : CmpOp} {a b : Int} {t u : Tok} (ho : opOk op = true) (h : Q (.bool (opB op a b)) s) : wpAny (MM w) A (compareOp op (.int a t) (.int b u)) Q E s := by
  cases op <;> first | (cases ho; done) | skip
  · exact wpAny_eq_int h
  · exact wpAny_lt_int h
  · exact le_int h
  · exact gt_int h
  · exact ge_int h
theorem cmK {M : Model} {A : Around} {E : Value → Shared → Prop} {s : Shared} {Q : Value → Shared → Prop} {m f : Value} {pos : List Value} {kw : List (Str × Value)} (h : wpAny M A (call f pos kw) Q E s) : wpAny M A (callMarked m f pos kw) Q E s := fun Γ p hΓ => by
  unfold callMarked
  rw [Sem.wp_keep]
  exact h Γ p hΓ
theorem gaObj (hh : A.handled = none) (hd : A.depth ≤ 800) (hu : A.units ≤ 9000) (h : Heap) (g : Array GenState) (d : Drawn) (t : Nat) (os : OsState) (C N bt sl fI fL fG fE fLe fGe sa md x dx a : Addr) (t1 t2 t4 : Tok) (tt : Nat → Tok)
  (hX : (KX w.params).In h) (hC : h.get? C = some (kclsObj C N bt t1 t2)) (hN : h.get? N = some (knsObj w.params sl fI fL fG fE fLe fGe sa md tt)) (hmd : h.get? md = some (mdObj C t4))
  (hx : h.get? x = some (inst C dx a))
  (kfin : ∀ h' tk, Kp h h' → Q (.ref a) ⟨h', g, d, tk, os⟩) : wpAny (MM w) A (getAttr (.ref x) (Str.ofString "obj") true) Q E ⟨h, g, d, t, os⟩ := by
  refine noE ?_
  refine (?_ : Ar _ _) (Mem.start h); intro Dm
  unfold getAttr
  repeat walk_at "#3;;"
  refine tlC (r := some (.builtin "object.__getattribute__")) hC rfl hN (by kernel_rfl!) (by kernel_rfl!) ?_
  repeat walk_at "#3;;"
  refine gh1W hh hd hu hX hC hN hmd hx ?_
  intro h1 tk1 kp1
  repeat walk_at "#3;;"
  exact kfin _ _ kp1

end Mine
namespace Mine
set_option tactic.hygienic false
noncomputable def margs (p q : Pos) : Arguments := { posonlyargs := [], args := [{ arg := Str.ofString "self", annotation := none, pos := p }, { arg := Str.ofString "other", annotation := none, pos := q }], vararg := none, kwonlyargs := [], kw_defaults := [], kwarg := none, defaults := [] }
noncomputable def mbody (op : CmpOp) (p1 p2 p3 p4 p5 p6 p7 p8 p9 : Pos) : List Stmt := [.Return (some (.Compare (.Call (.Name (Str.ofString "mycmp") p1) [.Attribute (.Name (Str.ofString "self") p2) (Str.ofString "obj") p3, .Attribute (.Name (Str.ofString "other") p4) (Str.ofString "obj") p5] [] p6) [op] [.Constant (.int 0) 0 p7] p8)) p9]
noncomputable def mfd (nm qn : Str) (p q : Pos) (body : List Stmt) (cell : Addr) (pm cd ct : Value) : FuncData := { name := nm, qualname := qn, params := margs p q, body := .stmts body, scope := msc, globals := mainGlobals, closure := [(Str.ofString "mycmp", cell)], defaults := .none, kwdefaults := .none, doc := .none, pyModule := pm, annotations := none, code := cd, closureTuple := ct, builtins := builtinsNs }
noncomputable def menv (L cell f : Addr) (qs : Str) (cd : Value) : Env := { scope := msc, locals := L, globals := mainGlobals, cells := [(Str.ofString "mycmp", cell)], qual := qs ++ Str.ofString ".<locals>.", func := some f, code := cd, frame := some L, builtins := builtinsNs }
theorem fop (hh : A.handled = none) (hd : A.depth ≤ 700) (hu : A.units ≤ 6000) (h : Heap) (g : Array GenState) (d : Drawn) (t : Nat) (os : OsState) (fa : Addr) (ffd : FuncData) (R : Int → Int → Int → Int → Int) (hcmp : CmpC w (.ref fa) R)
  (op : CmpOp) (p1 p2 p3 p4 p5 p6 p7 p8 p9 q1 q2 : Pos) (nm qn : Str) (cell cd f x y C N bt sl fI fL fG fE fLe fGe sa md a b dx dy : Addr) (t1 t2 t4 : Tok) (tt : Nat → Tok) (od : Option Addr) (cx : Value) (cr : List Value) (qs : Str) (tq : Tok) (pm ct : Value) (os' : Array (Option Value)) (l c l' c' : Int) (u1 u2 u3 u4 : Tok)
  (hX : (KX w.params).In h) (hC : h.get? C = some (kclsObj C N bt t1 t2)) (hN : h.get? N = some (knsObj w.params sl fI fL fG fE fLe fGe sa md tt)) (hmd : h.get? md = some (mdObj C t4)) (hfa : h.get? fa = some ⟨.type "function", none, .func ffd, #[]⟩) (hF : h.get? f = some ⟨.type "function", none, .func (mfd nm qn q1 q2 (mbody op p1 p2 p3 p4 p5 p6 p7 p8 p9) cell pm (.ref cd) ct), #[]⟩)
  (hcd : h.get? cd = some ⟨.type "code", od, .fields ⟨cx :: .str qs tq :: cr⟩, os'⟩) (hcell : h.get? cell = some ⟨.type "cell", none, .cell (some (.ref fa)), #[]⟩)
  (hx : h.get? x = some (inst C dx a)) (hy : h.get? y = some (inst C dy b)) (ha : h.get? a = some (tup l c u1 u2)) (hb : h.get? b = some (tup l' c' u3 u4)) (hop : opOk op = true)
  (kf : ∀ h' tk, Kp h h' → Q (.bool (opB op (R l c l' c') 0)) ⟨h', g, d, tk, os⟩) :
  wpAny (MM w) A (call (.ref f) [.ref x, .ref y] []) Q E ⟨h, g, d, t, os⟩ := by
  refine wpAny_call (codeAny_of_tree ?_)
  show wpAny _ _ (callAny (.ref f) _) _ _ _
  refine noE ?_
  refine (?_ : Ar _ _) (Mem.start h); intro Dm
  repeat walk_at "#3;;Set Get EF GA"
  refine allocB ((?_ : Aa _ _ _ _ _ _ (⟨.type "frame", none, .dict #[] 0, #[]⟩) _) _ _ (Mem.alloc Dm rfl))
  clear Dm; intro L hL Dm
  repeat walk_at "#3;;Set Get EF GA"
  refine nsSetB rfl Dm 0 rfl (by kernel_rfl!) ((?_ : Au _ _ _ _ _ _ _) _ (nsPutD (o' := fun tk => ⟨.type "frame", none, .dict #[en w.params "self" tk (.ref x)] 1, #[]⟩) Dm 0 rfl (by intro tk; kernel_rfl!) (fun _ => rfl)))
  clear Dm; intro hL2 Dm; dsimp only [List.set] at Dm
  repeat walk_at "#3;;Set Get EF GA"
  refine nsSetB rfl Dm 0 rfl (by kernel_rfl!) ((?_ : Au _ _ _ _ _ _ _) _ (nsPutD (o' := fun tk => ⟨.type "frame", none, .dict #[en w.params "self" t (.ref x), en w.params "other" tk (.ref y)] 2, #[]⟩) Dm 0 rfl (by intro tk; kernel_rfl!) (fun _ => rfl)))
  clear Dm; intro hL3 Dm; dsimp only [List.set] at Dm
  repeat walk_at "#3;;Set Get EF GA"
  refine wpAny_enterFrame (nolim (hX.keeps (kp_mem Dm))) (Nat.lt_of_le_of_lt hd (by decide)) ?_
  repeat walk_at "#3;;Set Get EF GA"
  refine ⟨rfl, codeAny_func (body := mbody op p1 p2 p3 p4 p5 p6 p7 p8 p9) (env := menv L cell f qs (.ref cd)) ?_⟩
  unfold mbody
  refine noE ?_
  repeat walk_at "#3;;Set Get EF GA"
  refine (?_ : Ar ((A.deeper (menv L cell f qs (.ref cd))).handled = none) _) (hh); intro dh
  refine (?_ : Ar ((A.deeper (menv L cell f qs (.ref cd))).depth ≤ 800) _) (by show A.depth + 1 ≤ 800; exact lbk 1 hd rfl); intro dd
  refine (?_ : Ar ((A.deeper (menv L cell f qs (.ref cd))).units ≤ 9000) _) (by show A.units + 3 ≤ 9000; exact lbk 3 hu rfl); intro du
  refine nsGetM (r := some (.ref x)) Dm 0 rfl (by kernel_rfl!) ?_
  repeat walk_at "#3;;Set Get EF GA"
  refine (?_ : Ar _ _) (kp_mem Dm); intro kq
  refine gaObj dh dd du _ _ _ _ _ C N bt sl fI fL fG fE fLe fGe sa md x dx a t1 t2 t4 tt (hX.keeps kq) (kq _ _ hC) (kq _ _ hN) (kq _ _ hmd) (kq _ _ hx) ?_
  intro h1 tk1 kp1
  have hL1 := kp1 _ _ (Mem.at Dm 0 _ _ rfl)
  have kq := kq.trans kp1
  clear Dm
  have Dm := Mem.start h1
  repeat walk_at "#3;;Set Get EF GA"
  refine nsGetO (r := some (.ref y)) Dm hL1 (by kernel_rfl!) ?_
  repeat walk_at "#3;;Set Get EF GA"
  refine (?_ : Ar _ _) (kq.trans (kp_mem Dm)); intro kq
  refine gaObj dh dd du _ _ _ _ _ C N bt sl fI fL fG fE fLe fGe sa md y dy b t1 t2 t4 tt (hX.keeps kq) (kq _ _ hC) (kq _ _ hN) (kq _ _ hmd) (kq _ _ hy) ?_
  intro h2 tk2 kp2
  have kq := kq.trans kp2
  clear Dm
  have hfa2 := kq _ _ hfa
  have Dm := Mem.start h2
  repeat walk_at "#3;;Set Get EF GA"
  refine hcmp _ dh (by show A.depth + 1 ≤ 790; exact lbk 1 hd rfl) (by show A.units + 3 ≤ 8900; exact lbk 3 hu rfl) ⟨h2, g, d, tk2, os⟩ (hX.keeps kq) _ _ a b l c l' c' u1 u2 u3 u4 (kq _ _ ha) (kq _ _ hb) ?_
  intro r u h3 tk3 kp3 hr
  have kq := kq.trans kp3
  clear Dm
  have Dm := Mem.start h3
  repeat walk_at "#3;;Set Get EF GA"
  change wpAny _ _ (compareOp op (.int r u) (.int 0 tk3)) _ _ _
  refine cmpI hop ?_
  repeat walk_at "#3;;Set Get EF GA"
  exact hr ▸ kf h3 _ kq

end Mine
namespace Mine
theorem bindFn {M : Model} {A : Around} {E : Value → Shared → Prop} {s : Shared} {f : Addr} {self : Value} {dd : Option Addr} {da : Data} {sl : Array (Option Value)} {Q : Value × List Value → Shared → Prop} (hf : s.heap.get? f = some ⟨.type "function", dd, da, sl⟩) (q : Q (.ref f, [self]) s) : wpAny M A (bindSpecial (.ref f) self) Q E s := by
  unfold bindSpecial
  refine wpAny_bind (wpAny_typeOf (T := "function") (v := .ref f) ⟨_, hf, rfl⟩ ?_)
  exact wpAny_pure q

end Mine
namespace Mine
set_option tactic.hygienic false
noncomputable def mq (i j : Nat) : Pos := match (kargs i).args[j]? with | some a => a.pos | _ => ⟨0, 0, 0, 0⟩
noncomputable def prtE : Expr → List Expr × Pos | .Name _ p => ([], p) | .Attribute v _ p => ([v], p) | .Call f a _ p => (f :: a, p) | .Compare l _ r p => (l :: r, p) | .Constant _ _ p => ([], p) | _ => ([], ⟨0, 0, 0, 0⟩)
noncomputable def retE : List Stmt → Option (Expr × Pos) | .Return (some e) p :: _ => some (e, p) | _ => none
noncomputable def nthE (e : Option Expr) (i : Nat) : Option Expr := e.bind fun e => (prtE e).1[i]?
noncomputable def mE (i : Nat) : Option Expr := (retE (kbod i)).map (·.1)
noncomputable def mps (i : Nat) : List Pos :=
  let c := nthE (mE i) 0
  [nthE c 0, nthE (nthE c 1) 0, nthE c 1, nthE (nthE c 2) 0, nthE c 2, c, nthE (mE i) 1, mE i].map (fun e => (prtE (e.getD (.Name Str.empty ⟨0, 0, 0, 0⟩))).2) ++ ((retE (kbod i)).map (·.2)).toList
noncomputable def mp (i j : Nat) : Pos := match (mps i)[j]? with | some p => p | _ => ⟨0, 0, 0, 0⟩
theorem kf3 (cell cd ct : Addr) : kfun 3 [(Str.ofString "mycmp", cell)] (.ref cd) (.ref ct) = ⟨.type "function", none, .func (mfd (Str.ofString "__lt__") (Str.ofString "cmp_to_key.<locals>.K.__lt__") (mq 3 0) (mq 3 1) (mbody .Lt (mp 3 0) (mp 3 1) (mp 3 2) (mp 3 3) (mp 3 4) (mp 3 5) (mp 3 6) (mp 3 7) (mp 3 8)) cell (.str (Str.ofString "law_ij0005_01") 222) (.ref cd) (.ref ct)), #[]⟩ := by kernel_rfl
theorem kf4 (cell cd ct : Addr) : kfun 4 [(Str.ofString "mycmp", cell)] (.ref cd) (.ref ct) = ⟨.type "function", none, .func (mfd (Str.ofString "__gt__") (Str.ofString "cmp_to_key.<locals>.K.__gt__") (mq 4 0) (mq 4 1) (mbody .Gt (mp 4 0) (mp 4 1) (mp 4 2) (mp 4 3) (mp 4 4) (mp 4 5) (mp 4 6) (mp 4 7) (mp 4 8)) cell (.str (Str.ofString "law_ij0005_01") 222) (.ref cd) (.ref ct)), #[]⟩ := by kernel_rfl
theorem kf5 (cell cd ct : Addr) : kfun 5 [(Str.ofString "mycmp", cell)] (.ref cd) (.ref ct) = ⟨.type "function", none, .func (mfd (Str.ofString "__eq__") (Str.ofString "cmp_to_key.<locals>.K.__eq__") (mq 5 0) (mq 5 1) (mbody .Eq (mp 5 0) (mp 5 1) (mp 5 2) (mp 5 3) (mp 5 4) (mp 5 5) (mp 5 6) (mp 5 7) (mp 5 8)) cell (.str (Str.ofString "law_ij0005_01") 222) (.ref cd) (.ref ct)), #[]⟩ := by kernel_rfl
theorem kf6 (cell cd ct : Addr) : kfun 6 [(Str.ofString "mycmp", cell)] (.ref cd) (.ref ct) = ⟨.type "function", none, .func (mfd (Str.ofString "__le__") (Str.ofString "cmp_to_key.<locals>.K.__le__") (mq 6 0) (mq 6 1) (mbody .LtE (mp 6 0) (mp 6 1) (mp 6 2) (mp 6 3) (mp 6 4) (mp 6 5) (mp 6 6) (mp 6 7) (mp 6 8)) cell (.str (Str.ofString "law_ij0005_01") 222) (.ref cd) (.ref ct)), #[]⟩ := by kernel_rfl
theorem kf7 (cell cd ct : Addr) : kfun 7 [(Str.ofString "mycmp", cell)] (.ref cd) (.ref ct) = ⟨.type "function", none, .func (mfd (Str.ofString "__ge__") (Str.ofString "cmp_to_key.<locals>.K.__ge__") (mq 7 0) (mq 7 1) (mbody .GtE (mp 7 0) (mp 7 1) (mp 7 2) (mp 7 3) (mp 7 4) (mp 7 5) (mp 7 6) (mp 7 7) (mp 7 8)) cell (.str (Str.ofString "law_ij0005_01") 222) (.ref cd) (.ref ct)), #[]⟩ := by kernel_rfl
noncomputable def Key (h : Heap) (C x : Addr) (l c : Int) : Prop := ∃ dx a u v, h.get? x = some (inst C dx a) ∧ h.get? a = some (tup l c u v)
theorem Key.kp {h h' : Heap} {C x : Addr} {l c : Int} (k : Key h C x l c) (kp : Kp h h') : Key h' C x l c := by
  obtain ⟨dx, a, u, v, e1, e2⟩ := k
  exact ⟨dx, a, u, v, kp _ _ e1, kp _ _ e2⟩
theorem keyOp (hh : A.handled = none) (hd : A.depth ≤ 690) (hu : A.units ≤ 5900) (h : Heap) (g : Array GenState) (d : Drawn) (t : Nat) (os : OsState) (fa : Addr) (ffd : FuncData) (R : Int → Int → Int → Int → Int) (hcmp : CmpC w (.ref fa) R)
  (op : CmpOp) (C x y : Addr) (l c l' c' : Int) (hX : (KX w.params).In h) (hK : IsK w.params h C (.ref fa)) (hfa : h.get? fa = some ⟨.type "function", none, .func ffd, #[]⟩)
  (hx : Key h C x l c) (hy : Key h C y l' c') (hop : opOk op = true)
  (kf : ∀ h' tk, Kp h h' → Q (.bool (opB op (R l c l' c') 0)) ⟨h', g, d, tk, os⟩) :
  wpAny (MM w) A (compareOp op (.ref x) (.ref y)) Q E ⟨h, g, d, t, os⟩ := by
  obtain ⟨N, bt, md, cell, sl, st, f, cd, ct, od, vs, os', tq, tm, t1, t2, t4, t20, a1, a2, a3, a4, a5, a6⟩ := hK
  obtain ⟨dx, a, u1, u2, hx1, ha1⟩ := hx
  obtain ⟨dy, b, u3, u4, hy1, hb1⟩ := hy
  refine noE ?_
  refine (?_ : Ar _ _) (Mem.start h); intro Dm
  cases op <;> first | (cases hop; done) | skip
  · have hF := a6 (f 3, kfun 5 [(Str.ofString "mycmp", cell)] (.ref (cd 3)) (.ref (ct 3))) (by simp [kfs])
    refine (?_ : Ar _ _) (a6 (cd 3, ⟨.type "code", od 3, .fields (vs 3), os' 3⟩) (by simp [kfs])); intro hc
    obtain ⟨cx, cr, ev⟩ := vs_form (a5 3 (by decide))
    rw [ev] at hc
    dsimp only at hF hc
    rw [kf5] at hF
    show wpAny _ _ (richCompare .Eq (.ref x) (.ref y)) _ _ _
    unfold richCompare
    refine (?_ : Ar (((inst C dx a).cls != (inst C dy b).cls) = false) _) (nsC C); intro hcc
    refine (?_ : Ar (A.units < cLine) _) (Nat.lt_of_le_of_lt hu (by decide)); intro hroom
    refine (?_ : Ar _ _) (hx1); intro hx2
    refine (?_ : Ar _ _) (hy1); intro hy2
    repeat walk_at "#3;;"
    refine tlCh (v := .ref (f 3)) a1 rfl a2 (by kernel_rfl!) ?_
    repeat walk_at "#3;;"
    refine bindFn hF ?_
    repeat walk_at "#3;;"
    refine fop hh (by first | (refine lb (by assumption) ?_; rfl) | omega) (by first | (refine lb (by assumption) ?_; rfl) | omega) h g d t os fa ffd R hcmp .Eq _ _ _ _ _ _ _ _ _ _ _ _ _ cell (cd 3) (f 3) x y C N bt sl (f 0) (f 1) (f 2) (f 3) (f 4) (f 5) st md a b dx dy t1 t2 t4 tm (od 3) cx cr _ _ _ _ (os' 3) l c l' c' u1 u2 u3 u4 hX a1 a2 a3 hfa hF hc a4 hx1 hy1 ha1 hb1 rfl ?_
    intro h1 tk1 kp1
    clear Dm
    refine (?_ : Ar _ _) (Mem.start h1); intro Dm
    repeat walk_at "#3;;"

    exact kf h1 _ kp1
  · have hF := a6 (f 1, kfun 3 [(Str.ofString "mycmp", cell)] (.ref (cd 1)) (.ref (ct 1))) (by simp [kfs])
    refine (?_ : Ar _ _) (a6 (cd 1, ⟨.type "code", od 1, .fields (vs 1), os' 1⟩) (by simp [kfs])); intro hc
    obtain ⟨cx, cr, ev⟩ := vs_form (a5 1 (by decide))
    rw [ev] at hc
    dsimp only at hF hc
    rw [kf3] at hF
    show wpAny _ _ (richCompare .Lt (.ref x) (.ref y)) _ _ _
    unfold richCompare
    refine (?_ : Ar (((inst C dx a).cls != (inst C dy b).cls) = false) _) (nsC C); intro hcc
    refine (?_ : Ar (A.units < cLine) _) (Nat.lt_of_le_of_lt hu (by decide)); intro hroom
    refine (?_ : Ar _ _) (hx1); intro hx2
    refine (?_ : Ar _ _) (hy1); intro hy2
    repeat walk_at "#3;;"
    refine tlCh (v := .ref (f 1)) a1 rfl a2 (by kernel_rfl!) ?_
    repeat walk_at "#3;;"
    refine bindFn hF ?_
    repeat walk_at "#3;;"
    refine fop hh (by first | (refine lb (by assumption) ?_; rfl) | omega) (by first | (refine lb (by assumption) ?_; rfl) | omega) h g d t os fa ffd R hcmp .Lt _ _ _ _ _ _ _ _ _ _ _ _ _ cell (cd 1) (f 1) x y C N bt sl (f 0) (f 1) (f 2) (f 3) (f 4) (f 5) st md a b dx dy t1 t2 t4 tm (od 1) cx cr _ _ _ _ (os' 1) l c l' c' u1 u2 u3 u4 hX a1 a2 a3 hfa hF hc a4 hx1 hy1 ha1 hb1 rfl ?_
    intro h1 tk1 kp1
    clear Dm
    refine (?_ : Ar _ _) (Mem.start h1); intro Dm
    repeat walk_at "#3;;"

    exact kf h1 _ kp1
  · have hF := a6 (f 4, kfun 6 [(Str.ofString "mycmp", cell)] (.ref (cd 4)) (.ref (ct 4))) (by simp [kfs])
    refine (?_ : Ar _ _) (a6 (cd 4, ⟨.type "code", od 4, .fields (vs 4), os' 4⟩) (by simp [kfs])); intro hc
    obtain ⟨cx, cr, ev⟩ := vs_form (a5 4 (by decide))
    rw [ev] at hc
    dsimp only at hF hc
    rw [kf6] at hF
    show wpAny _ _ (richCompare .LtE (.ref x) (.ref y)) _ _ _
    unfold richCompare
    refine (?_ : Ar (((inst C dx a).cls != (inst C dy b).cls) = false) _) (nsC C); intro hcc
    refine (?_ : Ar (A.units < cLine) _) (Nat.lt_of_le_of_lt hu (by decide)); intro hroom
    refine (?_ : Ar _ _) (hx1); intro hx2
    refine (?_ : Ar _ _) (hy1); intro hy2
    repeat walk_at "#3;;"
    refine tlCh (v := .ref (f 4)) a1 rfl a2 (by kernel_rfl!) ?_
    repeat walk_at "#3;;"
    refine bindFn hF ?_
    repeat walk_at "#3;;"
    refine fop hh (by first | (refine lb (by assumption) ?_; rfl) | omega) (by first | (refine lb (by assumption) ?_; rfl) | omega) h g d t os fa ffd R hcmp .LtE _ _ _ _ _ _ _ _ _ _ _ _ _ cell (cd 4) (f 4) x y C N bt sl (f 0) (f 1) (f 2) (f 3) (f 4) (f 5) st md a b dx dy t1 t2 t4 tm (od 4) cx cr _ _ _ _ (os' 4) l c l' c' u1 u2 u3 u4 hX a1 a2 a3 hfa hF hc a4 hx1 hy1 ha1 hb1 rfl ?_
    intro h1 tk1 kp1
    clear Dm
    refine (?_ : Ar _ _) (Mem.start h1); intro Dm
    repeat walk_at "#3;;"

    exact kf h1 _ kp1
  · have hF := a6 (f 2, kfun 4 [(Str.ofString "mycmp", cell)] (.ref (cd 2)) (.ref (ct 2))) (by simp [kfs])
    refine (?_ : Ar _ _) (a6 (cd 2, ⟨.type "code", od 2, .fields (vs 2), os' 2⟩) (by simp [kfs])); intro hc
    obtain ⟨cx, cr, ev⟩ := vs_form (a5 2 (by decide))
    rw [ev] at hc
    dsimp only at hF hc
    rw [kf4] at hF
    show wpAny _ _ (richCompare .Gt (.ref x) (.ref y)) _ _ _
    unfold richCompare
    refine (?_ : Ar (((inst C dx a).cls != (inst C dy b).cls) = false) _) (nsC C); intro hcc
    refine (?_ : Ar (A.units < cLine) _) (Nat.lt_of_le_of_lt hu (by decide)); intro hroom
    refine (?_ : Ar _ _) (hx1); intro hx2
    refine (?_ : Ar _ _) (hy1); intro hy2
    repeat walk_at "#3;;"
    refine tlCh (v := .ref (f 2)) a1 rfl a2 (by kernel_rfl!) ?_
    repeat walk_at "#3;;"
    refine bindFn hF ?_
    repeat walk_at "#3;;"
    refine fop hh (by first | (refine lb (by assumption) ?_; rfl) | omega) (by first | (refine lb (by assumption) ?_; rfl) | omega) h g d t os fa ffd R hcmp .Gt _ _ _ _ _ _ _ _ _ _ _ _ _ cell (cd 2) (f 2) x y C N bt sl (f 0) (f 1) (f 2) (f 3) (f 4) (f 5) st md a b dx dy t1 t2 t4 tm (od 2) cx cr _ _ _ _ (os' 2) l c l' c' u1 u2 u3 u4 hX a1 a2 a3 hfa hF hc a4 hx1 hy1 ha1 hb1 rfl ?_
    intro h1 tk1 kp1
    clear Dm
    refine (?_ : Ar _ _) (Mem.start h1); intro Dm
    repeat walk_at "#3;;"

    exact kf h1 _ kp1
  · have hF := a6 (f 5, kfun 7 [(Str.ofString "mycmp", cell)] (.ref (cd 5)) (.ref (ct 5))) (by simp [kfs])
    refine (?_ : Ar _ _) (a6 (cd 5, ⟨.type "code", od 5, .fields (vs 5), os' 5⟩) (by simp [kfs])); intro hc
    obtain ⟨cx, cr, ev⟩ := vs_form (a5 5 (by decide))
    rw [ev] at hc
    dsimp only at hF hc
    rw [kf7] at hF
    show wpAny _ _ (richCompare .GtE (.ref x) (.ref y)) _ _ _
    unfold richCompare
    refine (?_ : Ar (((inst C dx a).cls != (inst C dy b).cls) = false) _) (nsC C); intro hcc
    refine (?_ : Ar (A.units < cLine) _) (Nat.lt_of_le_of_lt hu (by decide)); intro hroom
    refine (?_ : Ar _ _) (hx1); intro hx2
    refine (?_ : Ar _ _) (hy1); intro hy2
    repeat walk_at "#3;;"
    refine tlCh (v := .ref (f 5)) a1 rfl a2 (by kernel_rfl!) ?_
    repeat walk_at "#3;;"
    refine bindFn hF ?_
    repeat walk_at "#3;;"
    refine fop hh (by first | (refine lb (by assumption) ?_; rfl) | omega) (by first | (refine lb (by assumption) ?_; rfl) | omega) h g d t os fa ffd R hcmp .GtE _ _ _ _ _ _ _ _ _ _ _ _ _ cell (cd 5) (f 5) x y C N bt sl (f 0) (f 1) (f 2) (f 3) (f 4) (f 5) st md a b dx dy t1 t2 t4 tm (od 5) cx cr _ _ _ _ (os' 5) l c l' c' u1 u2 u3 u4 hX a1 a2 a3 hfa hF hc a4 hx1 hy1 ha1 hb1 rfl ?_
    intro h1 tk1 kp1
    clear Dm
    refine (?_ : Ar _ _) (Mem.start h1); intro Dm
    repeat walk_at "#3;;"

    exact kf h1 _ kp1

end Mine
namespace Mine
theorem sub_tup : isSubtype (.type "tuple") (.type "tuple") = pure true := by rw [isSubtype_type]; kernel_rfl
noncomputable def opD (op : CmpOp) (a b : Int) : Bool := match op with
  | .Eq => false
  | .NotEq => true
  | _ => opB op a b
noncomputable def opE : CmpOp → Bool
  | .Eq => true
  | .LtE => true
  | .GtE => true
  | _ => false
noncomputable def opT (op : CmpOp) (l c l' c' : Int) : Bool := if l = l' then (if c = c' then opE op else opD op c c') else opD op l l'
theorem opT0 {op : CmpOp} {l c : Int} : opT op l c l c = opE op := by unfold opT; rw [if_pos rfl, if_pos rfl]
theorem opT1 {op : CmpOp} {l c c' : Int} (n : c ≠ c') : opT op l c l c' = opD op c c' := by unfold opT; rw [if_pos rfl, if_neg n]
theorem opT2 {op : CmpOp} {l c l' c' : Int} (n : l ≠ l') : opT op l c l' c' = opD op l l' := by unfold opT; rw [if_neg n]
theorem nB0 (l : Int) : (!l == l) = false := by simp
theorem nB1 {l l' : Int} (n : l ≠ l') : (!l == l') = true := by simp [n]
section
variable {w : World} {A : Around} {E : Value → Shared → Prop} {h : Heap} {g : Array GenState} {d : Drawn} {t : Nat} {os : OsState}
theorem stopEB {M : Model} {x y : Value} {Q : Bool → Shared → Prop} {s : Shared} (h : wpAny M A (eqBool x y) Q E s) : wpAny M A (eqBool x y) Q E s := h
theorem stopRC {M : Model} {op : CmpOp} {x y : Value} {Q : Value → Shared → Prop} {s : Shared} (h : wpAny M A (richCompare op x y) Q E s) : wpAny M A (richCompare op x y) Q E s := h
theorem richI {s : Shared} {Q : Value → Shared → Prop} {op : CmpOp} {a b : Int} {t u : Tok} (ho : opOk op = true) (h : Q (.bool (opB op a b)) s) : wpAny (MM w) A (richCompare op (.int a t) (.int b u)) Q E s := by
  have := cmpI (w := w) (A := A) (E := E) (s := s) (Q := Q) (t := t) (u := u) ho h
  cases op <;> first | exact this | cases ho
variable {Q : PySem.Fin → Shared → Prop} {a b : Addr} {l c l' c' : Int} {u1 u2 u3 u4 : Tok}
theorem tup_eq (ha : h.get? a = some (tup l c u1 u2)) (hb : h.get? b = some (tup l' c' u3 u4)) (k : Q (.done (.ret (.bool (opT .Eq l c l' c')))) ⟨h, g, d, t, os⟩) :
   wpAny (MM w) A (Builtin.«tuple.__eq__» ⟨[.ref a, .ref b], []⟩) Q E ⟨h, g, d, t, os⟩ := by
  refine noE ?_
  refine (?_ : Ar _ _) (Mem.start h); intro Dm
  unfold Builtin.«tuple.__eq__»
  unfold tup at ha hb
  repeat walk_at "#3;sub_tup;EB RC"
  refine wpAny_eqBool_int ?_
  repeat walk_at "#3;sub_tup;EB RC"
  by_cases e1 : l = l'
  · subst e1
    refine iteB0 (nB0 _) ?_
    repeat walk_at "#3;sub_tup;EB RC"
    refine wpAny_eqBool_int ?_
    repeat walk_at "#3;sub_tup;EB RC"
    by_cases e2 : c = c'
    · subst e2
      rw [opT0] at k
      refine iteB0 (nB0 _) ?_
      repeat walk_at "#3;sub_tup;EB RC"
      exact k
    · rw [opT1 e2] at k
      refine iteB1 (nB1 e2) ?_
      repeat walk_at "#3;sub_tup;EB RC"
      exact k
  · rw [opT2 e1] at k
    refine iteB1 (nB1 e1) ?_
    repeat walk_at "#3;sub_tup;EB RC"
    exact k
theorem tup_ne (ha : h.get? a = some (tup l c u1 u2)) (hb : h.get? b = some (tup l' c' u3 u4)) (k : Q (.done (.ret (.bool (opT .NotEq l c l' c')))) ⟨h, g, d, t, os⟩) :
   wpAny (MM w) A (Builtin.«tuple.__ne__» ⟨[.ref a, .ref b], []⟩) Q E ⟨h, g, d, t, os⟩ := by
  refine noE ?_
  refine (?_ : Ar _ _) (Mem.start h); intro Dm
  unfold Builtin.«tuple.__ne__»
  unfold tup at ha hb
  repeat walk_at "#3;sub_tup;EB RC"
  refine wpAny_eqBool_int ?_
  repeat walk_at "#3;sub_tup;EB RC"
  by_cases e1 : l = l'
  · subst e1
    refine iteB0 (nB0 _) ?_
    repeat walk_at "#3;sub_tup;EB RC"
    refine wpAny_eqBool_int ?_
    repeat walk_at "#3;sub_tup;EB RC"
    by_cases e2 : c = c'
    · subst e2
      rw [opT0] at k
      refine iteB0 (nB0 _) ?_
      repeat walk_at "#3;sub_tup;EB RC"
      exact k
    · rw [opT1 e2] at k
      refine iteB1 (nB1 e2) ?_
      repeat walk_at "#3;sub_tup;EB RC"
      exact k
  · rw [opT2 e1] at k
    refine iteB1 (nB1 e1) ?_
    repeat walk_at "#3;sub_tup;EB RC"
    exact k
theorem tup_lt (ha : h.get? a = some (tup l c u1 u2)) (hb : h.get? b = some (tup l' c' u3 u4)) (k : Q (.done (.ret (.bool (opT .Lt l c l' c')))) ⟨h, g, d, t, os⟩) :
   wpAny (MM w) A (Builtin.«tuple.__lt__» ⟨[.ref a, .ref b], []⟩) Q E ⟨h, g, d, t, os⟩ := by
  refine noE ?_
  refine (?_ : Ar _ _) (Mem.start h); intro Dm
  unfold Builtin.«tuple.__lt__»
  unfold tup at ha hb
  repeat walk_at "#3;sub_tup;EB RC"
  refine wpAny_eqBool_int ?_
  repeat walk_at "#3;sub_tup;EB RC"
  by_cases e1 : l = l'
  · subst e1
    refine iteB0 (nB0 _) ?_
    repeat walk_at "#3;sub_tup;EB RC"
    refine wpAny_eqBool_int ?_
    repeat walk_at "#3;sub_tup;EB RC"
    by_cases e2 : c = c'
    · subst e2
      rw [opT0] at k
      refine iteB0 (nB0 _) ?_
      repeat walk_at "#3;sub_tup;EB RC"
      exact k
    · rw [opT1 e2] at k
      refine iteB1 (nB1 e2) ?_
      repeat walk_at "#3;sub_tup;EB RC"
      refine richI rfl ?_
      repeat walk_at "#3;sub_tup;EB RC"
      exact k
  · rw [opT2 e1] at k
    refine iteB1 (nB1 e1) ?_
    repeat walk_at "#3;sub_tup;EB RC"
    refine richI rfl ?_
    repeat walk_at "#3;sub_tup;EB RC"
    exact k
theorem tup_le (ha : h.get? a = some (tup l c u1 u2)) (hb : h.get? b = some (tup l' c' u3 u4)) (k : Q (.done (.ret (.bool (opT .LtE l c l' c')))) ⟨h, g, d, t, os⟩) :
   wpAny (MM w) A (Builtin.«tuple.__le__» ⟨[.ref a, .ref b], []⟩) Q E ⟨h, g, d, t, os⟩ := by
  refine noE ?_
  refine (?_ : Ar _ _) (Mem.start h); intro Dm
  unfold Builtin.«tuple.__le__»
  unfold tup at ha hb
  repeat walk_at "#3;sub_tup;EB RC"
  refine wpAny_eqBool_int ?_
  repeat walk_at "#3;sub_tup;EB RC"
  by_cases e1 : l = l'
  · subst e1
    refine iteB0 (nB0 _) ?_
    repeat walk_at "#3;sub_tup;EB RC"
    refine wpAny_eqBool_int ?_
    repeat walk_at "#3;sub_tup;EB RC"
    by_cases e2 : c = c'
    · subst e2
      rw [opT0] at k
      refine iteB0 (nB0 _) ?_
      repeat walk_at "#3;sub_tup;EB RC"
      exact k
    · rw [opT1 e2] at k
      refine iteB1 (nB1 e2) ?_
      repeat walk_at "#3;sub_tup;EB RC"
      refine richI rfl ?_
      repeat walk_at "#3;sub_tup;EB RC"
      exact k
  · rw [opT2 e1] at k
    refine iteB1 (nB1 e1) ?_
    repeat walk_at "#3;sub_tup;EB RC"
    refine richI rfl ?_
    repeat walk_at "#3;sub_tup;EB RC"
    exact k
theorem tup_ge (ha : h.get? a = some (tup l c u1 u2)) (hb : h.get? b = some (tup l' c' u3 u4)) (k : Q (.done (.ret (.bool (opT .GtE l c l' c')))) ⟨h, g, d, t, os⟩) :
   wpAny (MM w) A (Builtin.«tuple.__ge__» ⟨[.ref a, .ref b], []⟩) Q E ⟨h, g, d, t, os⟩ := by
  refine noE ?_
  refine (?_ : Ar _ _) (Mem.start h); intro Dm
  unfold Builtin.«tuple.__ge__»
  unfold tup at ha hb
  repeat walk_at "#3;sub_tup;EB RC"
  refine wpAny_eqBool_int ?_
  repeat walk_at "#3;sub_tup;EB RC"
  by_cases e1 : l = l'
  · subst e1
    refine iteB0 (nB0 _) ?_
    repeat walk_at "#3;sub_tup;EB RC"
    refine wpAny_eqBool_int ?_
    repeat walk_at "#3;sub_tup;EB RC"
    by_cases e2 : c = c'
    · subst e2
      rw [opT0] at k
      refine iteB0 (nB0 _) ?_
      repeat walk_at "#3;sub_tup;EB RC"
      exact k
    · rw [opT1 e2] at k
      refine iteB1 (nB1 e2) ?_
      repeat walk_at "#3;sub_tup;EB RC"
      refine richI rfl ?_
      repeat walk_at "#3;sub_tup;EB RC"
      exact k
  · rw [opT2 e1] at k
    refine iteB1 (nB1 e1) ?_
    repeat walk_at "#3;sub_tup;EB RC"
    refine richI rfl ?_
    repeat walk_at "#3;sub_tup;EB RC"
    exact k
end
section
variable {w : World} {A : Around} {E : Value → Shared → Prop} {h : Heap} {g : Array GenState} {d : Drawn} {t : Nat} {os : OsState} {Q : Value → Shared → Prop} {a b : Addr} {l c l' c' : Int} {u1 u2 u3 u4 : Tok}
theorem tupO_eq (hu : A.units < cLine) (ha : h.get? a = some (tup l c u1 u2)) (hb : h.get? b = some (tup l' c' u3 u4)) (k : Q (.bool (opT .Eq l c l' c')) ⟨h, g, d, t, os⟩) : wpAny (MM w) A (compareOp .Eq (.ref a) (.ref b)) Q E ⟨h, g, d, t, os⟩ :=
  wpAny_richCompare_same_room (op := .Eq) (T := "tuple") ⟨_, ha, rfl⟩ ⟨_, hb, rfl⟩ PySem.F.slot_tuple_eq (wpAny_call_entry PySem.F.slot_tuple_eq ⟨_, ha, rfl⟩ PySem.F.entry_tuple_eq (tup_eq ha hb ⟨_, rfl, ⟨(fun e => nomatch e), k⟩⟩) (PySem.F.args_tuple_eq_2 _ _)) hu
theorem tupO_ne (hu : A.units < cLine) (ha : h.get? a = some (tup l c u1 u2)) (hb : h.get? b = some (tup l' c' u3 u4)) (k : Q (.bool (opT .NotEq l c l' c')) ⟨h, g, d, t, os⟩) : wpAny (MM w) A (compareOp .NotEq (.ref a) (.ref b)) Q E ⟨h, g, d, t, os⟩ :=
  wpAny_richCompare_same_room (op := .NotEq) (T := "tuple") ⟨_, ha, rfl⟩ ⟨_, hb, rfl⟩ PySem.F.slot_tuple_ne (wpAny_call_entry PySem.F.slot_tuple_ne ⟨_, ha, rfl⟩ PySem.F.entry_tuple_ne (tup_ne ha hb ⟨_, rfl, ⟨(fun e => nomatch e), k⟩⟩) (PySem.F.args_tuple_ne_2 _ _)) hu
theorem tupO_lt (hu : A.units < cLine) (ha : h.get? a = some (tup l c u1 u2)) (hb : h.get? b = some (tup l' c' u3 u4)) (k : Q (.bool (opT .Lt l c l' c')) ⟨h, g, d, t, os⟩) : wpAny (MM w) A (compareOp .Lt (.ref a) (.ref b)) Q E ⟨h, g, d, t, os⟩ :=
  wpAny_richCompare_same_room (op := .Lt) (T := "tuple") ⟨_, ha, rfl⟩ ⟨_, hb, rfl⟩ PySem.F.slot_tuple_lt (wpAny_call_entry PySem.F.slot_tuple_lt ⟨_, ha, rfl⟩ PySem.F.entry_tuple_lt (tup_lt ha hb ⟨_, rfl, ⟨(fun e => nomatch e), k⟩⟩) (PySem.F.args_tuple_lt_2 _ _)) hu
theorem tupO_le (hu : A.units < cLine) (ha : h.get? a = some (tup l c u1 u2)) (hb : h.get? b = some (tup l' c' u3 u4)) (k : Q (.bool (opT .LtE l c l' c')) ⟨h, g, d, t, os⟩) : wpAny (MM w) A (compareOp .LtE (.ref a) (.ref b)) Q E ⟨h, g, d, t, os⟩ :=
  wpAny_richCompare_same_room (op := .LtE) (T := "tuple") ⟨_, ha, rfl⟩ ⟨_, hb, rfl⟩ PySem.F.slot_tuple_le (wpAny_call_entry PySem.F.slot_tuple_le ⟨_, ha, rfl⟩ PySem.F.entry_tuple_le (tup_le ha hb ⟨_, rfl, ⟨(fun e => nomatch e), k⟩⟩) (PySem.F.args_tuple_le_2 _ _)) hu
theorem tupO_ge (hu : A.units < cLine) (ha : h.get? a = some (tup l c u1 u2)) (hb : h.get? b = some (tup l' c' u3 u4)) (k : Q (.bool (opT .GtE l c l' c')) ⟨h, g, d, t, os⟩) : wpAny (MM w) A (compareOp .GtE (.ref a) (.ref b)) Q E ⟨h, g, d, t, os⟩ :=
  wpAny_richCompare_same_room (op := .GtE) (T := "tuple") ⟨_, ha, rfl⟩ ⟨_, hb, rfl⟩ PySem.F.slot_tuple_ge (wpAny_call_entry PySem.F.slot_tuple_ge ⟨_, ha, rfl⟩ PySem.F.entry_tuple_ge (tup_ge ha hb ⟨_, rfl, ⟨(fun e => nomatch e), k⟩⟩) (PySem.F.args_tuple_ge_2 _ _)) hu
end

end Mine
namespace Mine
noncomputable def spL : Expr := match PySem.Challenge.pw_ij0005_01.main.body[(12 : Nat)]? with | some (.FunctionDef _ _ b _ _ _ _ _ _ _) => (match b[(1 : Nat)]? with | some (.Assign _ e _) => e | _ => .Name Str.empty ⟨0, 0, 0, 0⟩) | _ => .Name Str.empty ⟨0, 0, 0, 0⟩
noncomputable def lsc : Scope := match spL with | .Lambda _ _ s _ => s | _ => default
noncomputable def spBd : Expr := match spL with | .Lambda _ b _ _ => b | _ => .Name Str.empty ⟨0, 0, 0, 0⟩
noncomputable def noArgs : Arguments := match spL with | .Lambda a _ _ _ => a | _ => default
noncomputable def spfd (cf cb c2 ct : Addr) : FuncData := { name := Str.ofString "<lambda>", qualname := Str.ofString "_law_hit.<locals>.<lambda>", params := noArgs, body := .expr spBd, scope := lsc, globals := mainGlobals, closure := [(Str.ofString "first", cf), (Str.ofString "behind", cb)], defaults := .none, kwdefaults := .none, doc := .none, pyModule := .str (Str.ofString "law_ij0005_01") 222, annotations := none, code := .ref c2, closureTuple := .ref ct, builtins := builtinsNs }
noncomputable def cellO (v : Addr) : Obj := ⟨.type "cell", none, .cell (some (.ref v)), #[]⟩
noncomputable def SpP (h : Heap) (sp x y : Addr) : Prop := ∃ (cf cb c2 ct : Addr) (ox : Value) (od : Option Addr) (os : Array (Option Value)) (or : List Value) (ot : Tok), h.get? sp = some ⟨.type "function", none, .func (spfd cf cb c2 ct), #[]⟩ ∧ h.get? cf = some (cellO x) ∧ h.get? cb = some (cellO y) ∧ h.get? c2 = some ⟨.type "code", od, .fields ⟨ox :: .str (Str.ofString "_law_hit.<locals>.<lambda>") ot :: or⟩, os⟩
noncomputable def HitP (h : Heap) (hit x y z : Addr) : Prop := ∃ (dd sp : Addr) (fd : FuncData) (n1 n2 n3 : Int) (t1 t2 t3 : Tok), h.get? hit = some ⟨.type "function", some dd, .func fd, #[]⟩ ∧
  h.get? dd = some ⟨.type "dict", none, .dict ⟨[⟨n1, .str (Str.ofString "span") t1, .ref sp⟩, ⟨n2, .str (Str.ofString "first") t2, .ref x⟩, ⟨n3, .str (Str.ofString "told") t3, .ref z⟩]⟩ 3, #[]⟩ ∧ SpP h sp x y
/-- the objects that a hit is made of -/
noncomputable def HO (x y : Addr) (o : Obj) : Prop := (o.cls = .type "function" ∨ o.cls = .type "code") ∨ (∃ e es n k t, o = ⟨.type "dict", none, .dict ⟨e :: es⟩ n, #[]⟩ ∧ e.key = .str k t ∧ k ≠ Str.ofString "find") ∨ o = cellO x ∨ o = cellO y
theorem HO.cls {x y : Addr} {o : Obj} (c : HO x y o) : o.cls ≠ .none := by
  rcases c with (a | a) | ⟨_, _, _, _, _, rfl, _⟩ | rfl | rfl
  · rw [a]; simp
  · rw [a]; simp
  · simp
  · simp [cellO]
  · simp [cellO]
theorem SpP.kq {h h' : Heap} {sp x y : Addr} (s : SpP h sp x y) (k : ∀ b o, h.get? b = some o → HO x y o → h'.get? b = some o) : SpP h' sp x y := by
  obtain ⟨cf, cb, c2, ct, ox, od, os, or, ot, a1, a2, a3, a4⟩ := s
  exact ⟨cf, cb, c2, ct, ox, od, os, or, ot, k _ _ a1 (.inl (.inl rfl)), k _ _ a2 (.inr (.inr (.inl rfl))), k _ _ a3 (.inr (.inr (.inr rfl))), k _ _ a4 (.inl (.inr rfl))⟩
theorem HitP.kq {h h' : Heap} {hit x y z : Addr} (H : HitP h hit x y z) (k : ∀ b o, h.get? b = some o → HO x y o → h'.get? b = some o) : HitP h' hit x y z := by
  obtain ⟨dd, sp, fd, n1, n2, n3, t1, t2, t3, a1, a2, a3⟩ := H
  exact ⟨dd, sp, fd, n1, n2, n3, t1, t2, t3, k _ _ a1 (.inl (.inl rfl)), k _ _ a2 (.inr (.inl ⟨_, _, _, _, _, rfl, rfl, by decide⟩)), a3.kq k⟩
theorem SpP.kp {h h' : Heap} {sp x y : Addr} (s : SpP h sp x y) (k : Kp h h') : SpP h' sp x y := s.kq fun b o e _ => k b o e
theorem HitP.kp {h h' : Heap} {hit x y z : Addr} (H : HitP h hit x y z) (k : Kp h h') : HitP h' hit x y z := H.kq fun b o e _ => k b o e
theorem HitP.f {h : Heap} {hit x y z : Addr} (H : HitP h hit x y z) : ∃ dd fd, h.get? hit = some ⟨.type "function", some dd, .func fd, #[]⟩ := by
  obtain ⟨dd, _, fd, _, _, _, _, _, _, e, _⟩ := H
  exact ⟨dd, fd, e⟩
theorem SpP.f {h : Heap} {sp x y : Addr} (s : SpP h sp x y) : ∃ fd, h.get? sp = some ⟨.type "function", none, .func fd, #[]⟩ := by
  obtain ⟨_, _, _, _, _, _, _, _, _, e, _⟩ := s
  exact ⟨_, e⟩

end Mine
namespace Mine
noncomputable def schDef : Stmt := match PySem.Challenge.pw_ij0005_01.main.body[(13 : Nat)]? with
  | some (.FunctionDef _ _ (b :: _) _ _ _ _ _ _ _) => b
  | _ => .Return none ⟨0, 0, 0, 0⟩
noncomputable def schArgs : Arguments := match schDef with | .FunctionDef _ a _ _ _ _ _ _ _ _ => a | _ => default
noncomputable def schBody : List Stmt := match schDef with | .FunctionDef _ _ b _ _ _ _ _ _ _ => b | _ => []
noncomputable def schSc : Scope := match schDef with | .FunctionDef _ _ _ _ _ _ s _ _ _ => s | _ => default
noncomputable def schfd (c dt : Addr) : FuncData := { name := Str.ofString "search", qualname := Str.ofString "_law_program.<locals>.search", params := schArgs, body := .stmts schBody, scope := schSc, globals := mainGlobals, closure := [], defaults := .ref dt, kwdefaults := .none, doc := .none, pyModule := .str (Str.ofString "law_ij0005_01") 222, annotations := none, code := .ref c, closureTuple := .none, builtins := builtinsNs }
noncomputable def SfP (h : Heap) (sf : Addr) : Prop := ∃ (c dt : Addr) (ox : Value) (od : Option Addr) (os : Array (Option Value)) (or : List Value) (ot : Tok), h.get? sf = some ⟨.type "function", none, .func (schfd c dt), #[]⟩ ∧ h.get? c = some ⟨.type "code", od, .fields ⟨ox :: .str (Str.ofString "_law_program.<locals>.search") ot :: or⟩, os⟩ ∧ h.get? dt = some ⟨.type "tuple", none, .seq #[.none] 0, #[]⟩
noncomputable def ProgP (h : Heap) (prog : Addr) : Prop := ∃ (dd sf : Addr) (fd : FuncData) (n1 : Int) (t1 : Tok), h.get? prog = some ⟨.type "function", some dd, .func fd, #[]⟩ ∧ h.get? dd = some ⟨.type "dict", none, .dict ⟨[⟨n1, .str (Str.ofString "search") t1, .ref sf⟩]⟩ 1, #[]⟩ ∧ SfP h sf
theorem ProgP.kd {h h' : Heap} {p : Addr} (H : ProgP h p) (k : ∀ b o, h.get? b = some o → (o.cls = .type "function" ∨ o.cls = .type "code" ∨ o.cls = .type "tuple" ∨ o.cls = .type "dict") → h'.get? b = some o) : ProgP h' p := by
  obtain ⟨dd, sf, fd, n1, t1, a1, a2, c, dt, ox, od, os, or, ot, b1, b2, b3⟩ := H
  exact ⟨dd, sf, fd, n1, t1, k _ _ a1 (.inl rfl), k _ _ a2 (.inr (.inr (.inr rfl))), c, dt, ox, od, os, or, ot, k _ _ b1 (.inl rfl), k _ _ b2 (.inr (.inl rfl)), k _ _ b3 (.inr (.inr (.inl rfl)))⟩
theorem ProgP.kp {h h' : Heap} {p : Addr} (H : ProgP h p) (k : Kp h h') : ProgP h' p := H.kd fun b o e _ => k b o e
theorem ProgP.f {h : Heap} {p : Addr} (H : ProgP h p) : ∃ dd fd, h.get? p = some ⟨.type "function", some dd, .func fd, #[]⟩ := by
  obtain ⟨dd, _, fd, _, _, e, _⟩ := H
  exact ⟨dd, fd, e⟩
theorem SfP.f {h : Heap} {sf : Addr} (s : SfP h sf) : ∃ fd, h.get? sf = some ⟨.type "function", none, .func fd, #[]⟩ := by
  obtain ⟨_, _, _, _, _, _, _, e, _⟩ := s
  exact ⟨_, e⟩
theorem SfP.kp {h h' : Heap} {sf : Addr} (s : SfP h sf) (k : Kp h h') : SfP h' sf := by
  obtain ⟨c, dt, ox, od, os, or, ot, a1, a2, a3⟩ := s
  exact ⟨c, dt, ox, od, os, or, ot, k _ _ a1, k _ _ a2, k _ _ a3⟩

end Mine
namespace Mine
theorem tl_fg : typeLookup (.type "function") (Str.ofString "__getattribute__") = pure (some (.builtin "object.__getattribute__")) := by rw [typeLookup_type, builtinLookup_eq_fast]; kernel_rfl
theorem slot_fg : Slot "function" (Str.ofString "__getattribute__") "object.__getattribute__" :=
  .of (owner := "object") (n := "__getattribute__") tl_fg (by decide +kernel) (by decide +kernel) (by decide +kernel)
    (by first | exact .inl (by decide +kernel) | exact .inr (by decide +kernel)) (by rw [isSubtype_type]; kernel_rfl)
theorem entry_fg : entryFor table "object.__getattribute__" = some Builtin.«object.__getattribute__» := entryFor_of_tree (by kernel_rfl)
theorem args_fg (a b : Value) : argsOk "object.__getattribute__" ⟨[a, b], []⟩ := by kernel_rfl
theorem tl_ffirst : typeLookup (.type "function") (Str.ofString "first") = pure none := by rw [typeLookup_type, builtinLookup_eq_fast]; kernel_rfl
theorem tl_ftold : typeLookup (.type "function") (Str.ofString "told") = pure none := by rw [typeLookup_type, builtinLookup_eq_fast]; kernel_rfl
theorem tl_fa : typeLookup (.type "function") (Str.ofString "__getattr__") = pure none := by rw [typeLookup_type, builtinLookup_eq_fast]; kernel_rfl
theorem tl_fsearch : typeLookup (.type "function") (Str.ofString "search") = pure none := by rw [typeLookup_type, builtinLookup_eq_fast]; kernel_rfl
theorem tl_fspan : typeLookup (.type "function") (Str.ofString "span") = pure none := by rw [typeLookup_type, builtinLookup_eq_fast]; kernel_rfl
theorem can_o : (Manifest.canonical "object.__getattribute__" != "object.__getattribute__") = false := PySem.F.canon_object_ga
theorem gmFn {M : Model} {A : Around} {E : Value → Shared → Prop} {s : Shared} {f : Addr} {nm : Str} {pl : Sem Bool} {dd : Option Addr} {da : Data} {sl : Array (Option Value)} {Q : Value × List Value → Shared → Prop} (hf : s.heap.get? f = some ⟨.type "function", dd, da, sl⟩) (hl : typeLookup (.type "function") nm = pure none)
    (hq : wpAny M A (getAttr (.ref f) nm) (fun v s => Q (v, []) s) E s) : wpAny M A (getMethod (.ref f) nm pl) Q E s := by
  have hT : s.TypeIs (.ref f) "function" := ⟨_, hf, rfl⟩
  unfold getMethod
  refine wpAny_bind (wpAny_specialOf hT tl_fg ?_)
  dsimp only
  rw [can_o, if_neg Bool.false_ne_true]
  refine wpAny_bind (wpAny_specialOf hT tl_fa ?_)
  dsimp only [Option.isSome]
  rw [if_neg Bool.false_ne_true]
  refine wpAny_bind (wpAny_specialOf hT hl ?_)
  exact wpAny_bind (wpAny_mono hq (fun _ _ x => wpAny_pure x) fun _ _ x => x)
theorem memKp {h₀ h h' : Heap} {news : List (Addr × Obj)} (D : Mem h₀ h [] news) (k : Kp h h') : Mem h₀ h' [] news :=
  ⟨fun b o e c => k _ _ (D.keep b o e c), fun _ hp => (nomatch hp), List.nodup_nil, fun p hp => ⟨k _ _ (D.nw p hp).1, (D.nw p hp).2⟩, D.ord⟩
theorem memSet {h₀ h h' : Heap} {news : List (Addr × Obj)} {a : Addr} {o o' : Obj} (D : Mem h₀ h [] news) (i : Nat) (hi : news[i]? = some (a, o)) (eb : Heap.ExtBut a h h') (ha : h'.get? a = some o') : Mem h₀ h' [] (news.set i (a, o')) := by
  have hm : (a, o) ∈ news := List.mem_of_getElem? hi
  have hk : (news.set i (a, o')).map (·.1) = news.map (·.1) := by
    rw [List.map_set]
    exact set_same (by rw [List.getElem?_map, hi]; rfl)
  have nd : ((news.set i (a, o')).map (·.1)).Nodup := by rw [hk]; exact D.ord.imp fun h => Nat.ne_of_gt h
  have hil : i < news.length := by
    rcases Nat.lt_or_ge i news.length with q | q
    · exact q
    · rw [List.getElem?_eq_none q] at hi; cases hi
  refine ⟨fun b ob e c => eb b ob ?_ (D.keep b ob e c), fun _ hp => (nomatch hp), List.nodup_nil, fun p hp => ?_, hk ▸ D.ord⟩
  · rintro rfl
    have := (D.nw _ hm).2
    rw [e] at this; cases this
  · by_cases q : p.1 = a
    · have : p = (a, o') := key_unique nd hp (List.mem_set hil _) q
      subst this
      exact ⟨ha, (D.nw _ hm).2⟩
    · rcases List.mem_or_eq_of_mem_set hp with z | z
      · exact ⟨eb _ _ q (D.nw p z).1, (D.nw p z).2⟩
      · subst z; exact absurd rfl q
section
variable {M : Model} {A : Around} {E : Value → Shared → Prop} {s : Shared}
theorem stopGM {o : Value} {x : Str} {b : Sem Bool} {Q : Value × List Value → Shared → Prop} (h : wpAny M A (getMethod o x b) Q E s) : wpAny M A (getMethod o x b) Q E s := h
theorem stopPN {v : Value} {Q : Option Value → Shared → Prop} (h : wpAny M A (pyNext v) Q E s) : wpAny M A (pyNext v) Q E s := h
theorem stopPI {v : Value} {Q : Value → Shared → Prop} (h : wpAny M A (pyIter v) Q E s) : wpAny M A (pyIter v) Q E s := h
theorem stopCO {op : CmpOp} {a b : Addr} {Q : Value → Shared → Prop} (h : wpAny M A (compareOp op (.ref a) (.ref b)) Q E s) : wpAny M A (compareOp op (.ref a) (.ref b)) Q E s := h
end
theorem pyIterM {w : World} {A : Around} {E : Value → Shared → Prop} {h₀ h : Heap} {g : Array GenState} {d : Drawn} {t : Nat} {os : OsState} {news : List (Addr × Obj)} {l : Addr} {xs : Array Value} {nx : Nat} {Q : Value → Shared → Prop} (D : Mem h₀ h [] news) (hl : h.get? l = some ⟨.type "list", none, .seq xs nx, #[]⟩)
    (k : ∀ it h', Mem h₀ h' [] ((it, ⟨.type "list_iterator", none, .fields #[.ref l, .int 0 0], #[]⟩) :: news) → Q (.ref it) ⟨h', g, d, t, os⟩) : wpAny (MM w) A (pyIter (.ref l)) Q E ⟨h, g, d, t, os⟩ :=
  wpAny_pyIter_list ⟨_, hl, rfl, _, rfl⟩ (k _ _ (D.alloc rfl))
noncomputable def senv (L sf c : Addr) : Env := { scope := schSc, locals := L, globals := mainGlobals, cells := [], qual := Str.ofString "_law_program.<locals>.search.<locals>.", func := some sf, code := .ref c, frame := some L, builtins := builtinsNs }
noncomputable def itO (l : Addr) (i : Nat) (dd : Option Addr) (sl : Array (Option Value)) : Obj := ⟨.type "list_iterator", dd, .fields #[.ref l, .int i 0], sl⟩
noncomputable def frO (es : Array DictEntry) (n : Nat) : Obj := ⟨.type "frame", none, .dict es n, #[]⟩
theorem itO_of {h : Heap} {it l : Addr} {i : Nat} (x : h.IsListIter it l i) : ∃ dd sl, h.get? it = some (itO l i dd sl) := by
  obtain ⟨⟨c, dd, da, sl⟩, e1, e2, e3⟩ := x
  simp only at e2 e3
  subst e2 e3
  exact ⟨dd, sl, e1⟩
theorem of_itO {h : Heap} {it l : Addr} {i : Nat} {dd : Option Addr} {sl : Array (Option Value)} (x : h.get? it = some (itO l i dd sl)) : h.IsListIter it l i := ⟨_, x, rfl, rfl⟩

end Mine
namespace Mine
section
variable {w : World} {h : Heap}
theorem makesC {C N bt : Addr} {t1 t2 : Tok} (hC : h.get? C = some (kclsObj C N bt t1 t2)) : Makes (MM w) h C := by
  unfold kclsObj at hC
  refine ⟨⟨_, _, _, _, hC, rfl, rfl, rfl⟩, ?_, ?_, ?_, ?_, ?_, ?_⟩
  all_goals
    intro A Q E s kk q
    obtain ⟨h', g, d, t, os⟩ := s
    refine (?_ : Ar _ _) (kk _ _ hC); intro hC1
    refine (?_ : Ar _ _) (Mem.start h'); intro Dm
  · repeat walk_at "#1;;"
    exact q
  · repeat walk_at "#1;;"
    exact q
  · unfold isSubtype
    repeat walk_at "#1;;"
    simpa using q
  · unfold isSubtype
    repeat walk_at "#1;;"
    simpa using q
  · repeat walk_at "#1;tlTC st3;"
    exact q
  · repeat walk_at "#1;tlTC st3;"
    exact q
end
section
variable {w : World} {A : Around} {E : Value → Shared → Prop} {h : Heap} {g : Array GenState} {d : Drawn} {t : Nat} {os : OsState} {Q : Value → Shared → Prop}
theorem ty_sa : typeOf (.builtin "object.__setattr__") = pure (.type "wrapper_descriptor") := by show builtinType _ = _; rw [builtinType_eq_fast]; kernel_rfl
theorem bs_sa (v : Value) : bindSpecial (.builtin "object.__setattr__") v = pure (.builtin "object.__setattr__", [v]) := by unfold bindSpecial; rw [ty_sa]; rfl
theorem isObj {h : Heap} {x C dx N bt : Addr} {t1 t2 : Tok} {da : Data} {sl : Array (Option Value)} (hx : h.get? x = some ⟨.ref C, some dx, da, sl⟩) (hC : h.get? C = some (kclsObj C N bt t1 t2)) : Looks (MM w) h (isInstance (.ref x) (.type "object")) true := by
  unfold kclsObj at hC
  intro A Q E s kk q
  obtain ⟨h', g, d, t, os⟩ := s
  refine (?_ : Ar _ _) (kk _ _ hC); intro hC1
  refine (?_ : Ar _ _) (kk _ _ hx); intro hx1
  refine (?_ : Ar _ _) (Mem.start h'); intro Dm
  repeat walk_at "#1;;"
  unfold isSubtype
  repeat walk_at "#1;;"
  simpa using q
theorem msetC {s : Shared} {p x : Addr} {v : Value} {R : Result → Shared → Prop} {o : Obj} (ho : s.heap.get? p = some o) (hc : o.cls = .type "member_descriptor")
  (h : wpAny (MM w) A.in1 (Builtin.«member_descriptor.__set__» ⟨[.ref p, .ref x, v], []⟩) (fun fin s' => match fin with | .done f => R (.ok f) s' | .again c' => c'.quiet = true ∧ codeAny (MM w) A c' R s') (fun e s' => R (.error e) s') s) :
  codeAny (MM w) A (.call (.builtin "member_descriptor.__set__") ⟨[.ref p, .ref x, v], []⟩) R s :=
  codeAny_call_builtin KF.slot_mset.plain KF.entry_mset (KF.slot_mset.check _ _ _ s (.ref p) [.ref x, v] [] _ ⟨_, ho, hc⟩ (KF.args_mset _ _ _) h)
theorem osaC {s : Shared} {self n v : Value} {R : Result → Shared → Prop} (L : Looks (MM w) s.heap (isInstance self (.type "object")) true)
  (h : wpAny (MM w) A.in1 (Builtin.«object.__setattr__» ⟨[self, n, v], []⟩) (fun fin s' => match fin with | .done f => R (.ok f) s' | .again c' => c'.quiet = true ∧ codeAny (MM w) A c' R s') (fun e s' => R (.error e) s') s) :
  codeAny (MM w) A (.call (.builtin "object.__setattr__") ⟨[self, n, v], []⟩) R s := by
  have SF := PySem.F.store_object
  exact codeAny_call_builtin SF.slot.plain SF.entry (@check_slot (MM w) _ _ s "object.__setattr__" "object" "__setattr__" self [n, v] [] _ SF.kind SF.split L (SF.args self _ _) h)
noncomputable def ienv (L fI cd : Addr) : Env := { scope := isc, locals := L, globals := mainGlobals, cells := [], qual := Str.ofString "cmp_to_key.<locals>.K.__init__.<locals>.", func := some fI, code := .ref cd, frame := some L, builtins := builtinsNs }
theorem iniW (hh : A.handled = none) (hd : A.depth ≤ 790) (hu : A.units ≤ 8920) (X : (KX w.params).In h) {C N bt sl fI fL fG fE fLe fGe sa md cd a : Addr} {t1 t2 t3 t4 : Tok} {tt : Nat → Tok} {od : Option Addr} {os' : Array (Option Value)} {cx : Value} {cr : List Value}
   (hC : h.get? C = some (kclsObj C N bt t1 t2)) (hN : h.get? N = some (knsObj w.params sl fI fL fG fE fLe fGe sa md tt))
   (hF : h.get? fI = some (kfun 2 [] (.ref cd) .none))
   (hcd : h.get? cd = some ⟨.type "code", od, .fields ⟨cx :: .str (Str.ofString "cmp_to_key.<locals>.K.__init__") t3 :: cr⟩, os'⟩)
   (hmd : h.get? md = some (mdObj C t4))
   {x dx : Addr} {h0 : Heap} {R : Result → Shared → Prop} (D0 : Mem h h0 [] [(x, instObj C dx), (dx, emptyDict)])
   (k : ∀ h' tk, Kp h h' → h'.get? x = some (inst C dx a) → R (.ok (.ret .none)) ⟨h', g, d, tk, os⟩) : codeAny (MM w) A (.call (.ref fI) ⟨[.ref x, .ref a], []⟩) R ⟨h0, g, d, t, os⟩ := by
  unfold kfun at hF
  refine (?_ : Ar _ _) D0; intro Dm
  clear D0
  refine codeAny_of_tree ?_
  show wpAny _ _ (callAny (.ref fI) _) _ _ _
  refine noE ?_
  repeat walk_at "#3;;Set Get EF FC GA"
  refine allocB ((?_ : Aa _ _ _ _ _ _ (frO #[] 0) _) _ _ (Mem.alloc Dm rfl))
  clear Dm; intro L hL Dm
  repeat walk_at "#3;;Set Get EF FC GA"
  refine nsSetB rfl Dm 0 rfl (by kernel_rfl!) ((?_ : Au _ _ _ _ _ _ _) _ (nsPutD (o' := fun tk => frO #[en w.params "self" tk (.ref x)] 1) Dm 0 rfl (by intro tk; kernel_rfl!) (fun _ => rfl)))
  clear Dm; intro hL2 Dm; dsimp only [List.set] at Dm
  repeat walk_at "#3;;Set Get EF FC GA"
  refine nsSetB rfl Dm 0 rfl (by kernel_rfl!) ((?_ : Au _ _ _ _ _ _ _) _ (nsPutD (o' := fun tk => frO #[en w.params "self" t (.ref x), en w.params "obj" tk (.ref a)] 2) Dm 0 rfl (by intro tk; kernel_rfl!) (fun _ => rfl)))
  clear Dm; intro hL3 Dm; dsimp only [List.set] at Dm
  repeat walk_at "#3;;Set Get EF FC GA"
  refine wpAny_enterFrame (nolim (X.keeps (kp_mem Dm))) (Nat.lt_of_le_of_lt hd (by decide)) ?_
  repeat walk_at "#3;;Set Get EF FC GA"
  refine ⟨rfl, codeAny_func (body := kbod 2) (env := ienv L fI cd) ?_⟩
  refine (?_ : Ar ((A.deeper (ienv L fI cd)).handled = none) _) (hh); intro dh
  refine (?_ : Ar ((A.deeper (ienv L fI cd)).depth ≤ 800) _) (by show A.depth + 1 ≤ 800; exact lbk 1 hd rfl); intro dd
  refine (?_ : Ar ((A.deeper (ienv L fI cd)).units ≤ 8950) _) (by show A.units + 3 ≤ 8950; exact lbk 3 hu rfl); intro du
  refine (?_ : Ar ((A.deeper (ienv L fI cd)).units < cLine) _) (Nat.lt_of_le_of_lt du (by decide)); intro hroom
  refine noE ?_
  repeat walk_at "#3;;Set Get EF FC GA"
  refine nsGetM (r := some (.ref a)) Dm 0 rfl (by kernel_rfl!) ?_
  repeat walk_at "#3;;Set Get EF FC GA"
  refine nsGetM (r := some (.ref x)) Dm 0 rfl (by kernel_rfl!) ?_
  repeat walk_at "#3;;Set Get EF FC GA"
  refine tlC (r := some (.builtin "object.__setattr__")) (kp_mem Dm _ _ hC) rfl (kp_mem Dm _ _ hN) (by kernel_rfl!) (by kernel_rfl!) ?_
  repeat walk_at "#3;bs_sa*;Set Get EF FC GA"
  refine wpAny_call (osaC (isObj (Mem.at Dm 1 _ _ rfl) (kp_mem Dm _ _ hC)) ?_)
  unfold Builtin.«object.__setattr__»
  repeat walk_at "#3;bs_sa*;Set Get EF FC GA"
  refine noE ?_
  refine tlCh (v := .ref md) (kp_mem Dm _ _ hC) rfl (kp_mem Dm _ _ hN) (by kernel_rfl!) ?_
  repeat walk_at "#3;bs_sa*;Set Get EF FC GA"
  refine wpAny_of_eq tl_ms ?_
  repeat walk_at "#3;bs_sa*;Set Get EF FC GA"
  refine wpAny_of_eq tl_ms ?_
  repeat walk_at "#3;bs_sa*;Set Get EF FC GA"
  refine wpAny_of_eq (KF.slot_mset.bind _) ?_
  repeat walk_at "#3;bs_sa*;Set Get EF FC GA"
  refine wpAny_call (msetC (kp_mem Dm _ _ hmd) rfl ?_)
  unfold Builtin.«member_descriptor.__set__»
  repeat walk_at "#3;bs_sa*;Set Get EF FC GA"
  refine subCC hC _ _ _ _ (kp_mem Dm) ?_
  repeat walk_at "#3;bs_sa*;Set Get EF FC GA"
  refine ⟨Code.quiet_builtin _ (by decide +kernel), codeAny_builtin KF.entry_slotset ?_⟩
  unfold Builtin.«proto.slot#set» Builtin.Slots.target
  repeat walk_at "#3;bs_sa*;Set Get EF FC GA"
  refine updB Dm 1 rfl ((?_ : Au _ _ _ _ _ _ _) _ (updD (o' := inst C dx a) Dm 1 rfl rfl rfl))
  clear Dm; intro hL4 Dm; dsimp only [List.set] at Dm
  repeat walk_at "#3;bs_sa*;Set Get EF FC GA"
  exact k _ _ (kp_mem Dm) (Mem.at Dm 1 _ _ rfl)
theorem mkW (hh : A.handled = none) (hd : A.depth ≤ 780) (hu : A.units ≤ 8900) (X : (KX w.params).In h) {C N bt sl fI fL fG fE fLe fGe sa md cd a : Addr} {t1 t2 t3 t4 : Tok} {tt : Nat → Tok} {od : Option Addr} {os' : Array (Option Value)} {cx : Value} {cr : List Value}
   (hC : h.get? C = some (kclsObj C N bt t1 t2)) (hN : h.get? N = some (knsObj w.params sl fI fL fG fE fLe fGe sa md tt))
   (hF : h.get? fI = some (kfun 2 [] (.ref cd) .none))
   (hcd : h.get? cd = some ⟨.type "code", od, .fields ⟨cx :: .str (Str.ofString "cmp_to_key.<locals>.K.__init__") t3 :: cr⟩, os'⟩)
   (hmd : h.get? md = some (mdObj C t4))
   (k : ∀ x dx h' tk, Kp h h' → h'.get? x = some (inst C dx a) → Q (.ref x) ⟨h', g, d, tk, os⟩) : wpAny (MM w) A (PySem.call (.ref C) [.ref a] []) Q E ⟨h, g, d, t, os⟩ := by
  have hF' := hF
  unfold kfun at hF'
  have D0 : Mem h ((h.push emptyDict).push (instObj C h.objs.size)) [] [(h.objs.size + 1, instObj C h.objs.size), (h.objs.size, emptyDict)] := by
    have := ((Mem.start h).alloc (o := emptyDict) rfl).alloc (o := instObj C h.objs.size) rfl
    rw [Heap.size_push] at this
    exact this
  exact wpAny_call (make_core (init := .ref fI) (makesC hC) (fun A Q E s kk q => tlCh (kk _ _ hC) rfl (kk _ _ hN) (by kernel_rfl!) q) (fun self A Q E s kk q => bindFn (kk _ _ hF') q) (.inl rfl)
    (iniW (A := A.under (.builtin "type.__call__" ⟨[.ref C, .ref a], []⟩)) hh (by first | (show A.depth + 0 ≤ 790; exact lbk 0 hd rfl) | (show A.depth + 1 ≤ 790; exact lbk 1 hd rfl)) (by first | (show A.units + 0 ≤ 8920; exact lbk 0 hu rfl) | (show A.units + 1 ≤ 8920; exact lbk 1 hu rfl) | (show A.units + 2 ≤ 8920; exact lbk 2 hu rfl) | (show A.units + 3 ≤ 8920; exact lbk 3 hu rfl)) X hC hN hF hcd hmd D0 (fun h' tk kk e => (⟨rfl, k _ _ h' tk kk e⟩ : _ ∧ _))))
end
theorem mkK {w : World} {A : Around} {C : Addr} {fv : Value} {h : Heap} {g : Array GenState} {d : Drawn} {t : Nat} {os : OsState} {a : Addr} {Q : Value → Shared → Prop} {E : Value → Shared → Prop} (hh : A.handled = none) (hd : A.depth ≤ 780) (hu : A.units ≤ 8900)
   (hX : (KX w.params).In h) (hK : IsK w.params h C fv)
   (k : ∀ x h' tk, Kp h h' → (∃ dx, h'.get? x = some (inst C dx a)) → Q (.ref x) ⟨h', g, d, tk, os⟩) : wpAny (MM w) A (PySem.call (.ref C) [.ref a] []) Q E ⟨h, g, d, t, os⟩ := by
  obtain ⟨N, bt, md, cell, sl, st, f, cd, ct, od, vs, os', tq, tm, t1, t2, t4, t20, a1, a2, a3, a4, a5, a6⟩ := hK
  obtain ⟨x, r, e⟩ := vs_form (a5 0 (by decide))
  have f1 := a6 (f 0, kfun 2 [] (.ref (cd 0)) .none) (by simp [kfs])
  have f2 := a6 (cd 0, ⟨.type "code", od 0, .fields (vs 0), os' 0⟩) (by simp [kfs])
  rw [e] at f2
  exact mkW hh hd hu hX a1 a2 f1 f2 a3 fun x dx h' tk kk e => k x h' tk kk ⟨dx, e⟩

end Mine
namespace Mine
section
variable {w : World} {A : Around} {E : Value → Shared → Prop} {h : Heap} {g : Array GenState} {d : Drawn} {t : Nat} {os : OsState} {Q : Value → Shared → Prop}
noncomputable def spenv (L sp c2 cf cb : Addr) : Env := { scope := lsc, locals := L, globals := mainGlobals, cells := [(Str.ofString "first", cf), (Str.ofString "behind", cb)], qual := Str.ofString "_law_hit.<locals>.<lambda>.<locals>.", func := some sp, code := .ref c2, frame := some L, builtins := builtinsNs }
theorem codeExpr {e : Expr} {env : Env} {R : Result → Shared → Prop} {s : Shared}
    (h : wpAny (MM w) (A.deeper env) (eval e env) (fun v s' => R (.ok (.ret v)) s') (fun e s' => wpAny (MM w) (A.deeper env) (leaving env e) (fun _ s'' => R (.error e) s'') (fun e' s'' => R (.error e') s'') s') s) :
    codeAny (MM w) A (.expr e env) R s := by
  refine codeAny_of_tree ?_
  show wpAny _ (A.deeper env) (do point; ret (← (eval e env).onRaise (leaving env))) _ _ s
  exact wpAny_bind (wpAny_point (wpAny_bind (wpAny_onRaise (wpAny_mono h (fun f s' h' => wpAny_pure h') fun _ _ h' => h'))))
theorem spanW (hh : A.handled = none) (hd : A.depth ≤ 780) (hu : A.units ≤ 8900) (X : (KX w.params).In h) {sp x y cf cb c2 ct : Addr} {ox : Value} {od : Option Addr} {os' : Array (Option Value)} {or : List Value} {ot : Tok}
   (h1 : h.get? sp = some ⟨.type "function", none, .func (spfd cf cb c2 ct), #[]⟩) (h2 : h.get? cf = some (cellO x)) (h3 : h.get? cb = some (cellO y)) (h4 : h.get? c2 = some ⟨.type "code", od, .fields ⟨ox :: .str (Str.ofString "_law_hit.<locals>.<lambda>") ot :: or⟩, os'⟩)
   (k : ∀ a h' tk, Kp h h' → h'.get? a = some ⟨.type "tuple", none, .seq #[.ref x, .ref y] 0, #[]⟩ → Q (.ref a) ⟨h', g, d, tk, os⟩) : wpAny (MM w) A (PySem.call (.ref sp) [] []) Q E ⟨h, g, d, t, os⟩ := by
  unfold cellO at h2 h3
  refine wpAny_call (codeAny_of_tree ?_)
  show wpAny _ _ (callAny (.ref sp) _) _ _ _
  refine noE ?_
  refine (?_ : Ar _ _) (Mem.start h); intro Dm
  repeat walk_at "#3;;Set Get EF FC GA"
  refine allocB ((?_ : Aa _ _ _ _ _ _ (frO #[] 0) _) _ _ (Mem.alloc Dm rfl))
  clear Dm; intro L hL Dm
  repeat walk_at "#3;;Set Get EF FC GA"
  refine wpAny_enterFrame (nolim (X.keeps (kp_mem Dm))) (Nat.lt_of_le_of_lt hd (by decide)) ?_
  repeat walk_at "#3;;Set Get EF FC GA"
  refine ⟨rfl, codeExpr (e := spBd) (env := spenv L sp c2 cf cb) ?_⟩
  refine (?_ : Ar ((A.deeper (spenv L sp c2 cf cb)).handled = none) _) (hh); intro dh
  refine (?_ : Ar ((A.deeper (spenv L sp c2 cf cb)).depth ≤ 800) _) (by show A.depth + 1 ≤ 800; exact lbk 1 hd rfl); intro dd
  refine (?_ : Ar ((A.deeper (spenv L sp c2 cf cb)).units ≤ 8950) _) (by show A.units + 3 ≤ 8950; exact lbk 3 hu rfl); intro du
  refine (?_ : Ar ((A.deeper (spenv L sp c2 cf cb)).units < cLine) _) (Nat.lt_of_le_of_lt du (by decide)); intro hroom
  refine noE ?_
  repeat walk_at "#3;;Set Get EF FC GA"
  refine allocB ((?_ : Aa _ _ _ _ _ _ (⟨.type "tuple", none, .seq #[.ref x, .ref y] 0, #[]⟩) _) _ _ (Mem.alloc Dm rfl))
  clear Dm; intro T hT Dm
  repeat walk_at "#3;;Set Get EF FC GA"
  exact k _ _ _ (kp_mem Dm) (Mem.at Dm 0 _ _ rfl)
end

end Mine
namespace Mine
set_option tactic.hygienic false
theorem gaFnD (h : Heap) (g : Array GenState) (d : Drawn) (t : Nat) (os : OsState) {f dd : Addr} {fd : FuncData} {es : List DictEntry} {n : Nat} {nm : Str} {r : Addr} (b : Bool) (hf : h.get? f = some ⟨.type "function", some dd, .func fd, #[]⟩)
  (hdd : h.get? dd = some ⟨.type "dict", none, .dict ⟨es⟩ n, #[]⟩) (tl : typeLookup (.type "function") nm = pure none) (lk : nsLook nm ⟨.type "dict", none, .dict ⟨es⟩ n, #[]⟩ = pure (some (.ref r)))
  (k : Q (.ref r) ⟨h, g, d, t + 1, os⟩) : wpAny (MM w) A (getAttr (.ref f) nm b) Q E ⟨h, g, d, t, os⟩ := by
  refine noE ?_
  refine (?_ : Ar _ _) (Mem.start h); intro Dm
  cases b <;>
  ( unfold getAttr
    repeat walk_at "#3;tl_fg slot_fg.bind*;Get"
    refine wpAny_call_entry slot_fg ⟨_, hf, rfl⟩ entry_fg ?_ (args_fg _ _)
    unfold Builtin.«object.__getattribute__»
    repeat walk_at "#3;tl tl_fg slot_fg.bind*;Get"
    refine nsGetO Dm hdd lk ?_
    repeat walk_at "#3;tl tl_fg slot_fg.bind*;Get"
    refine ⟨_, rfl, ?_⟩
    repeat walk_at "#3;tl tl_fg slot_fg.bind*;Get"
    exact k)
theorem gaHit (hh : A.handled = none) (hd : A.depth ≤ 800) (hu : A.units ≤ 9000) (h : Heap) (g : Array GenState) (d : Drawn) (t : Nat) (os : OsState) {hit x y z : Addr} (b : Bool) (X : (KX w.params).In h) (hH : HitP h hit x y z) :
  ((∀ h' tk, Kp h h' → Q (.ref x) ⟨h', g, d, tk, os⟩) → wpAny (MM w) A (getAttr (.ref hit) (Str.ofString "first") b) Q E ⟨h, g, d, t, os⟩) ∧
  ((∀ h' tk, Kp h h' → Q (.ref z) ⟨h', g, d, tk, os⟩) → wpAny (MM w) A (getAttr (.ref hit) (Str.ofString "told") b) Q E ⟨h, g, d, t, os⟩) := by
  obtain ⟨dd, sp, fd, n1, n2, n3, t1, t2, t3, a1, a2, _⟩ := hH
  exact ⟨fun k => gaFnD h g d t os b a1 a2 tl_ffirst (by kernel_rfl!) (k _ _ (Kp.refl _)), fun k => gaFnD h g d t os b a1 a2 tl_ftold (by kernel_rfl!) (k _ _ (Kp.refl _))⟩
theorem gaSpan (hh : A.handled = none) (hd : A.depth ≤ 800) (hu : A.units ≤ 9000) (h : Heap) (g : Array GenState) (d : Drawn) (t : Nat) (os : OsState) {hit x y z : Addr} (b : Bool) (X : (KX w.params).In h) (hH : HitP h hit x y z)
  (k : ∀ sp h' tk, Kp h h' → SpP h' sp x y → Q (.ref sp) ⟨h', g, d, tk, os⟩) : wpAny (MM w) A (getAttr (.ref hit) (Str.ofString "span") b) Q E ⟨h, g, d, t, os⟩ := by
  obtain ⟨dd, sp, fd, n1, n2, n3, t1, t2, t3, a1, a2, a3⟩ := hH
  exact gaFnD h g d t os b a1 a2 tl_fspan (by kernel_rfl!) (k _ _ _ (Kp.refl _) a3)
theorem gaSearch (hh : A.handled = none) (hd : A.depth ≤ 800) (hu : A.units ≤ 9000) (h : Heap) (g : Array GenState) (d : Drawn) (t : Nat) (os : OsState) {prog : Addr} (b : Bool) (X : (KX w.params).In h) (hP : ProgP h prog)
  (k : ∀ sf h' tk, Kp h h' → SfP h' sf → Q (.ref sf) ⟨h', g, d, tk, os⟩) : wpAny (MM w) A (getAttr (.ref prog) (Str.ofString "search") b) Q E ⟨h, g, d, t, os⟩ := by
  obtain ⟨dd, sf, fd, n1, t1, a1, a2, a3⟩ := hP
  exact gaFnD h g d t os b a1 a2 tl_fsearch (by kernel_rfl!) (k _ _ _ (Kp.refl _) a3)
theorem gmSpan (hh : A.handled = none) (hd : A.depth ≤ 800) (hu : A.units ≤ 9000) {h : Heap} {g : Array GenState} {d : Drawn} {t : Nat} {os : OsState} {hit x y z : Addr} {pl : Sem Bool} {Q : Value × List Value → Shared → Prop} (X : (KX w.params).In h) (hH : HitP h hit x y z)
  (k : ∀ sp h' tk, Kp h h' → SpP h' sp x y → Q (.ref sp, []) ⟨h', g, d, tk, os⟩) : wpAny (MM w) A (getMethod (.ref hit) (Str.ofString "span") pl) Q E ⟨h, g, d, t, os⟩ := by
  obtain ⟨_, _, e⟩ := hH.f
  exact gmFn e tl_fspan (gaSpan hh hd hu h g d t os false X hH k)
theorem gmSearch (hh : A.handled = none) (hd : A.depth ≤ 800) (hu : A.units ≤ 9000) {h : Heap} {g : Array GenState} {d : Drawn} {t : Nat} {os : OsState} {prog : Addr} {pl : Sem Bool} {Q : Value × List Value → Shared → Prop} (X : (KX w.params).In h) (hP : ProgP h prog)
  (k : ∀ sf h' tk, Kp h h' → SfP h' sf → Q (.ref sf, []) ⟨h', g, d, tk, os⟩) : wpAny (MM w) A (getMethod (.ref prog) (Str.ofString "search") pl) Q E ⟨h, g, d, t, os⟩ := by
  obtain ⟨_, _, e⟩ := hP.f
  exact gmFn e tl_fsearch (gaSearch hh hd hu h g d t os false X hP k)
theorem spanC (hh : A.handled = none) (hd : A.depth ≤ 780) (hu : A.units ≤ 8900) {h : Heap} {g : Array GenState} {d : Drawn} {t : Nat} {os : OsState} {sp x y : Addr} (X : (KX w.params).In h) (s : SpP h sp x y)
  (k : ∀ a h' tk, Kp h h' → h'.get? a = some ⟨.type "tuple", none, .seq #[.ref x, .ref y] 0, #[]⟩ → Q (.ref a) ⟨h', g, d, tk, os⟩) : wpAny (MM w) A (call (.ref sp) [] []) Q E ⟨h, g, d, t, os⟩ := by
  obtain ⟨cf, cb, c2, ct, ox, od, os', or, ot, a1, a2, a3, a4⟩ := s
  exact spanW hh hd hu X a1 a2 a3 a4 k

end Mine
namespace Mine
set_option tactic.hygienic false
noncomputable def forC (it L sf c : Addr) : Code := match schBody with | .For t _ b o _ :: _ => .forLoop t (.ref it) b o (senv L sf c) | _ => .forLoop (.Name Str.empty ⟨0, 0, 0, 0⟩) (.ref it) [] [] (senv L sf c)
theorem turnK (hh : A.handled = none) (hd : A.depth ≤ 600) (hu : A.units ≤ 5000) (hb h : Heap) (g : Array GenState) (d : Drawn) (t : Nat) (os : OsState) {R' : Result → Shared → Prop} (it L l sf c : Addr) (i : Nat) (xs : Array Value) (nx : Nat) (dd : Option Addr) (sl : Array (Option Value)) (es : Array DictEntry) (n : Nat)
  (hit x y z p C fa : Addr) (ffd : FuncData) (R : Int → Int → Int → Int → Int) (hcmp : CmpC w (.ref fa) R) (a1 c1 a2 c2 : Int)
  (X : (KX w.params).In hb) (hl : hb.get? l = some ⟨.type "list", none, .seq xs nx, #[]⟩) (hx : xs[i]? = some (.ref hit)) (hH : HitP hb hit x y z) (hK : IsK w.params hb C (.ref fa)) (hfa : hb.get? fa = some ⟨.type "function", none, .func ffd, #[]⟩) (kx : Key hb C x a1 c1) (kp : Key hb C p a2 c2)
  (Dm : Mem hb h [] [(it, itO l i dd sl), (L, frO es n)])
  {es' : Nat → Array DictEntry} {n' : Nat} (e1 : aRefKeyMayBeTheName (Str.ofString "hit") es = false)
  (e2 : ∀ tk, Obj.putName (Str.ofString "hit") (PyData.keyHash w.params (Str.ofString "hit")) (.str (Str.ofString "hit") tk) (.ref hit) (frO es n) = frO (es' tk) n')
  (e3 : ∀ tk, nsLook (Str.ofString "place") (frO (es' tk) n') = pure (some (.ref p))) (e4 : ∀ tk, nsLook (Str.ofString "hit") (frO (es' tk) n') = pure (some (.ref hit)))
  (kyes : opB .GtE (R a1 c1 a2 c2) 0 = true → ∀ h' tk dd' sl' tkk, Mem hb h' [] [(it, itO l (i + 1) dd' sl'), (L, frO (es' tkk) n')] → R' (.ok (.ret (.ref hit))) ⟨h', g, d, tk, os⟩)
  (kno : opB .GtE (R a1 c1 a2 c2) 0 = false → ∀ h' tk dd' sl' tkk, Mem hb h' [] [(it, itO l (i + 1) dd' sl'), (L, frO (es' tkk) n')] → codeAny (MM w) A (forC it L sf c) R' ⟨h', g, d, tk, os⟩) :
  codeAny (MM w) A (forC it L sf c) R' ⟨h, g, d, t, os⟩ := by
  refine codeAny_of_tree ?_
  show wpAny _ _ ((forTurn _ _ _ _ _).onRaise _) _ _ _
  refine noE ?_
  obtain ⟨A1, hA⟩ : ∃ A1, A1 = A.under (forC it L sf c) := ⟨_, rfl⟩
  rw [← hA]
  refine (?_ : Ar (A1.handled = none) _) (by rw [hA]; exact hh); intro hh1
  refine (?_ : Ar (A1.depth ≤ 690) _) (by rw [hA]; show A.depth + 0 ≤ 690; omega); intro hd1
  refine (?_ : Ar (A1.units ≤ 5900) _) (by rw [hA]; first | (show A.units + 0 ≤ 5900; exact lbk 0 hu rfl) | (show A.units + 1 ≤ 5900; exact lbk 1 hu rfl) | (show A.units + 2 ≤ 5900; exact lbk 2 hu rfl)); intro hu1
  refine (?_ : Ar (A1.units < cLine) _) (Nat.lt_of_le_of_lt hu1 (by decide)); intro hroom
  clear hA
  repeat walk_at "#3;;Set Get PN CO GA"
  refine wpAny_pyNext_list_item (of_itO (Mem.at Dm 0 _ _ rfl)) ⟨_, kp_mem Dm _ _ hl, rfl, _, rfl⟩ hx ?_
  intro h1 hit1 sb1
  obtain ⟨dd1, sl1, hit2⟩ := itO_of hit1
  refine (?_ : Ar _ _) (memSet Dm 0 rfl sb1.extBut hit2); intro Dm
  dsimp only [List.set] at Dm
  repeat walk_at "#3;;Set Get PN CO GA"
  refine nsSetB rfl Dm 1 rfl e1 ((?_ : Au _ _ _ _ _ _ _) _ (nsPutD (o' := fun tk => frO (es' tk) n') Dm 1 rfl e2 (fun _ => rfl)))
  clear Dm; intro h2 Dm; dsimp only [List.set] at Dm
  repeat walk_at "#3;;Set Get PN CO GA"
  refine nsGetM (r := some (.ref p)) Dm 1 rfl (e3 _) ?_
  repeat walk_at "#3;;Set Get PN CO GA"
  refine nsGetM (r := some (.ref hit)) Dm 1 rfl (e4 _) ?_
  repeat walk_at "#3;;Set Get PN CO GA"
  refine (?_ : Ar _ _) (kp_mem Dm); intro kq
  refine (?_ : Ar _ _) (hH.kp kq); intro hH1
  refine (gaHit hh1 (by first | (refine lb (by assumption) ?_; rfl) | omega) (by first | (refine lb (by assumption) ?_; rfl) | omega) h2 _ _ _ _ true (X.keeps kq) hH1).1 ?_
  intro h3 tk3 kp3
  refine (?_ : Ar _ _) (memKp Dm kp3); intro Dm
  repeat walk_at "#3;;Set Get PN CO GA"
  refine nsGetM (r := some (.ref p)) Dm 1 rfl (e3 _) ?_
  repeat walk_at "#3;;Set Get PN CO GA"
  refine (?_ : Ar _ _) (kp_mem Dm); intro kq
  refine keyOp hh1 hd1 hu1 h3 _ _ _ _ fa ffd R hcmp .GtE C x p a1 c1 a2 c2 (X.keeps kq) (hK.kl (KL.of_kp kq)) (kq _ _ hfa) (kx.kp kq) (kp.kp kq) rfl ?_
  intro h4 tk4 kp4
  refine (?_ : Ar _ _) (memKp Dm kp4); intro Dm
  cases hc : opB .GtE (R a1 c1 a2 c2) 0 with
  | true =>
    repeat walk_at "#3;;Set Get PN CO GA"
    refine nsGetM (r := some (.ref hit)) Dm 1 rfl (e4 _) ?_
    repeat walk_at "#3;;Set Get PN CO GA"
    exact kyes hc h4 _ _ _ t Dm
  | false =>
    repeat walk_at "#3;;Set Get PN CO GA"
    exact ⟨rfl, kno hc h4 _ _ _ t Dm⟩
theorem turnN (hh : A.handled = none) (hd : A.depth ≤ 600) (hu : A.units ≤ 5000) (hb h : Heap) (g : Array GenState) (d : Drawn) (t : Nat) (os : OsState) {R' : Result → Shared → Prop} (it L l sf c : Addr) (i : Nat) (xs : Array Value) (nx : Nat) (dd : Option Addr) (sl : Array (Option Value)) (es : Array DictEntry) (n : Nat)
  (hit : Addr) (X : (KX w.params).In hb) (hl : hb.get? l = some ⟨.type "list", none, .seq xs nx, #[]⟩) (hx : xs[i]? = some (.ref hit))
  (Dm : Mem hb h [] [(it, itO l i dd sl), (L, frO es n)])
  {es' : Nat → Array DictEntry} {n' : Nat} (e1 : aRefKeyMayBeTheName (Str.ofString "hit") es = false)
  (e2 : ∀ tk, Obj.putName (Str.ofString "hit") (PyData.keyHash w.params (Str.ofString "hit")) (.str (Str.ofString "hit") tk) (.ref hit) (frO es n) = frO (es' tk) n')
  (e3 : ∀ tk, nsLook (Str.ofString "place") (frO (es' tk) n') = pure (some .none)) (e4 : ∀ tk, nsLook (Str.ofString "hit") (frO (es' tk) n') = pure (some (.ref hit)))
  (kyes : ∀ h' tk dd' sl' tkk, Mem hb h' [] [(it, itO l (i + 1) dd' sl'), (L, frO (es' tkk) n')] → R' (.ok (.ret (.ref hit))) ⟨h', g, d, tk, os⟩) :
  codeAny (MM w) A (forC it L sf c) R' ⟨h, g, d, t, os⟩ := by
  refine codeAny_of_tree ?_
  show wpAny _ _ ((forTurn _ _ _ _ _).onRaise _) _ _ _
  refine noE ?_
  obtain ⟨A1, hA⟩ : ∃ A1, A1 = A.under (forC it L sf c) := ⟨_, rfl⟩
  rw [← hA]
  refine (?_ : Ar (A1.handled = none) _) (by rw [hA]; exact hh); intro hh1
  refine (?_ : Ar (A1.depth ≤ 690) _) (by rw [hA]; show A.depth + 0 ≤ 690; omega); intro hd1
  refine (?_ : Ar (A1.units ≤ 5900) _) (by rw [hA]; first | (show A.units + 0 ≤ 5900; exact lbk 0 hu rfl) | (show A.units + 1 ≤ 5900; exact lbk 1 hu rfl) | (show A.units + 2 ≤ 5900; exact lbk 2 hu rfl)); intro hu1
  refine (?_ : Ar (A1.units < cLine) _) (Nat.lt_of_le_of_lt hu1 (by decide)); intro hroom
  clear hA
  repeat walk_at "#3;;Set Get PN CO GA"
  refine wpAny_pyNext_list_item (of_itO (Mem.at Dm 0 _ _ rfl)) ⟨_, kp_mem Dm _ _ hl, rfl, _, rfl⟩ hx ?_
  intro h1 hit1 sb1
  obtain ⟨dd1, sl1, hit2⟩ := itO_of hit1
  refine (?_ : Ar _ _) (memSet Dm 0 rfl sb1.extBut hit2); intro Dm
  dsimp only [List.set] at Dm
  repeat walk_at "#3;;Set Get PN CO GA"
  refine nsSetB rfl Dm 1 rfl e1 ((?_ : Au _ _ _ _ _ _ _) _ (nsPutD (o' := fun tk => frO (es' tk) n') Dm 1 rfl e2 (fun _ => rfl)))
  clear Dm; intro h2 Dm; dsimp only [List.set] at Dm
  repeat walk_at "#3;;Set Get PN CO GA"
  refine nsGetM (r := some .none) Dm 1 rfl (e3 _) ?_
  repeat walk_at "#3;;Set Get PN CO GA"
  refine nsGetM (r := some (.ref hit)) Dm 1 rfl (e4 _) ?_
  repeat walk_at "#3;;Set Get PN CO GA"
  exact kyes h2 _ _ _ t Dm
theorem turnE (hh : A.handled = none) (hd : A.depth ≤ 600) (hu : A.units ≤ 5000) (hb h : Heap) (g : Array GenState) (d : Drawn) (t : Nat) (os : OsState) {R' : Result → Shared → Prop} (it L l sf c : Addr) (i : Nat) (xs : Array Value) (nx : Nat) (dd : Option Addr) (sl : Array (Option Value)) (es : Array DictEntry) (n : Nat)
  (X : (KX w.params).In hb) (hl : hb.get? l = some ⟨.type "list", none, .seq xs nx, #[]⟩) (hx : xs[i]? = none)
  (Dm : Mem hb h [] [(it, itO l i dd sl), (L, frO es n)])
  (kend : ∀ h' tk, Kp hb h' → R' (.ok .next) ⟨h', g, d, tk, os⟩) :
  codeAny (MM w) A (forC it L sf c) R' ⟨h, g, d, t, os⟩ := by
  refine codeAny_of_tree ?_
  show wpAny _ _ ((forTurn _ _ _ _ _).onRaise _) _ _ _
  refine noE ?_
  obtain ⟨A1, hA⟩ : ∃ A1, A1 = A.under (forC it L sf c) := ⟨_, rfl⟩
  rw [← hA]
  refine (?_ : Ar (A1.handled = none) _) (by rw [hA]; exact hh); intro hh1
  refine (?_ : Ar (A1.depth ≤ 690) _) (by rw [hA]; show A.depth + 0 ≤ 690; omega); intro hd1
  refine (?_ : Ar (A1.units ≤ 5900) _) (by rw [hA]; first | (show A.units + 0 ≤ 5900; exact lbk 0 hu rfl) | (show A.units + 1 ≤ 5900; exact lbk 1 hu rfl) | (show A.units + 2 ≤ 5900; exact lbk 2 hu rfl)); intro hu1
  refine (?_ : Ar (A1.units < cLine) _) (Nat.lt_of_le_of_lt hu1 (by decide)); intro hroom
  clear hA
  repeat walk_at "#3;;Set Get PN CO GA"
  refine wpAny_pyNext_list_end hh1 (of_itO (Mem.at Dm 0 _ _ rfl)) ⟨_, kp_mem Dm _ _ hl, rfl, _, rfl⟩ hx ?_
  intro h1 eb1
  refine (?_ : Ar (Kp hb h1) _) (fun b o e => eb1 b o (by rintro rfl; have := (Dm.nw _ (.head _)).2; rw [e] at this; cases this) (kp_mem Dm _ _ e)); intro kq
  clear Dm
  refine (?_ : Ar _ _) (Mem.start h1); intro Dm
  repeat walk_at "#3;;Set Get PN CO GA"
  refine ⟨rfl, codeAny_of_tree ?_⟩
  show wpAny _ _ (do return Fin.done (← (execs [] (senv L sf c)).onRaise _)) _ _ _
  repeat walk_at "#3;;Set Get PN CO GA"
  exact kend h1 _ kq

end Mine
namespace Mine
set_option tactic.hygienic false
structure HitD where
  hit : Addr
  x : Addr
  y : Addr
  z : Addr
  la : Int
  ca : Int
  lb : Int
  cb : Int
noncomputable def RowH (h : Heap) (l C : Addr) (hs : List HitD) : Prop := (∃ nx, h.get? l = some ⟨.type "list", none, .seq (hs.map fun d => Value.ref d.hit).toArray nx, #[]⟩) ∧ ∀ d ∈ hs, HitP h d.hit d.x d.y d.z ∧ Key h C d.x d.la d.ca ∧ Key h C d.y d.lb d.cb
noncomputable def ge (R : Int → Int → Int → Int → Int) (a c : Int) (d : HitD) : Bool := opB .GtE (R d.la d.ca a c) 0
noncomputable def E3 (P : Params) (l : Addr) (pv : Value) (t1 t2 t3 : Tok) (v : Value) : Array DictEntry := #[en P "hits" t1 (.ref l), en P "place" t2 pv, en P "hit" t3 v]
theorem loopK (hh : A.handled = none) (hd : A.depth ≤ 600) (hu : A.units ≤ 5000) (hb : Heap) (g : Array GenState) (d : Drawn) (os : OsState) {R' : Result → Shared → Prop} (it L l sf c : Addr) (hs : List HitD)
  (p C fa : Addr) (ffd : FuncData) (R : Int → Int → Int → Int → Int) (hcmp : CmpC w (.ref fa) R) (a2 c2 : Int) (t1 t2 t3 : Tok)
  (X : (KX w.params).In hb) (hR : RowH hb l C hs) (hK : IsK w.params hb C (.ref fa)) (hfa : hb.get? fa = some ⟨.type "function", none, .func ffd, #[]⟩) (kp : Key hb C p a2 c2)
  (k : ∀ h' tk r, Kp hb h' → r = (match hs.find? (ge R a2 c2) with | some d => Except.ok (.ret (.ref d.hit)) | none => .ok .next) → R' r ⟨h', g, d, tk, os⟩) :
  ∀ (rest : List HitD) (i : Nat) (h : Heap) (t : Nat) (dd : Option Addr) (sl : Array (Option Value)) (v : Value), hs.drop i = rest → hs.find? (ge R a2 c2) = rest.find? (ge R a2 c2) → Mem hb h [] [(it, itO l i dd sl), (L, frO (E3 w.params l (.ref p) t1 t2 t3 v) 3)] → codeAny (MM w) A (forC it L sf c) R' ⟨h, g, d, t, os⟩ := by
  obtain ⟨⟨nx, hl⟩, hD⟩ := hR
  intro rest
  induction rest with
  | nil =>
    intro i h t dd sl v hdr hf Dm
    refine turnE hh hd hu hb h g d t os it L l sf c i _ nx dd sl _ 3 X hl ?_ Dm ?_
    · have : hs.length ≤ i := by
        have := congrArg List.length hdr
        simp at this; omega
      simp [this]
    · intro h' tk kq
      exact k h' tk _ kq (by rw [hf]; rfl)
  | cons q rest ih =>
    intro i h t dd sl v hdr hf Dm
    have hi : hs[i]? = some q := by
      have := congrArg (fun l => l[0]?) hdr
      simpa using this
    refine (?_ : Ar (q ∈ hs) _) (List.mem_of_getElem? hi); intro hm
    obtain ⟨hH, kx, ky⟩ := hD q hm
    refine turnK hh hd hu hb h g d t os it L l sf c i _ nx dd sl _ 3 q.hit q.x q.y q.z p C fa ffd R hcmp q.la q.ca a2 c2 X hl (by simp [hi]) hH hK hfa kx kp Dm (es' := fun _ => E3 w.params l (.ref p) t1 t2 t3 (.ref q.hit)) (n' := 3) (by kernel_rfl!) (by intro tk; kernel_rfl!) (by intro tk; kernel_rfl!) (by intro tk; kernel_rfl!) ?_ ?_
    · intro hc h' tk dd' sl' tkk Dm'
      exact k h' tk _ (kp_mem Dm') (by rw [hf, List.find?_cons, show ge R a2 c2 q = true from hc])
    · intro hc h' tk dd' sl' tkk Dm'
      exact ih (i + 1) h' tk dd' sl' (.ref q.hit) (by rw [← List.drop_drop, hdr]; rfl) (by rw [hf, List.find?_cons, show ge R a2 c2 q = false from hc]) Dm'

end Mine
namespace Mine
set_option tactic.hygienic false
theorem srchK (hh : A.handled = none) (hd : A.depth ≤ 550) (hu : A.units ≤ 4500) (h : Heap) (g : Array GenState) (d : Drawn) (t : Nat) (os : OsState) (l sf : Addr) (hs : List HitD)
  (C : Addr) (p fa : Addr) (ffd : FuncData) (R : Int → Int → Int → Int → Int) (hcmp : CmpC w (.ref fa) R) (a2 c2 : Int) (hK : IsK w.params h C (.ref fa)) (hfa : h.get? fa = some ⟨.type "function", none, .func ffd, #[]⟩) (kp : Key h C p a2 c2)
  (X : (KX w.params).In h) (hR : RowH h l C hs)
  (hS : SfP h sf)
  (k : ∀ h' tk, Kp h h' → Q (match hs.find? (ge R a2 c2) with | some d => .ref d.hit | none => .none) ⟨h', g, d, tk, os⟩) :
  wpAny (MM w) A (call (.ref sf) [.ref l, .ref p] []) Q E ⟨h, g, d, t, os⟩ := by
  obtain ⟨⟨nx, hl⟩, hD⟩ := id hR
  obtain ⟨c, dt, ox, od, os', or, ot, hF, hc, hdt⟩ := hS
  refine wpAny_call (codeAny_of_tree ?_)
  show wpAny _ _ (callAny (.ref sf) _) _ _ _
  refine noE ?_
  refine (?_ : Ar _ _) (Mem.start h); intro Dm
  repeat walk_at "#3;;Set Get EF PI"
  refine allocB ((?_ : Aa _ _ _ _ _ _ (⟨.type "frame", none, .dict #[] 0, #[]⟩) _) _ _ (Mem.alloc Dm rfl))
  clear Dm; intro L hL Dm
  repeat walk_at "#3;;Set Get EF PI"
  refine nsSetB rfl Dm 0 rfl (by kernel_rfl!) ((?_ : Au _ _ _ _ _ _ _) _ (nsPutD (o' := fun tk => frO #[en w.params "hits" tk (.ref l)] 1) Dm 0 rfl (by intro tk; kernel_rfl!) (fun _ => rfl)))
  clear Dm; intro hL2 Dm; dsimp only [List.set] at Dm
  repeat walk_at "#3;;Set Get EF PI"
  refine nsSetB rfl Dm 0 rfl (by kernel_rfl!) ((?_ : Au _ _ _ _ _ _ _) _ (nsPutD (o' := fun tk => frO #[en w.params "hits" t (.ref l), en w.params "place" tk (.ref p)] 2) Dm 0 rfl (by intro tk; kernel_rfl!) (fun _ => rfl)))
  clear Dm; intro hL3 Dm; dsimp only [List.set] at Dm
  repeat walk_at "#3;;Set Get EF PI"
  refine wpAny_enterFrame (nolim (X.keeps (kp_mem Dm))) (Nat.lt_of_le_of_lt hd (by decide)) ?_
  repeat walk_at "#3;;Set Get EF PI"
  refine ⟨rfl, codeAny_func (body := schBody) (env := senv L sf c) ?_⟩
  refine (?_ : Ar ((A.deeper (senv L sf c)).handled = none) _) (hh); intro dh
  refine (?_ : Ar ((A.deeper (senv L sf c)).depth ≤ 600) _) (by show A.depth + 1 ≤ 600; exact lbk 1 hd rfl); intro dd
  refine (?_ : Ar ((A.deeper (senv L sf c)).units ≤ 5000) _) (by show A.units + 3 ≤ 5000; exact lbk 3 hu rfl); intro du
  refine noE ?_
  repeat walk_at "#3;;Set Get EF PI"
  refine nsGetM (r := some (.ref l)) Dm 0 rfl (by kernel_rfl!) ?_
  repeat walk_at "#3;;Set Get EF PI"
  refine pyIterM Dm (kp_mem Dm _ _ hl) ?_
  clear Dm; intro it hI Dm
  repeat walk_at "#3;;Set Get EF PI"
  refine wpAny_run ?_
  show codeAny _ _ (forC it L sf c) _ _
  cases hs with
  | nil =>
    refine turnE dh dd du h hI _ _ _ _ it L l sf c 0 _ nx none #[] _ 2 X hl rfl Dm ?_
    intro h' tk kq
    try dsimp -zeta only
    clear Dm
    refine (?_ : Ar _ _) (Mem.start h'); intro Dm
    repeat walk_at "#3;;Set Get EF PI"

    exact k h' _ kq
  | cons q rest =>
    obtain ⟨hH, kx, ky⟩ := hD q (.head _)
    refine turnK dh dd du h hI _ _ _ _ it L l sf c 0 _ nx none #[] _ 2 q.hit q.x q.y q.z p C fa ffd R hcmp q.la q.ca a2 c2 X hl rfl hH hK hfa kx kp Dm (es' := fun tk => E3 w.params l (.ref p) t (t + 1) tk (.ref q.hit)) (n' := 3) (by kernel_rfl!) (by intro tk; kernel_rfl!) (by intro tk; kernel_rfl!) (by intro tk; kernel_rfl!) ?_ ?_
    · intro hc h' tk dd' sl' tkk Dm'
      refine (?_ : Ar ((q :: rest).find? (ge R a2 c2) = some q) _) (by rw [List.find?_cons, show ge R a2 c2 q = true from hc]); intro hq
      refine (?_ : Ar _ _) (k h' tk (kp_mem Dm')); intro kk
      rw [hq] at kk
      try dsimp -zeta only
      clear Dm
      refine (?_ : Ar _ _) (Mem.start h'); intro Dm
      repeat walk_at "#3;;Set Get EF PI"

      exact kk
    · intro hc h' tk dd' sl' tkk Dm'
      refine (?_ : Ar ((q :: rest).find? (ge R a2 c2) = rest.find? (ge R a2 c2)) _) (by rw [List.find?_cons, show ge R a2 c2 q = false from hc]); intro hq
      refine loopK dh dd du h _ _ _ it L l sf c (q :: rest) p C fa ffd R hcmp a2 c2 t (t + 1) tkk X hR hK hfa kp ?_ rest 1 h' tk dd' sl' (.ref q.hit) rfl hq Dm'
      intro h'' tk' r kq hr
      refine (?_ : Ar _ _) (k h'' tk' kq); intro kk
      clear Dm
      refine (?_ : Ar _ _) (Mem.start h''); intro Dm
      cases hf : (q :: rest).find? (ge R a2 c2) with
      | none =>
        rw [hf] at kk hr
        subst hr
        try dsimp -zeta only
        repeat walk_at "#3;;Set Get EF PI"

        exact kk
      | some e =>
        rw [hf] at kk hr
        subst hr
        try dsimp -zeta only
        repeat walk_at "#3;;Set Get EF PI"

        exact kk
theorem srchN (hh : A.handled = none) (hd : A.depth ≤ 550) (hu : A.units ≤ 4500) (h : Heap) (g : Array GenState) (d : Drawn) (t : Nat) (os : OsState) (l sf : Addr) (hs : List HitD)
  (C : Addr) 
  (X : (KX w.params).In h) (hR : RowH h l C hs)
  (hS : SfP h sf)
  (k : ∀ h' tk, Kp h h' → Q (match hs.head? with | some d => .ref d.hit | none => .none) ⟨h', g, d, tk, os⟩) :
  wpAny (MM w) A (call (.ref sf) [.ref l] []) Q E ⟨h, g, d, t, os⟩ := by
  obtain ⟨⟨nx, hl⟩, hD⟩ := id hR
  obtain ⟨c, dt, ox, od, os', or, ot, hF, hc, hdt⟩ := hS
  refine wpAny_call (codeAny_of_tree ?_)
  show wpAny _ _ (callAny (.ref sf) _) _ _ _
  refine noE ?_
  refine (?_ : Ar _ _) (Mem.start h); intro Dm
  repeat walk_at "#3;;Set Get EF PI"
  refine allocB ((?_ : Aa _ _ _ _ _ _ (⟨.type "frame", none, .dict #[] 0, #[]⟩) _) _ _ (Mem.alloc Dm rfl))
  clear Dm; intro L hL Dm
  repeat walk_at "#3;;Set Get EF PI"
  refine nsSetB rfl Dm 0 rfl (by kernel_rfl!) ((?_ : Au _ _ _ _ _ _ _) _ (nsPutD (o' := fun tk => frO #[en w.params "hits" tk (.ref l)] 1) Dm 0 rfl (by intro tk; kernel_rfl!) (fun _ => rfl)))
  clear Dm; intro hL2 Dm; dsimp only [List.set] at Dm
  repeat walk_at "#3;;Set Get EF PI"
  refine nsSetB rfl Dm 0 rfl (by kernel_rfl!) ((?_ : Au _ _ _ _ _ _ _) _ (nsPutD (o' := fun tk => frO #[en w.params "hits" t (.ref l), en w.params "place" tk (.none)] 2) Dm 0 rfl (by intro tk; kernel_rfl!) (fun _ => rfl)))
  clear Dm; intro hL3 Dm; dsimp only [List.set] at Dm
  repeat walk_at "#3;;Set Get EF PI"
  refine wpAny_enterFrame (nolim (X.keeps (kp_mem Dm))) (Nat.lt_of_le_of_lt hd (by decide)) ?_
  repeat walk_at "#3;;Set Get EF PI"
  refine ⟨rfl, codeAny_func (body := schBody) (env := senv L sf c) ?_⟩
  refine (?_ : Ar ((A.deeper (senv L sf c)).handled = none) _) (hh); intro dh
  refine (?_ : Ar ((A.deeper (senv L sf c)).depth ≤ 600) _) (by show A.depth + 1 ≤ 600; exact lbk 1 hd rfl); intro dd
  refine (?_ : Ar ((A.deeper (senv L sf c)).units ≤ 5000) _) (by show A.units + 3 ≤ 5000; exact lbk 3 hu rfl); intro du
  refine noE ?_
  repeat walk_at "#3;;Set Get EF PI"
  refine nsGetM (r := some (.ref l)) Dm 0 rfl (by kernel_rfl!) ?_
  repeat walk_at "#3;;Set Get EF PI"
  refine pyIterM Dm (kp_mem Dm _ _ hl) ?_
  clear Dm; intro it hI Dm
  repeat walk_at "#3;;Set Get EF PI"
  refine wpAny_run ?_
  show codeAny _ _ (forC it L sf c) _ _
  cases hs with
  | nil =>
    refine turnE dh dd du h hI _ _ _ _ it L l sf c 0 _ nx none #[] _ 2 X hl rfl Dm ?_
    intro h' tk kq
    try dsimp -zeta only
    clear Dm
    refine (?_ : Ar _ _) (Mem.start h'); intro Dm
    repeat walk_at "#3;;Set Get EF PI"

    exact k h' _ kq
  | cons q rest =>
    obtain ⟨hH, kx, ky⟩ := hD q (.head _)
    refine turnN dh dd du h hI _ _ _ _ it L l sf c 0 _ nx none #[] _ 2 q.hit X hl rfl Dm (es' := fun tk => E3 w.params l .none t (t + 1) tk (.ref q.hit)) (n' := 3) (by kernel_rfl!) (by intro tk; kernel_rfl!) (by intro tk; kernel_rfl!) (by intro tk; kernel_rfl!) ?_
    intro h' tk dd' sl' tkk Dm'
    refine (?_ : Ar _ _) (k h' tk (kp_mem Dm')); intro kk
    try dsimp -zeta only
    clear Dm
    refine (?_ : Ar _ _) (Mem.start h'); intro Dm
    repeat walk_at "#3;;Set Get EF PI"
    exact kk

end Mine
namespace Mine
noncomputable def srB : List Stmt := match PySem.Challenge.pw_ij0005_01.main.body[(1 : Nat)]? with | some (.FunctionDef _ _ b _ _ _ _ _ _ _) => b | _ => []
noncomputable def srTest : Expr := match srB[(4 : Nat)]? with | some (.While t _ _ _) => t | _ => .Name Str.empty ⟨0, 0, 0, 0⟩
noncomputable def srWB : List Stmt := match srB[(4 : Nat)]? with | some (.While _ b _ _) => b | _ => []
noncomputable def srSc : Scope := match PySem.Challenge.pw_ij0005_01.main.body[(1 : Nat)]? with | some (.FunctionDef _ _ _ _ _ _ s _ _ _) => s | _ => default
noncomputable def srArgs : Arguments := match PySem.Challenge.pw_ij0005_01.main.body[(1 : Nat)]? with | some (.FunctionDef _ a _ _ _ _ _ _ _ _) => a | _ => default
noncomputable def srfd (pm cd : Value) : FuncData := { name := Str.ofString "search_reverse", qualname := Str.ofString "search_reverse", params := srArgs, body := .stmts srB, scope := srSc, globals := mainGlobals, closure := [], defaults := .none, kwdefaults := .none, doc := .none, pyModule := pm, annotations := none, code := cd, closureTuple := .none, builtins := builtinsNs }
theorem fobj1 (pm cd : Value) : fobj 1 pm cd = ⟨.type "function", none, .func (srfd pm cd), #[]⟩ := by kernel_rfl
noncomputable def srenv (L : Addr) : Env := { scope := srSc, locals := L, globals := mainGlobals, cells := [], qual := Str.ofString "search_reverse.<locals>.", func := some 21, code := .ref 20, frame := some L, builtins := builtinsNs }
noncomputable def srWC (L : Addr) : Code := .whileLoop srTest srWB [] (srenv L)
noncomputable def E7 (P : Params) (prog l col : Addr) (t1 t2 t3 t4 t5 t6 t7 : Tok) (m f i j : Value) : Array DictEntry := #[en P "prog" t1 (.ref prog), en P "chars" t2 (.ref l), en P "col" t3 (.ref col), en P "m" t4 m, en P "found" t5 f, en P "i" t6 i, en P "j" t7 j]
theorem k21 {P : Params} {h : Heap} (x : (KX P).In h) : h.get? 21 = some ⟨.type "function", none, .func (srfd (.str (Str.ofString "cpy313.idlelib.searchengine") 187) (.ref 20)), #[]⟩ := x 21 _ (by kernel_rfl)

end Mine
namespace Mine
theorem tl_fb : typeLookup (.type "function") (Str.ofString "__bool__") = pure none := by rw [typeLookup_type, builtinLookup_eq_fast]; kernel_rfl
theorem tl_fl : typeLookup (.type "function") (Str.ofString "__len__") = pure none := by rw [typeLookup_type, builtinLookup_eq_fast]; kernel_rfl
theorem unpK {w : World} {A : Around} {E : Value → Shared → Prop} {h : Heap} {g : Array GenState} {d : Drawn} {t : Nat} {os : OsState} {tp : Addr} {items : Array Value} {nx n : Nat} {Q : List Value → Shared → Prop} (hh : A.handled = none) (ht : h.get? tp = some ⟨.type "tuple", none, .seq items nx, #[]⟩) (hn : n = items.size)
    (k : ∀ h', Kp h h' → Q items.toList ⟨h', g, d, t, os⟩) : wpAny (MM w) A (unpackItems (.ref tp) n none) Q E ⟨h, g, d, t, os⟩ := by
  subst hn
  exact wpAny_unpackItems_tuple hh ⟨_, ht, rfl, _, rfl⟩ fun h' eb => k h' fun b o e => eb b o (Nat.ne_of_lt (Heap.lt_size e)) e
theorem stopUI {M : Model} {A : Around} {E : Value → Shared → Prop} {s : Shared} {v : Value} {n : Nat} {st : Option Nat} {Q : List Value → Shared → Prop} (h : wpAny M A (unpackItems v n st) Q E s) : wpAny M A (unpackItems v n st) Q E s := h

end Mine
namespace Mine
set_option tactic.hygienic false
theorem revTurn (hh : A.handled = none) (hd : A.depth ≤ 500) (hu : A.units ≤ 4000) (hb h : Heap) (g : Array GenState) (d : Drawn) (t : Nat) (os : OsState) {R' : Result → Shared → Prop} (L l prog col C fa : Addr) (hs : List HitD) (ffd : FuncData) (R : Int → Int → Int → Int → Int) (hcmp : CmpC w (.ref fa) R) (a2 c2 : Int) (q : HitD) (v : Value) (t1 t2 t3 t4 t5 t6 t7 : Tok)
  (X : (KX w.params).In hb) (hR : RowH hb l C hs) (hq : q ∈ hs) (hP : ProgP hb prog) (hK : IsK w.params hb C (.ref fa)) (hfa : hb.get? fa = some ⟨.type "function", none, .func ffd, #[]⟩) (kc0 : Key hb C col a2 c2)
  (Dm : Mem hb h [] [(L, frO (E7 w.params prog l col t1 t2 t3 t4 t5 t6 t7 (.ref q.hit) v (.ref q.x) (.ref q.y)) 7)])
  (hne : opB .Eq (R q.la q.ca q.lb q.cb) 0 = false)
  (kstop : (opB .Lt (R q.la q.ca a2 c2) 0 && opB .LtE (R q.lb q.cb a2 c2) 0) = false → ∀ h' tk, Mem hb h' [] [(L, frO (E7 w.params prog l col t1 t2 t3 t4 t5 t6 t7 (.ref q.hit) v (.ref q.x) (.ref q.y)) 7)] → R' (.ok .next) ⟨h', g, d, tk, os⟩)
  (kbrk : (opB .Lt (R q.la q.ca a2 c2) 0 && opB .LtE (R q.lb q.cb a2 c2) 0) = true → hs.find? (ge R q.lb q.cb) = none → ∀ h' tk, Mem hb h' [] [(L, frO (E7 w.params prog l col t1 t2 t3 t4 t5 t6 t7 .none (.ref q.hit) (.ref q.x) (.ref q.y)) 7)] → R' (.ok .next) ⟨h', g, d, tk, os⟩)
  (kcont : (opB .Lt (R q.la q.ca a2 c2) 0 && opB .LtE (R q.lb q.cb a2 c2) 0) = true → ∀ e, hs.find? (ge R q.lb q.cb) = some e → ∀ h' tk, Mem hb h' [] [(L, frO (E7 w.params prog l col t1 t2 t3 t4 t5 t6 t7 (.ref e.hit) (.ref q.hit) (.ref e.x) (.ref e.y)) 7)] → codeAny (MM w) A (srWC L) R' ⟨h', g, d, tk, os⟩) :
  codeAny (MM w) A (srWC L) R' ⟨h, g, d, t, os⟩ := by
  obtain ⟨hH, kx, ky⟩ := hR.2 q hq
  refine codeAny_of_tree ?_
  unfold srWC
  show wpAny _ _ ((whileTurn _ _ _ _).onRaise _) _ _ _
  refine noE ?_
  obtain ⟨A1, hA⟩ : ∃ A1, A1 = A.under (.whileLoop srTest srWB [] (srenv L)) := ⟨_, rfl⟩
  rw [← hA]
  refine (?_ : Ar (A1.handled = none) _) (by rw [hA]; exact hh); intro hh1
  refine (?_ : Ar (A1.depth ≤ 550) _) (by rw [hA]; show A.depth + 0 ≤ 550; omega); intro hd1
  refine (?_ : Ar (A1.units ≤ 4500) _) (by rw [hA]; first | (show A.units + 0 ≤ 4500; exact lbk 0 hu rfl) | (show A.units + 1 ≤ 4500; exact lbk 1 hu rfl) | (show A.units + 2 ≤ 4500; exact lbk 2 hu rfl)); intro hu1
  refine (?_ : Ar (A1.units < cLine) _) (Nat.lt_of_le_of_lt hu1 (by decide)); intro hroom
  clear hA
  repeat walk_at "#3;tl_fb tl_fl;Set Get UI GM CO"
  refine nsGetM (r := some (.ref q.x)) Dm 0 rfl (by kernel_rfl!) ?_
  repeat walk_at "#3;tl_fb tl_fl;Set Get UI GM CO"
  refine nsGetM (r := some (.ref col)) Dm 0 rfl (by kernel_rfl!) ?_
  repeat walk_at "#3;tl_fb tl_fl;Set Get UI GM CO"
  refine (?_ : Ar _ _) (kp_mem Dm); intro kq
  refine keyOp hh1 (by first | (refine lb (by assumption) ?_; rfl) | omega) (by first | (refine lb (by assumption) ?_; rfl) | omega) h _ _ _ _ fa ffd R hcmp .Lt C q.x col q.la q.ca a2 c2 (X.keeps kq) (hK.kl (KL.of_kp kq)) (kq _ _ hfa) (kx.kp kq) (kc0.kp kq) rfl ?_
  intro h1 tk1 kp1
  have Dm := memKp Dm kp1
  cases hc1 : opB .Lt (R q.la q.ca a2 c2) 0 with
  | false =>
    repeat walk_at "#3;tl_fb tl_fl;Set Get UI GM CO"
    exact kstop (by rw [hc1]; rfl) h1 _ Dm
  | true =>
    repeat walk_at "#3;tl_fb tl_fl;Set Get UI GM CO"
    refine nsGetM (r := some (.ref q.y)) Dm 0 rfl (by kernel_rfl!) ?_
    repeat walk_at "#3;tl_fb tl_fl;Set Get UI GM CO"
    refine nsGetM (r := some (.ref col)) Dm 0 rfl (by kernel_rfl!) ?_
    repeat walk_at "#3;tl_fb tl_fl;Set Get UI GM CO"
    refine (?_ : Ar _ _) (kp_mem Dm); intro kq
    refine keyOp hh1 (by first | (refine lb (by assumption) ?_; rfl) | omega) (by first | (refine lb (by assumption) ?_; rfl) | omega) h1 _ _ _ _ fa ffd R hcmp .LtE C q.y col q.lb q.cb a2 c2 (X.keeps kq) (hK.kl (KL.of_kp kq)) (kq _ _ hfa) (ky.kp kq) (kc0.kp kq) rfl ?_
    intro h2 tk2 kp2
    have Dm := memKp Dm kp2
    cases hc2 : opB .LtE (R q.lb q.cb a2 c2) 0 with
    | false =>
      repeat walk_at "#3;tl_fb tl_fl;Set Get UI GM CO"
      exact kstop (by rw [hc1, hc2]; rfl) h2 _ Dm
    | true =>
      have hcc : (opB .Lt (R q.la q.ca a2 c2) 0 && opB .LtE (R q.lb q.cb a2 c2) 0) = true := by rw [hc1, hc2]; rfl
      repeat walk_at "#3;tl_fb tl_fl;Set Get UI GM CO"
      refine nsGetM (r := some (.ref q.hit)) Dm 0 rfl (by kernel_rfl!) ?_
      repeat walk_at "#3;tl_fb tl_fl;Set Get UI GM CO"
      refine nsSetB rfl Dm 0 rfl (by kernel_rfl!) ((?_ : Au _ _ _ _ _ _ _) _ (nsPutD (o' := fun tk => frO (E7 w.params prog l col t1 t2 t3 t4 t5 t6 t7 (.ref q.hit) (.ref q.hit) (.ref q.x) (.ref q.y)) 7) Dm 0 rfl (by intro tk; kernel_rfl!) (fun _ => rfl)))
      clear Dm; intro h3 Dm; dsimp only [List.set] at Dm
      repeat walk_at "#3;tl_fb tl_fl;Set Get UI GM CO"
      refine nsGetM (r := some (.ref q.x)) Dm 0 rfl (by kernel_rfl!) ?_
      repeat walk_at "#3;tl_fb tl_fl;Set Get UI GM CO"
      refine nsGetM (r := some (.ref q.y)) Dm 0 rfl (by kernel_rfl!) ?_
      repeat walk_at "#3;tl_fb tl_fl;Set Get UI GM CO"
      refine (?_ : Ar _ _) (kp_mem Dm); intro kq
      refine keyOp hh1 (by first | (refine lb (by assumption) ?_; rfl) | omega) (by first | (refine lb (by assumption) ?_; rfl) | omega) h3 _ _ _ _ fa ffd R hcmp .Eq C q.x q.y q.la q.ca q.lb q.cb (X.keeps kq) (hK.kl (KL.of_kp kq)) (kq _ _ hfa) (kx.kp kq) (ky.kp kq) rfl ?_
      intro h4 tk4 kp4
      have Dm := memKp Dm kp4
      rw [hne]
      repeat walk_at "#3;tl_fb tl_fl;Set Get UI GM CO"
      refine nsGetM (r := some (.ref prog)) Dm 0 rfl (by kernel_rfl!) ?_
      repeat walk_at "#3;tl_fb tl_fl;Set Get UI GM CO"
      refine gmSearch hh1 (by first | (refine lb (by assumption) ?_; rfl) | omega) (by first | (refine lb (by assumption) ?_; rfl) | omega) (X.keeps (kp_mem Dm)) (hP.kp (kp_mem Dm)) ?_
      intro sf5 h5 tk5 kp5 hsf
      have Dm := memKp Dm kp5
      obtain ⟨_, s1⟩ := hsf.f
      repeat walk_at "#3;tl_fb tl_fl;Set Get UI GM CO"
      refine nsGetM (r := some (.ref l)) Dm 0 rfl (by kernel_rfl!) ?_
      repeat walk_at "#3;tl_fb tl_fl;Set Get UI GM CO"
      refine nsGetM (r := some (.ref q.y)) Dm 0 rfl (by kernel_rfl!) ?_
      repeat walk_at "#3;tl_fb tl_fl;Set Get UI GM CO"
      refine wpAny_load s1 ?_
      repeat walk_at "#3;tl_fb tl_fl;Set Get UI GM CO"
      refine (?_ : Ar _ _) (kp_mem Dm); intro kq
      refine (?_ : Ar (RowH h5 l C hs) _) (⟨hR.1.elim fun nx e => ⟨nx, kq _ _ e⟩, fun z hz => ⟨(hR.2 z hz).1.kp kq, (hR.2 z hz).2.1.kp kq, (hR.2 z hz).2.2.kp kq⟩⟩); intro hR5
      refine srchK hh1 hd1 hu1 h5 _ _ _ _ l sf5 hs C q.y fa ffd R hcmp q.lb q.cb (hK.kl (KL.of_kp kq)) (kq _ _ hfa) (ky.kp kq) (X.keeps kq) hR5 hsf ?_
      intro h6 tk6 kp6
      have Dm := memKp Dm kp6
      cases hf : hs.find? (ge R q.lb q.cb) with
      | none =>
        try dsimp -zeta only
        repeat walk_at "#3;tl_fb tl_fl;Set Get UI GM CO"
        refine nsSetB rfl Dm 0 rfl (by kernel_rfl!) ((?_ : Au _ _ _ _ _ _ _) _ (nsPutD (o' := fun tk => frO (E7 w.params prog l col t1 t2 t3 t4 t5 t6 t7 .none (.ref q.hit) (.ref q.x) (.ref q.y)) 7) Dm 0 rfl (by intro tk; kernel_rfl!) (fun _ => rfl)))
        clear Dm; intro h7 Dm; dsimp only [List.set] at Dm
        repeat walk_at "#3;tl_fb tl_fl;Set Get UI GM CO"
        refine nsGetM (r := some .none) Dm 0 rfl (by kernel_rfl!) ?_
        repeat walk_at "#3;tl_fb tl_fl;Set Get UI GM CO"
        exact kbrk hcc hf h7 _ Dm
      | some e =>
        have he : e ∈ hs := List.mem_of_find?_eq_some hf
        have hHe := (hR.2 e he).1
        obtain ⟨_, _, fE⟩ := hHe.f
        try dsimp -zeta only
        repeat walk_at "#3;tl_fb tl_fl;Set Get UI GM CO"
        refine nsSetB rfl Dm 0 rfl (by kernel_rfl!) ((?_ : Au _ _ _ _ _ _ _) _ (nsPutD (o' := fun tk => frO (E7 w.params prog l col t1 t2 t3 t4 t5 t6 t7 (.ref e.hit) (.ref q.hit) (.ref q.x) (.ref q.y)) 7) Dm 0 rfl (by intro tk; kernel_rfl!) (fun _ => rfl)))
        clear Dm; intro h7 Dm; dsimp only [List.set] at Dm
        repeat walk_at "#3;tl_fb tl_fl;Set Get UI GM CO"
        refine nsGetM (r := some (.ref e.hit)) Dm 0 rfl (by kernel_rfl!) ?_
        repeat walk_at "#3;tl_fb tl_fl;Set Get UI GM CO"
        refine nsGetM (r := some (.ref e.hit)) Dm 0 rfl (by kernel_rfl!) ?_
        repeat walk_at "#3;tl_fb tl_fl;Set Get UI GM CO"
        refine gmSpan hh1 (by first | (refine lb (by assumption) ?_; rfl) | omega) (by first | (refine lb (by assumption) ?_; rfl) | omega) (X.keeps (kp_mem Dm)) (hHe.kp (kp_mem Dm)) ?_
        intro sp8 h8 tk8 kp8 hsp
        have Dm := memKp Dm kp8
        obtain ⟨_, z1⟩ := hsp.f
        repeat walk_at "#3;tl_fb tl_fl;Set Get UI GM CO"
        refine wpAny_load z1 ?_
        repeat walk_at "#3;tl_fb tl_fl;Set Get UI GM CO"
        refine spanC hh1 (by first | (refine lb (by assumption) ?_; rfl) | omega) (by first | (refine lb (by assumption) ?_; rfl) | omega) (X.keeps (kp_mem Dm)) hsp ?_
        intro tp h9 tk9 kp9 htp
        have Dm := memKp Dm kp9
        try dsimp only at htp
        try dsimp -zeta only
        repeat walk_at "#3;tl_fb tl_fl;Set Get UI GM CO"
        refine unpK hh1 htp rfl ?_
        intro h10 kp10
        have Dm := memKp Dm kp10
        repeat walk_at "#3;tl_fb tl_fl;Set Get UI GM CO"
        refine nsSetB rfl Dm 0 rfl (by kernel_rfl!) ((?_ : Au _ _ _ _ _ _ _) _ (nsPutD (o' := fun tk => frO (E7 w.params prog l col t1 t2 t3 t4 t5 t6 t7 (.ref e.hit) (.ref q.hit) (.ref e.x) (.ref q.y)) 7) Dm 0 rfl (by intro tk; kernel_rfl!) (fun _ => rfl)))
        clear Dm; intro h11 Dm; dsimp only [List.set] at Dm
        repeat walk_at "#3;tl_fb tl_fl;Set Get UI GM CO"
        refine nsSetB rfl Dm 0 rfl (by kernel_rfl!) ((?_ : Au _ _ _ _ _ _ _) _ (nsPutD (o' := fun tk => frO (E7 w.params prog l col t1 t2 t3 t4 t5 t6 t7 (.ref e.hit) (.ref q.hit) (.ref e.x) (.ref e.y)) 7) Dm 0 rfl (by intro tk; kernel_rfl!) (fun _ => rfl)))
        clear Dm; intro h12 Dm; dsimp only [List.set] at Dm
        repeat walk_at "#3;tl_fb tl_fl;Set Get UI GM CO"
        exact ⟨rfl, kcont hcc e hf h12 _ Dm⟩

end Mine
namespace Mine
set_option tactic.hygienic false
noncomputable def code20 : Obj := ⟨(.type "code"), none, (.fields #[(.str (Str.ofString "search_reverse") 189), (.str (Str.ofString "search_reverse") 190), (.str (Str.ofString "/claim/cut.py") 191), (.int (2) 0), (.int (3) 0), (.int (0) 0), (.int (0) 0), (.int (3) 0), (.ref 15), (.bool true), (.int (181) 0), (.ref 16), .none, (.ref 17), (.ref 18), (.ref 19), (.int (199) 0), (.int (2) 0), (.str (Str.ofString "/claim/cut.py") 200)]), #[]⟩
theorem k20 {P : Params} {h : Heap} (x : (KX P).In h) : h.get? 20 = some code20 := x 20 _ (by kernel_rfl)
noncomputable def cond (R : Int → Int → Int → Int → Int) (a c : Int) (q : HitD) : Bool := opB .Lt (R q.la q.ca a c) 0 && opB .LtE (R q.lb q.cb a c) 0
noncomputable def revS (R : Int → Int → Int → Int → Int) (a c : Int) : List HitD → Value → Value
  | [], v => v
  | q :: rest, v => if cond R a c q then revS R a c rest (.ref q.hit) else v
noncomputable def Chain (R : Int → Int → Int → Int → Int) (hs : List HitD) : Prop := ∀ i q, hs[i]? = some q → opB .Eq (R q.la q.ca q.lb q.cb) 0 = false ∧ hs.find? (ge R q.lb q.cb) = hs[i + 1]?
theorem revLoop (hh : A.handled = none) (hd : A.depth ≤ 500) (hu : A.units ≤ 4000) (hb : Heap) (g : Array GenState) (d : Drawn) (os : OsState) {R' : Result → Shared → Prop} (L l prog col C fa : Addr) (hs : List HitD) (ffd : FuncData) (R : Int → Int → Int → Int → Int) (hcmp : CmpC w (.ref fa) R) (a2 c2 : Int) (t1 t2 t3 t4 t5 t6 t7 : Tok)
  (X : (KX w.params).In hb) (hR : RowH hb l C hs) (hch : Chain R hs) (hP : ProgP hb prog) (hK : IsK w.params hb C (.ref fa)) (hfa : hb.get? fa = some ⟨.type "function", none, .func ffd, #[]⟩) (kc0 : Key hb C col a2 c2) :
  ∀ (rest : List HitD) (i : Nat) (q : HitD) (h : Heap) (t : Nat) (v : Value), hs.drop i = q :: rest → Mem hb h [] [(L, frO (E7 w.params prog l col t1 t2 t3 t4 t5 t6 t7 (.ref q.hit) v (.ref q.x) (.ref q.y)) 7)] →
  (∀ h' tk m i j, Mem hb h' [] [(L, frO (E7 w.params prog l col t1 t2 t3 t4 t5 t6 t7 m (revS R a2 c2 (q :: rest) v) i j) 7)] → R' (.ok .next) ⟨h', g, d, tk, os⟩) →
  codeAny (MM w) A (srWC L) R' ⟨h, g, d, t, os⟩ := by
  intro rest
  induction rest with
  | nil =>
    intro i q h t v hdr Dm k
    have hi : hs[i]? = some q := by
      have := congrArg (fun l => l[0]?) hdr
      simpa using this
    have hi1 : hs[i + 1]? = none := by
      have := congrArg (fun l => l[1]?) hdr
      simpa using this
    obtain ⟨c1, c2'⟩ := hch i q hi
    refine revTurn hh hd hu hb h g d t os L l prog col C fa hs ffd R hcmp a2 c2 q v t1 t2 t3 t4 t5 t6 t7 X hR (List.mem_of_getElem? hi) hP hK hfa kc0 Dm c1 ?_ ?_ ?_
    · intro hc h' tk Dm'
      refine k h' tk (.ref q.hit) (.ref q.x) (.ref q.y) ?_
      rw [revS, show cond R a2 c2 q = false from hc]
      exact Dm'
    · intro hc hf h' tk Dm'
      refine k h' tk .none (.ref q.x) (.ref q.y) ?_
      rw [revS, show cond R a2 c2 q = true from hc]
      exact Dm'
    · intro hc e hf
      rw [c2', hi1] at hf
      cases hf
  | cons q' rest ih =>
    intro i q h t v hdr Dm k
    have hi : hs[i]? = some q := by
      have := congrArg (fun l => l[0]?) hdr
      simpa using this
    have hi1 : hs[i + 1]? = some q' := by
      have := congrArg (fun l => l[1]?) hdr
      simpa using this
    obtain ⟨c1, c2'⟩ := hch i q hi
    refine revTurn hh hd hu hb h g d t os L l prog col C fa hs ffd R hcmp a2 c2 q v t1 t2 t3 t4 t5 t6 t7 X hR (List.mem_of_getElem? hi) hP hK hfa kc0 Dm c1 ?_ ?_ ?_
    · intro hc h' tk Dm'
      refine k h' tk (.ref q.hit) (.ref q.x) (.ref q.y) ?_
      rw [revS, show cond R a2 c2 q = false from hc]
      exact Dm'
    · intro hc hf
      rw [c2', hi1] at hf
      cases hf
    · intro hc e hf h' tk Dm'
      rw [c2', hi1] at hf
      cases hf
      refine ih (i + 1) q' h' tk (.ref q.hit) (by rw [← List.drop_drop, hdr]; rfl) Dm' ?_
      intro h'' tk' m i' j' Dm''
      refine k h'' tk' m i' j' ?_
      rw [revS, show cond R a2 c2 q = true from hc]
      exact Dm''
theorem sr (hh : A.handled = none) (hd : A.depth ≤ 450) (hu : A.units ≤ 3500) (h : Heap) (g : Array GenState) (d : Drawn) (t : Nat) (os : OsState) (l prog col C fa : Addr) (hs : List HitD) (ffd : FuncData) (R : Int → Int → Int → Int → Int) (hcmp : CmpC w (.ref fa) R) (a2 c2 : Int)
  (X : (KX w.params).In h) (hR : RowH h l C hs) (hch : Chain R hs) (hP : ProgP h prog) (hK : IsK w.params h C (.ref fa)) (hfa : h.get? fa = some ⟨.type "function", none, .func ffd, #[]⟩) (kc0 : Key h C col a2 c2)
  (k : ∀ h' tk, Kp h h' → Q (revS R a2 c2 hs .none) ⟨h', g, d, tk, os⟩) :
  wpAny (MM w) A (call (.ref 21) [.ref prog, .ref l, .ref col] []) Q E ⟨h, g, d, t, os⟩ := by
  have h21 := k21 X
  have h20 := k20 X
  unfold code20 at h20
  refine wpAny_call (codeAny_of_tree ?_)
  show wpAny _ _ (callAny (.ref 21) _) _ _ _
  refine noE ?_
  refine (?_ : Ar _ _) (Mem.start h); intro Dm
  repeat walk_at "#3;tl_fb tl_fl;Set Get EF UI GM"
  refine allocB ((?_ : Aa _ _ _ _ _ _ (⟨.type "frame", none, .dict #[] 0, #[]⟩) _) _ _ (Mem.alloc Dm rfl))
  clear Dm; intro L hL Dm
  repeat walk_at "#3;tl_fb tl_fl;Set Get EF UI GM"
  refine nsSetB rfl Dm 0 rfl (by kernel_rfl!) ((?_ : Au _ _ _ _ _ _ _) _ (nsPutD (o' := fun tk => frO #[en w.params "prog" tk (.ref prog)] 1) Dm 0 rfl (by intro tk; kernel_rfl!) (fun _ => rfl)))
  clear Dm; intro hL2 Dm; dsimp only [List.set] at Dm
  repeat walk_at "#3;tl_fb tl_fl;Set Get EF UI GM"
  refine nsSetB rfl Dm 0 rfl (by kernel_rfl!) ((?_ : Au _ _ _ _ _ _ _) _ (nsPutD (o' := fun tk => frO #[en w.params "prog" t (.ref prog), en w.params "chars" tk (.ref l)] 2) Dm 0 rfl (by intro tk; kernel_rfl!) (fun _ => rfl)))
  clear Dm; intro hL3 Dm; dsimp only [List.set] at Dm
  repeat walk_at "#3;tl_fb tl_fl;Set Get EF UI GM"
  refine nsSetB rfl Dm 0 rfl (by kernel_rfl!) ((?_ : Au _ _ _ _ _ _ _) _ (nsPutD (o' := fun tk => frO #[en w.params "prog" t (.ref prog), en w.params "chars" (t + 1) (.ref l), en w.params "col" tk (.ref col)] 3) Dm 0 rfl (by intro tk; kernel_rfl!) (fun _ => rfl)))
  clear Dm; intro hL4 Dm; dsimp only [List.set] at Dm
  repeat walk_at "#3;tl_fb tl_fl;Set Get EF UI GM"
  refine wpAny_enterFrame (nolim (X.keeps (kp_mem Dm))) (Nat.lt_of_le_of_lt hd (by decide)) ?_
  repeat walk_at "#3;tl_fb tl_fl;Set Get EF UI GM"
  refine ⟨rfl, codeAny_func (body := srB) (env := srenv L) ?_⟩
  refine (?_ : Ar ((A.deeper (srenv L)).handled = none) _) (hh); intro dh
  refine (?_ : Ar ((A.deeper (srenv L)).depth ≤ 500) _) (by show A.depth + 1 ≤ 500; exact lbk 1 hd rfl); intro dd
  refine (?_ : Ar ((A.deeper (srenv L)).units ≤ 4000) _) (by show A.units + 3 ≤ 4000; exact lbk 3 hu rfl); intro du
  refine (?_ : Ar ((A.deeper (srenv L)).units < cLine) _) (Nat.lt_of_le_of_lt du (by decide)); intro hroom
  refine noE ?_
  repeat walk_at "#3;tl_fb tl_fl;Set Get EF UI GM"
  refine nsGetM (r := some (.ref prog)) Dm 0 rfl (by kernel_rfl!) ?_
  repeat walk_at "#3;tl_fb tl_fl;Set Get EF UI GM"
  refine gmSearch dh (by first | (refine lb (by assumption) ?_; rfl) | omega) (by first | (refine lb (by assumption) ?_; rfl) | omega) (X.keeps (kp_mem Dm)) (hP.kp (kp_mem Dm)) ?_
  intro sf5 h5 tk5 kp5 hsf
  have Dm := memKp Dm kp5
  obtain ⟨_, s1⟩ := hsf.f
  repeat walk_at "#3;tl_fb tl_fl;Set Get EF UI GM"
  refine nsGetM (r := some (.ref l)) Dm 0 rfl (by kernel_rfl!) ?_
  repeat walk_at "#3;tl_fb tl_fl;Set Get EF UI GM"
  refine wpAny_load s1 ?_
  repeat walk_at "#3;tl_fb tl_fl;Set Get EF UI GM"
  refine (?_ : Ar _ _) (kp_mem Dm); intro kq
  refine (?_ : Ar (RowH h5 l C hs) _) (⟨hR.1.elim fun nx e => ⟨nx, kq _ _ e⟩, fun z hz => ⟨(hR.2 z hz).1.kp kq, (hR.2 z hz).2.1.kp kq, (hR.2 z hz).2.2.kp kq⟩⟩); intro hR5
  refine srchN dh (by first | (refine lb (by assumption) ?_; rfl) | omega) (by first | (refine lb (by assumption) ?_; rfl) | omega) h5 _ _ _ _ l sf5 hs C (X.keeps kq) hR5 hsf ?_
  intro h6 tk6 kp6
  have Dm := memKp Dm kp6
  cases hs with
  | nil =>
    dsimp only [List.head?]
    repeat walk_at "#3;tl_fb tl_fl;Set Get EF UI GM"
    refine nsSetB rfl Dm 0 rfl (by kernel_rfl!) ((?_ : Au _ _ _ _ _ _ _) _ (nsPutD (o' := fun tk => frO #[en w.params "prog" t (.ref prog), en w.params "chars" (t + 1) (.ref l), en w.params "col" (t + 1 + 1) (.ref col), en w.params "m" tk .none] 4) Dm 0 rfl (by intro tk; kernel_rfl!) (fun _ => rfl)))
    clear Dm; intro h7 Dm; dsimp only [List.set] at Dm
    repeat walk_at "#3;tl_fb tl_fl;Set Get EF UI GM"
    refine nsGetM (r := some .none) Dm 0 rfl (by kernel_rfl!) ?_
    repeat walk_at "#3;tl_fb tl_fl;Set Get EF UI GM"
    exact k h7 _ (kp_mem Dm)
  | cons e rest =>
    have hHe := (hR.2 e (.head _)).1
    obtain ⟨_, _, fE⟩ := hHe.f
    dsimp only [List.head?]
    repeat walk_at "#3;tl_fb tl_fl;Set Get EF UI GM"
    refine nsSetB rfl Dm 0 rfl (by kernel_rfl!) ((?_ : Au _ _ _ _ _ _ _) _ (nsPutD (o' := fun tk => frO #[en w.params "prog" t (.ref prog), en w.params "chars" (t + 1) (.ref l), en w.params "col" (t + 1 + 1) (.ref col), en w.params "m" tk (.ref e.hit)] 4) Dm 0 rfl (by intro tk; kernel_rfl!) (fun _ => rfl)))
    clear Dm; intro h7 Dm; dsimp only [List.set] at Dm
    repeat walk_at "#3;tl_fb tl_fl;Set Get EF UI GM"
    refine nsGetM (r := some (.ref e.hit)) Dm 0 rfl (by kernel_rfl!) ?_
    repeat walk_at "#3;tl_fb tl_fl;Set Get EF UI GM"
    refine nsSetB rfl Dm 0 rfl (by kernel_rfl!) ((?_ : Au _ _ _ _ _ _ _) _ (nsPutD (o' := fun tk => frO #[en w.params "prog" t (.ref prog), en w.params "chars" (t + 1) (.ref l), en w.params "col" (t + 1 + 1) (.ref col), en w.params "m" tk6 (.ref e.hit), en w.params "found" tk .none] 5) Dm 0 rfl (by intro tk; kernel_rfl!) (fun _ => rfl)))
    clear Dm; intro h8 Dm; dsimp only [List.set] at Dm
    repeat walk_at "#3;tl_fb tl_fl;Set Get EF UI GM"
    refine nsGetM (r := some (.ref e.hit)) Dm 0 rfl (by kernel_rfl!) ?_
    repeat walk_at "#3;tl_fb tl_fl;Set Get EF UI GM"
    refine gmSpan dh (by first | (refine lb (by assumption) ?_; rfl) | omega) (by first | (refine lb (by assumption) ?_; rfl) | omega) (X.keeps (kp_mem Dm)) (hHe.kp (kp_mem Dm)) ?_
    intro sp9 h9 tk9 kp9 hsp
    have Dm := memKp Dm kp9
    obtain ⟨_, z1⟩ := hsp.f
    repeat walk_at "#3;tl_fb tl_fl;Set Get EF UI GM"
    refine wpAny_load z1 ?_
    repeat walk_at "#3;tl_fb tl_fl;Set Get EF UI GM"
    refine spanC dh (by first | (refine lb (by assumption) ?_; rfl) | omega) (by first | (refine lb (by assumption) ?_; rfl) | omega) (X.keeps (kp_mem Dm)) hsp ?_
    intro tp h10 tk10 kp10 htp
    have Dm := memKp Dm kp10
    try dsimp only at htp
    try dsimp -zeta only
    repeat walk_at "#3;tl_fb tl_fl;Set Get EF UI GM"
    refine unpK dh htp rfl ?_
    intro h11 kp11
    have Dm := memKp Dm kp11
    repeat walk_at "#3;tl_fb tl_fl;Set Get EF UI GM"
    refine nsSetB rfl Dm 0 rfl (by kernel_rfl!) ((?_ : Au _ _ _ _ _ _ _) _ (nsPutD (o' := fun tk => frO #[en w.params "prog" t (.ref prog), en w.params "chars" (t + 1) (.ref l), en w.params "col" (t + 1 + 1) (.ref col), en w.params "m" tk6 (.ref e.hit), en w.params "found" (tk6 + 1) .none, en w.params "i" tk (.ref e.x)] 6) Dm 0 rfl (by intro tk; kernel_rfl!) (fun _ => rfl)))
    clear Dm; intro h12 Dm; dsimp only [List.set] at Dm
    repeat walk_at "#3;tl_fb tl_fl;Set Get EF UI GM"
    refine nsSetB rfl Dm 0 rfl (by kernel_rfl!) ((?_ : Au _ _ _ _ _ _ _) _ (nsPutD (o' := fun tk => frO (E7 w.params prog l col t (t + 1) (t + 1 + 1) tk6 (tk6 + 1) tk10 tk (.ref e.hit) .none (.ref e.x) (.ref e.y)) 7) Dm 0 rfl (by intro tk; kernel_rfl!) (fun _ => rfl)))
    clear Dm; intro h13 Dm; dsimp only [List.set] at Dm
    repeat walk_at "#3;tl_fb tl_fl;Set Get EF UI GM"
    refine wpAny_run ?_
    show codeAny _ _ (srWC L) _ _
    refine revLoop dh dd du h _ _ _ L l prog col C fa (e :: rest) ffd R hcmp a2 c2 t (t + 1) (t + 1 + 1) tk6 (tk6 + 1) tk10 (tk10 + 1) X hR hch hP hK hfa kc0 rest 0 e h13 _ .none rfl Dm ?_
    intro h14 tk14 m i j Dm
    try dsimp -zeta only
    repeat walk_at "#3;tl_fb tl_fl;Set Get EF UI GM"
    refine nsGetM (r := some (revS R a2 c2 (e :: rest) .none)) Dm 0 rfl (by kernel_rfl!) ?_
    repeat walk_at "#3;tl_fb tl_fl;Set Get EF UI GM"

    exact k h14 _ (kp_mem Dm)

end Mine
namespace Mine
noncomputable def txt (l c : Int) : Str := Str.ofString (toString l) ++ Str.ofString "." ++ Str.ofString (toString c)
theorem pct (l c : Int) (h1 : 0 ≤ l) (h2 : l < 10 ^ 10) (h3 : 0 ≤ c) (h4 : c < 10 ^ 10) (t : Tok) (b : Addr) (u v : Tok) : Meets (Builtin.«str.__mod__» ⟨[.str ⟨#[37, 100, 46, 37, 100]⟩ t, .ref b], []⟩) (fun _ R s => IsTup s.heap b #[.int l u, .int c v] ∧ ∀ t' k, R (.ok (.ret (.str (txt l c) t'))) { s with toks := k }) := by
  unfold txt
  kpt_run

end Mine
namespace Mine
theorem num_digits {n : Int} (h : 0 ≤ n) : ∀ c ∈ (Str.ofString (toString n)).cps.toList, 48 ≤ c ∧ c ≤ 57 := by
  obtain ⟨m, rfl⟩ := Int.eq_ofNat_of_zero_le h
  intro c hc
  rw [KIN.signs_num] at hc
  obtain ⟨ch, hch, e⟩ := List.mem_map.mp hc
  rw [← e]
  exact digit_range (Nat.isDigit_of_mem_toDigits (by decide) (by decide) hch)
theorem cnt_zero {k : Nat} : ∀ {l : List Nat}, (∀ x ∈ l, x ≠ k) → PyProof.Rows.cnt k l = 0
  | [], _ => PyProof.Rows.cnt_nil k
  | x :: r, h => by
    rw [PyProof.Rows.cnt_cons, if_neg (h x (.head _)), cnt_zero fun y hy => h y (.tail _ hy)]; rfl
theorem cnt_app (k : Nat) : ∀ (l r : List Nat), PyProof.Rows.cnt k (l ++ r) = PyProof.Rows.cnt k l + PyProof.Rows.cnt k r
  | [], r => by rw [List.nil_append, PyProof.Rows.cnt_nil]; omega
  | x :: l, r => by
    rw [List.cons_append, PyProof.Rows.cnt_cons, PyProof.Rows.cnt_cons, cnt_app k l r]; omega
theorem cut_eq {k : Nat} : ∀ {p a q b : List Nat}, (∀ x ∈ p, x ≠ k) → (∀ x ∈ a, x ≠ k) → p ++ k :: q = a ++ k :: b → p = a ∧ q = b
  | [], [], q, b, _, _, e => ⟨rfl, (List.cons.inj e).2⟩
  | [], y :: a, q, b, _, ha, e => absurd (List.cons.inj e).1.symm (ha y (.head _))
  | x :: p, [], q, b, hp, _, e => absurd (List.cons.inj e).1 (hp x (.head _))
  | x :: p, y :: a, q, b, hp, ha, e => by
    obtain ⟨e1, e2⟩ := List.cons.inj e
    obtain ⟨e3, e4⟩ := cut_eq (fun z hz => hp z (.tail _ hz)) (fun z hz => ha z (.tail _ hz)) e2
    exact ⟨by rw [e1, e3], e4⟩
theorem str_ext {a b : Str} (h : a.cps.toList = b.cps.toList) : a = b := by
  obtain ⟨⟨l⟩⟩ := a
  obtain ⟨⟨m⟩⟩ := b
  simp only at h
  rw [h]
theorem cps_app (a b : Str) : (a ++ b).cps.toList = a.cps.toList ++ b.cps.toList := by
  show (a.cps ++ b.cps).toList = _
  simp
theorem txt_list (l c : Int) : (txt l c).cps.toList = (Str.ofString (toString l)).cps.toList ++ 46 :: (Str.ofString (toString c)).cps.toList := by
  unfold txt
  rw [cps_app, cps_app, show (Str.ofString ".").cps.toList = [46] by decide +kernel, List.append_assoc]
  rfl
theorem split_txt {l c : Int} (h1 : 0 ≤ l) (h3 : 0 ≤ c) : Txt.split (txt l c) ⟨#[46]⟩ = [Str.ofString (toString l), Str.ofString (toString c)] := by
  have d1 : ∀ x ∈ (Str.ofString (toString l)).cps.toList, x ≠ 46 := fun x hx e => by have := num_digits h1 x hx; omega
  have d2 : ∀ x ∈ (Str.ofString (toString c)).cps.toList, x ≠ 46 := fun x hx e => by have := num_digits h3 x hx; omega
  have hlen := PyProof.Rows.split_len (txt l c) 46
  rw [txt_list, cnt_app, PyProof.Rows.cnt_cons, cnt_zero d1, cnt_zero d2, if_pos rfl] at hlen
  have hj := StrLaws.join_split (txt l c) ⟨#[46]⟩
  have hf := StrLaws.split_free (txt l c) 46
  generalize Txt.split (txt l c) ⟨#[46]⟩ = S at hlen hj hf
  match S, hlen with
  | [p, q], _ =>
    have e : (txt l c).cps.toList = p.cps.toList ++ 46 :: q.cps.toList := by
      rw [← hj]
      show (p ++ ⟨#[46]⟩ ++ q).cps.toList = _
      rw [cps_app, cps_app, List.append_assoc]
      rfl
    rw [txt_list] at e
    obtain ⟨e1, e2⟩ := cut_eq d1 (fun x hx e => hf p (.head _) (e ▸ hx)) e
    rw [str_ext e1, str_ext e2]
  | [], h => exact absurd h (by simp)
  | [_], h => exact absurd h (by simp)
  | _ :: _ :: _ :: r, h => exact absurd h (by simp; omega)

end Mine
namespace Mine
noncomputable def fbody (i : Nat) : List Stmt := match PySem.Challenge.pw_ij0005_01.main.body[i]? with | some (.FunctionDef _ _ b _ _ _ _ _ _ _) => b | _ => []
noncomputable def fargs (i : Nat) : Arguments := match PySem.Challenge.pw_ij0005_01.main.body[i]? with | some (.FunctionDef _ a _ _ _ _ _ _ _ _) => a | _ => default
noncomputable def fscope (i : Nat) : Scope := match PySem.Challenge.pw_ij0005_01.main.body[i]? with | some (.FunctionDef _ _ _ _ _ _ s _ _ _) => s | _ => default
noncomputable def ffdI (i : Nat) (nm : String) (pm cd : Value) : FuncData := { name := Str.ofString nm, qualname := Str.ofString nm, params := fargs i, body := .stmts (fbody i), scope := fscope i, globals := mainGlobals, closure := [], defaults := .none, kwdefaults := .none, doc := .none, pyModule := pm, annotations := none, code := cd, closureTuple := .none, builtins := builtinsNs }
noncomputable def fenvI (i : Nat) (nm : String) (a c : Nat) (L : Addr) : Env := { scope := fscope i, locals := L, globals := mainGlobals, cells := [], qual := Str.ofString (nm ++ ".<locals>."), func := some a, code := .ref c, frame := some L, builtins := builtinsNs }
theorem kf56 {P : Params} {h : Heap} (x : (KX P).In h) : h.get? 56 = some ⟨.type "function", none, .func (ffdI 8 "_law_read" (.str (Str.ofString "law_ij0005_01") 222) (.ref 55)), #[]⟩ := x 56 _ (by kernel_rfl)
noncomputable def code55 : Obj := ⟨(.type "code"), none, (.fields #[(.str (Str.ofString "_law_read") 248), (.str (Str.ofString "_law_read") 249), (.str (Str.ofString "/claim/cut.py") 250), (.int (67) 0), (.int (2) 0), (.int (0) 0), (.int (0) 0), (.int (3) 0), (.ref 50), (.bool true), (.int (181) 0), (.ref 51), .none, (.ref 52), (.ref 53), (.ref 54), (.int (253) 0), (.int (67) 0), (.str (Str.ofString "/claim/cut.py") 254)]), #[]⟩
theorem kc55 {P : Params} {h : Heap} (x : (KX P).In h) : h.get? 55 = some code55 := x 55 _ (by kernel_rfl)
theorem kf28 {P : Params} {h : Heap} (x : (KX P).In h) : h.get? 28 = some ⟨.type "function", none, .func (ffdI 2 "get_line_col" (.str (Str.ofString "cpy313.idlelib.searchengine") 187) (.ref 27)), #[]⟩ := x 28 _ (by kernel_rfl)
noncomputable def code27 : Obj := ⟨(.type "code"), none, (.fields #[(.str (Str.ofString "get_line_col") 202), (.str (Str.ofString "get_line_col") 203), (.str (Str.ofString "/claim/cut.py") 204), (.int (17) 0), (.int (1) 0), (.int (0) 0), (.int (0) 0), (.int (3) 0), (.ref 22), (.bool true), (.int (181) 0), (.ref 23), .none, (.ref 24), (.ref 25), (.ref 26), (.int (208) 0), (.int (17) 0), (.str (Str.ofString "/claim/cut.py") 209)]), #[]⟩
theorem kc27 {P : Params} {h : Heap} (x : (KX P).In h) : h.get? 27 = some code27 := x 27 _ (by kernel_rfl)
theorem kf42 {P : Params} {h : Heap} (x : (KX P).In h) : h.get? 42 = some ⟨.type "function", none, .func (ffdI 6 "_law_finds" (.str (Str.ofString "law_ij0005_01") 222) (.ref 41)), #[]⟩ := x 42 _ (by kernel_rfl)
noncomputable def code41 : Obj := ⟨(.type "code"), none, (.fields #[(.str (Str.ofString "_law_finds") 224), (.str (Str.ofString "_law_finds") 225), (.str (Str.ofString "/claim/cut.py") 226), (.int (47) 0), (.int (1) 0), (.int (0) 0), (.int (0) 0), (.int (3) 0), (.ref 36), (.bool true), (.int (181) 0), (.ref 37), .none, (.ref 38), (.ref 39), (.ref 40), (.int (234) 0), (.int (47) 0), (.str (Str.ofString "/claim/cut.py") 235)]), #[]⟩
theorem kc41 {P : Params} {h : Heap} (x : (KX P).In h) : h.get? 41 = some code41 := x 41 _ (by kernel_rfl)
theorem kf49 {P : Params} {h : Heap} (x : (KX P).In h) : h.get? 49 = some ⟨.type "function", none, .func (ffdI 7 "_law_places" (.str (Str.ofString "law_ij0005_01") 222) (.ref 48)), #[]⟩ := x 49 _ (by kernel_rfl)
noncomputable def code48 : Obj := ⟨(.type "code"), none, (.fields #[(.str (Str.ofString "_law_places") 237), (.str (Str.ofString "_law_places") 238), (.str (Str.ofString "/claim/cut.py") 239), (.int (62) 0), (.int (1) 0), (.int (0) 0), (.int (0) 0), (.int (3) 0), (.ref 43), (.bool true), (.int (181) 0), (.ref 44), .none, (.ref 45), (.ref 46), (.ref 47), (.int (245) 0), (.int (62) 0), (.str (Str.ofString "/claim/cut.py") 246)]), #[]⟩
theorem kc48 {P : Params} {h : Heap} (x : (KX P).In h) : h.get? 48 = some code48 := x 48 _ (by kernel_rfl)
theorem kf77 {P : Params} {h : Heap} (x : (KX P).In h) : h.get? 77 = some ⟨.type "function", none, .func (ffdI 11 "_law_five" (.str (Str.ofString "law_ij0005_01") 222) (.ref 76)), #[]⟩ := x 77 _ (by kernel_rfl)
noncomputable def code76 : Obj := ⟨(.type "code"), none, (.fields #[(.str (Str.ofString "_law_five") 272), (.str (Str.ofString "_law_five") 273), (.str (Str.ofString "/claim/cut.py") 274), (.int (77) 0), (.int (2) 0), (.int (0) 0), (.int (0) 0), (.int (3) 0), (.ref 71), (.bool true), (.int (181) 0), (.ref 72), .none, (.ref 73), (.ref 74), (.ref 75), (.int (277) 0), (.int (77) 0), (.str (Str.ofString "/claim/cut.py") 278)]), #[]⟩
theorem kc76 {P : Params} {h : Heap} (x : (KX P).In h) : h.get? 76 = some code76 := x 76 _ (by kernel_rfl)
theorem kf98 {P : Params} {h : Heap} (x : (KX P).In h) : h.get? 98 = some ⟨.type "function", none, .func (ffdI 14 "_law_told" (.str (Str.ofString "law_ij0005_01") 222) (.ref 97)), #[]⟩ := x 98 _ (by kernel_rfl)
noncomputable def code97 : Obj := ⟨(.type "code"), none, (.fields #[(.str (Str.ofString "_law_told") 300), (.str (Str.ofString "_law_told") 301), (.str (Str.ofString "/claim/cut.py") 302), (.int (95) 0), (.int (1) 0), (.int (0) 0), (.int (0) 0), (.int (3) 0), (.ref 92), (.bool true), (.int (181) 0), (.ref 93), .none, (.ref 94), (.ref 95), (.ref 96), (.int (304) 0), (.int (95) 0), (.str (Str.ofString "/claim/cut.py") 305)]), #[]⟩
theorem kc97 {P : Params} {h : Heap} (x : (KX P).In h) : h.get? 97 = some code97 := x 97 _ (by kernel_rfl)
theorem kf103 {P : Params} {h : Heap} (x : (KX P).In h) : h.get? 103 = some ⟨.type "function", none, .func (ffdI 15 "law" (.str (Str.ofString "law_ij0005_01") 222) (.ref 102)), #[]⟩ := x 103 _ (by kernel_rfl)
noncomputable def code102 : Obj := ⟨(.type "code"), none, (.fields #[(.str (Str.ofString "law") 307), (.str (Str.ofString "law") 308), (.str (Str.ofString "/claim/cut.py") 309), (.int (99) 0), (.int (1) 0), (.int (0) 0), (.int (0) 0), (.int (3) 0), (.ref 99), (.bool true), (.int (181) 0), (.ref 100), .none, .none, .none, (.ref 101), (.int (310) 0), (.int (99) 0), (.str (Str.ofString "/claim/cut.py") 311)]), #[]⟩
theorem kc102 {P : Params} {h : Heap} (x : (KX P).In h) : h.get? 102 = some code102 := x 102 _ (by kernel_rfl)
theorem pctOp {w : World} {A : Around} {E : Value → Shared → Prop} {h : Heap} {g : Array GenState} {d : Drawn} {t : Nat} {os : OsState} {Q : Value → Shared → Prop} {l c : Int} {b : Addr} {X : Str} {tx u v : Tok} {nx : Nat} (hX : X = ⟨#[37, 100, 46, 37, 100]⟩) (hb : h.get? b = some ⟨.type "tuple", none, .seq #[.int l u, .int c v] nx, #[]⟩) (h1 : 0 ≤ l) (h2 : l < 10 ^ 10) (h3 : 0 ≤ c) (h4 : c < 10 ^ 10)
    (k : ∀ t' tk, Q (.str (txt l c) t') ⟨h, g, d, tk, os⟩) : wpAny (MM w) A (binaryOp .Mod (.str X tx) (.ref b)) Q E ⟨h, g, d, t, os⟩ := by
  subst hX
  have hT : (⟨h, g, d, t, os⟩ : Shared).TypeIs (.ref b) "tuple" := ⟨_, hb, rfl⟩
  exact KPt.bin_left (T := "str") (U := "tuple") (op := .Mod) (by decide) (typeIs_str _ _ tx) hT F.fills_str_mod KPt.fills_tuple F.slot_str_mod
    (call_meets F.slot_str_mod (typeIs_str _ _ tx) F.entry_str_mod (F.args_str_mod_2 _ _) (pct l c h1 h2 h3 h4 tx b u v) ⟨⟨_, hb, rfl, _, rfl⟩, fun t' k' => ⟨(fun e => nomatch e), k t' k'⟩⟩)
theorem stopBO {M : Model} {A : Around} {E : Value → Shared → Prop} {s : Shared} {op : Operator} {x : Str} {tk : Tok} {v : Value} {Q : Value → Shared → Prop} (h : wpAny M A (binaryOp op (.str x tk) v) Q E s) : wpAny M A (binaryOp op (.str x tk) v) Q E s := h
local macro_rules | `(tactic| x_close) => `(tactic| (apply_assumption <;> first | exact kp_mem (by assumption) | (refine ⟨_, _, Mem.at (by assumption) 0 _ _ rfl, Mem.at (by assumption) 1 _ _ rfl, Mem.at (by assumption) 2 _ _ rfl⟩)))

end Mine
namespace Mine
theorem splitC {w : World} {A : Around} {E : Value → Shared → Prop} {h : Heap} {g : Array GenState} {d : Drawn} {t : Nat} {os : OsState} {Q : Value → Shared → Prop} {l c : Int} {tx u : Tok} (h1 : 0 ≤ l) (h2 : l < 10 ^ 10) (h3 : 0 ≤ c) (h4 : c < 10 ^ 10)
    (k : ∀ D h' tk ta tb dd nx sl, Kp h h' → h'.get? D = some ⟨.type "list", dd, .seq #[.str (Str.ofString (toString l)) ta, .str (Str.ofString (toString c)) tb] nx, sl⟩ → Q (.ref D) ⟨h', g, d, tk, os⟩) : wpAny (MM w) A (call (.builtin "str.split") [.str (txt l c) tx, .str ⟨#[46]⟩ u]) Q E ⟨h, g, d, t, os⟩ := by
  have ll : (txt l c).length ≤ 40 := by
    have a1 := toString_length_le h1 (by decide : 0 < 10) h2
    have a2 := toString_length_le h3 (by decide : 0 < 10) h4
    have e : (txt l c).length = (txt l c).cps.toList.length := by simp [Str.length]
    have e1 : (Str.ofString (toString l)).length = (Str.ofString (toString l)).cps.toList.length := by simp [Str.length]
    have e2 : (Str.ofString (toString c)).length = (Str.ofString (toString c)).cps.toList.length := by simp [Str.length]
    rw [e, txt_list, List.length_append, List.length_cons]
    omega
  have hsz : (txt l c).length ≤ sizeLine := Nat.le_trans ll (by decide)
  refine SCH.split1 (P := fun h' => Kp h h') (fun h' ob hk => hk.trans fun b o e => Heap.get?_push_of_some ob e) (Kp.refl h) (by decide) ?_ hsz ?_
  · intro D L h' k' e kp hl
    rw [split_txt h1 h3] at e
    match L, e with
    | [(a, ta), (b, tb)], e =>
      simp only [List.map_cons, List.map_nil, List.cons.injEq, and_true] at e
      obtain ⟨rfl, rfl⟩ := e
      obtain ⟨⟨cl, dd, da, sl⟩, g1, g2, nx, g3⟩ := hl
      simp only at g2 g3
      subst g2 g3
      exact k D h' k' ta tb dd nx sl kp g1
  · have e1 := StrLaws.occ_length_le (txt l c) ⟨#[46]⟩ 0 (txt l c).length ((txt l c).length + 1)
    rw [length_partsBetween]
    have : (41 : Nat) + 1 ≤ sizeLine := by decide
    omega
noncomputable def mapO (T : Addr) : Obj := ⟨.type "map", none, .fields #[.ref T, .type "int"], #[]⟩
noncomputable def tupO (it : Addr) : Obj := ⟨.type "tuple", none, .seq #[.ref it] 0, #[]⟩
local macro_rules | `(tactic| x_close) => `(tactic| (apply_assumption; assumption))
theorem mapC (w : World) : ∀ (s : Shared) (hx : (KX w.params).In s.heap)  (Q : Value → Shared → Prop) (E : Value → Shared → Prop) (D : Addr) (dd : Option Addr) (xs : Array Value) (nx : Nat) (sl : Array (Option Value))
   (hD : s.heap.get? D = some ⟨.type "list", dd, .seq xs nx, sl⟩)
   (k : ∀ m T it h' tk, Mem s.heap h' [] [(m, mapO T), (T, tupO it), (it, itO D 0 none #[])] → Q (.ref m) { s with heap := h', toks := tk }),
   wpAny (model PySem.Challenge.rw_ij0005_01.row.toRowW.prog w) AX (PySem.call (.type "map") [.type "int", .ref D] []) Q E s := by
  k_fill
  intros
  x_run
local macro_rules | `(tactic| x_close) => `(tactic| (apply_assumption <;> first | exact kp_mem (by assumption) | exact Kp.refl _))
theorem mapIt (w : World) : ∀ (s : Shared) (hx : (KX w.params).In s.heap)  (Q : Value → Shared → Prop) (E : Value → Shared → Prop) (m T : Addr)
   (hm : s.heap.get? m = some (mapO T))
   (k : ∀ h' tk, Kp s.heap h' → Q (.ref m) { s with heap := h', toks := tk }),
   wpAny (model PySem.Challenge.rw_ij0005_01.row.toRowW.prog w) AX (PySem.call (.builtin "map.__iter__") [.ref m] []) Q E s := by
  k_fill
  intros
  simp only [mapO] at *
  x_run
theorem tl_mi : typeLookup (.type "map") (Str.ofString "__iter__") = pure (some (.builtin "map.__iter__")) := by rw [typeLookup_type, builtinLookup_eq_fast]; kernel_rfl
theorem tl_mn : typeLookup (.type "map") (Str.ofString "__next__") = pure (some (.builtin "map.__next__")) := by rw [typeLookup_type, builtinLookup_eq_fast]; kernel_rfl
theorem slot_mi : Slot "map" (Str.ofString "__iter__") "map.__iter__" :=
  .of (owner := "map") (n := "__iter__") tl_mi (by decide +kernel) (by decide +kernel) (by decide +kernel)
    (by first | exact .inl (by decide +kernel) | exact .inr (by decide +kernel)) (by rw [isSubtype_type]; kernel_rfl)
theorem slot_mn : Slot "map" (Str.ofString "__next__") "map.__next__" :=
  .of (owner := "map") (n := "__next__") tl_mn (by decide +kernel) (by decide +kernel) (by decide +kernel)
    (by first | exact .inl (by decide +kernel) | exact .inr (by decide +kernel)) (by rw [isSubtype_type]; kernel_rfl)
theorem entry_mn : entryFor table "map.__next__" = some Builtin.«map.__next__» := entryFor_of_tree (by kernel_rfl)
theorem args_mn (a : Value) : argsOk "map.__next__" ⟨[a], []⟩ := by kernel_rfl

end Mine
namespace Mine
set_option tactic.hygienic false
theorem mapNext (hh : A.handled = none) (hd : A.depth ≤ 500) (hu : A.units ≤ 4000) (hb h : Heap) (g : Array GenState) (d : Drawn) (t : Nat) (os : OsState) (m T it D : Addr) (i : Nat) (dd dd' : Option Addr) (sl sl' : Array (Option Value)) (xs : Array Value) (nx : Nat) (n : Int) (tn : Tok) (h1 : 0 ≤ n) (h2 : n < 10 ^ 10)
  (hD : hb.get? D = some ⟨.type "list", dd', .seq xs nx, sl'⟩) (hx : xs[i]? = some (.str (Str.ofString (toString n)) tn)) (Dm : Mem hb h [] [(m, mapO T), (T, tupO it), (it, itO D i dd sl)])
  (k : ∀ h' tk u dd sl, Mem hb h' [] [(m, mapO T), (T, tupO it), (it, itO D (i + 1) dd sl)] → Q (some (.int n u)) ⟨h', g, d, tk, os⟩) : wpAny (MM w) A (pyNext (.ref m)) Q E ⟨h, g, d, t, os⟩ := by
  refine noE ?_
  unfold pyNext
  repeat walk_at "#3;slot_mn.bind*;"
  refine wpAny_of_eq tl_mn ?_
  repeat walk_at "#3;slot_mn.bind*;"
  refine wpAny_call_entry slot_mn ⟨_, Mem.at Dm 0 _ _ rfl, rfl⟩ entry_mn ?_ (args_mn _)
  unfold Builtin.«map.__next__»
  repeat walk_at "#3;slot_mn.bind*;"
  refine wpAny_of_eq slot_listiter_next.lookup ?_
  repeat walk_at "#3;slot_mn.bind*;"
  refine wpAny_of_eq (slot_listiter_next.bind _) ?_
  repeat walk_at "#3;slot_mn.bind*;"
  refine wpAny_call_entry slot_listiter_next ⟨_, Mem.at Dm 2 _ _ rfl, rfl⟩ entry_listiter_next ?_ (args_listiter_next _)
  unfold Builtin.«list_iterator.__next__»
  repeat walk_at "#3;slot_mn.bind*;"
  simp only [Int.toNat_natCast, hx]
  repeat walk_at "#3;slot_mn.bind*;"
  refine updB' Dm 2 rfl ((?_ : Au _ _ _ _ _ _ _) _ (updD (o' := itO D (i + 1) dd sl) Dm 2 rfl (by simp [itO, Obj.mapFields, rawInt, Array.setIfInBounds]) rfl))
  clear Dm; intro h3 Dm; dsimp only [List.set] at Dm
  repeat walk_at "#3;slot_mn.bind*;"
  refine ⟨_, rfl, ?_⟩
  repeat walk_at "#3;slot_mn.bind*;"
  change wpAny _ _ (call (.type "int") [.str (Str.ofString (toString n)) tn] []) _ _ _
  refine KIN.call_num h1 h2 ?_
  try dsimp -zeta only
  repeat walk_at "#3;slot_mn.bind*;"
  refine ⟨_, rfl, ?_⟩
  repeat walk_at "#3;slot_mn.bind*;"
  exact k h3 _ _ _ _ Dm
theorem mapEnd (hh : A.handled = none) (hd : A.depth ≤ 500) (hu : A.units ≤ 4000) (hb h : Heap) (g : Array GenState) (d : Drawn) (t : Nat) (os : OsState) (m T it D : Addr) (i : Nat) (dd dd' : Option Addr) (sl sl' : Array (Option Value)) (xs : Array Value) (nx : Nat)
  (hD : hb.get? D = some ⟨.type "list", dd', .seq xs nx, sl'⟩) (hx : xs[i]? = none) (Dm : Mem hb h [] [(m, mapO T), (T, tupO it), (it, itO D i dd sl)])
  (k : ∀ h' tk, Kp hb h' → Q none ⟨h', g, d, tk, os⟩) : wpAny (MM w) A (pyNext (.ref m)) Q E ⟨h, g, d, t, os⟩ := by
  refine noE ?_
  unfold pyNext
  repeat walk_at "#3;slot_mn.bind*;"
  refine wpAny_of_eq tl_mn ?_
  repeat walk_at "#3;slot_mn.bind*;"
  refine wpAny_call_entry slot_mn ⟨_, Mem.at Dm 0 _ _ rfl, rfl⟩ entry_mn ?_ (args_mn _)
  unfold Builtin.«map.__next__»
  repeat walk_at "#3;slot_mn.bind*;"
  refine wpAny_of_eq slot_listiter_next.lookup ?_
  repeat walk_at "#3;slot_mn.bind*;"
  refine wpAny_of_eq (slot_listiter_next.bind _) ?_
  repeat walk_at "#3;slot_mn.bind*;"
  refine wpAny_call_entry slot_listiter_next ⟨_, Mem.at Dm 2 _ _ rfl, rfl⟩ entry_listiter_next ?_ (args_listiter_next _)
  unfold Builtin.«list_iterator.__next__»
  repeat walk_at "#3;slot_mn.bind*;"
  simp only [Int.toNat_natCast, hx]
  repeat walk_at "#3;slot_mn.bind*;"
  refine updB' Dm 2 rfl ((?_ : Au _ _ _ _ _ _ _) _ (updD (o' := ⟨.type "list_iterator", dd, .fields #[.none, .int i 0], sl⟩) Dm 2 rfl (by simp [itO, Obj.mapFields, rawInt, Array.setIfInBounds]) rfl))
  clear Dm; intro h3 Dm; dsimp only [List.set] at Dm
  repeat walk_at "#3;slot_mn.bind*;"
  refine allocB ((?_ : Aa _ _ _ _ _ _ _ _) _ _ (Mem.alloc Dm rfl))
  clear Dm; intro ta h4 Dm
  repeat walk_at "#3;slot_mn.bind*;"
  refine allocB ((?_ : Aa _ _ _ _ _ _ _ _) _ _ (Mem.alloc Dm rfl))
  clear Dm; intro ex h5 Dm
  repeat walk_at "#3;slot_mn.bind*;"
  simp only [raiseNew]
  refine wpAny_bind (wpAny_handled ?_)
  rw [show A.in1.in1.handled = none from hh]
  refine wpAny_bind (wpAny_pure (wpAny_throw ?_))
  refine thenI ?_
  refine wpAny_bind (wpAny_isInstance (T := "StopIteration") (b := true) ⟨_, Mem.at Dm 0 _ _ rfl, rfl⟩ isSubtype_stop ?_)
  rw [if_pos rfl]
  exact wpAny_pure (k h5 _ (kp_mem Dm))

end Mine
namespace Mine
set_option tactic.hygienic false
theorem unpMap (hh : A.handled = none) (hd : A.depth ≤ 500) (hu : A.units ≤ 4000) (hb h : Heap) (g : Array GenState) (d : Drawn) (t : Nat) (os : OsState) (m T it D : Addr) (dd dd' : Option Addr) (sl sl' : Array (Option Value)) (nx : Nat) (l c : Int) (ta tb : Tok) (h1 : 0 ≤ l) (h2 : l < 10 ^ 10) (h3 : 0 ≤ c) (h4 : c < 10 ^ 10)
  (X : (KX w.params).In hb) (hD : hb.get? D = some ⟨.type "list", dd', .seq #[.str (Str.ofString (toString l)) ta, .str (Str.ofString (toString c)) tb] nx, sl'⟩) (Dm : Mem hb h [] [(m, mapO T), (T, tupO it), (it, itO D 0 dd sl)])
  (k : ∀ h' tk u v, Kp hb h' → Q [.int l u, .int c v] ⟨h', g, d, tk, os⟩) : wpAny (MM w) A (unpackItems (.ref m) 2 none) Q E ⟨h, g, d, t, os⟩ := by
  refine noE ?_
  refine (?_ : Ar (A.units < cLine) _) (Nat.lt_of_le_of_lt hu (by decide)); intro hroom
  unfold unpackItems
  repeat walk_at "#3;slot_mi.bind*;PN PI"
  refine wpAny_of_eq tl_mi ?_
  repeat walk_at "#3;slot_mi.bind*;PN PI"
  unfold pyIter
  repeat walk_at "#3;slot_mi.bind*;PN PI"
  refine wpAny_of_eq tl_mi ?_
  repeat walk_at "#3;slot_mi.bind*;PN PI"
  refine wpAny_of_eq tl_mi ?_
  repeat walk_at "#3;slot_mi.bind*;PN PI"
  refine deep (mapIt w ⟨h, g, d, _, os⟩ (X.keeps (kp_mem Dm)) _ _ m T (Mem.at Dm 0 _ _ rfl) ?_) hh (by first | (refine lb (by assumption) ?_; rfl) | omega) (by first | (refine lb (by assumption) ?_; rfl) | omega)
  intro h5 tk5 kp5
  refine (?_ : Ar _ _) (memKp Dm kp5); intro Dm
  try dsimp -zeta only
  repeat walk_at "#3;slot_mi.bind*;PN PI"
  refine wpAny_of_eq tl_mn ?_
  repeat walk_at "#3;slot_mi.bind*;PN PI"
  refine mapNext hh hd hu hb h5 g d _ os m T it D 0 dd dd' sl sl' _ nx l ta h1 h2 hD rfl Dm ?_
  intro h6 tk6 u6 dd6 sl6 Dm
  repeat walk_at "#3;slot_mi.bind*;PN PI"
  refine mapNext hh hd hu hb h6 g d _ os m T it D 1 dd6 dd' sl6 sl' _ nx c tb h3 h4 hD rfl Dm ?_
  intro h7 tk7 u7 dd7 sl7 Dm
  repeat walk_at "#3;slot_mi.bind*;PN PI"
  refine mapEnd hh hd hu hb h7 g d _ os m T it D 2 dd7 dd' sl7 sl' _ nx hD rfl Dm ?_
  intro h8 tk8 kp8
  clear Dm
  refine (?_ : Ar _ _) (Mem.start h8); intro Dm
  repeat walk_at "#3;slot_mi.bind*;PN PI"
  exact k h8 _ _ _ kp8

end Mine
namespace Mine
set_option tactic.hygienic false
theorem glc (hh : A.handled = none) (hd : A.depth ≤ 450) (hu : A.units ≤ 3500) (h : Heap) (g : Array GenState) (d : Drawn) (t : Nat) (os : OsState) (X : (KX w.params).In h) (l c : Int) (tx : Tok) (h1 : 0 ≤ l) (h2 : l < 10 ^ 10) (h3 : 0 ≤ c) (h4 : c < 10 ^ 10)
  (k : ∀ r h' tk u v, Kp h h' → h'.get? r = some (tup l c u v) → Q (.ref r) ⟨h', g, d, tk, os⟩) :
  wpAny (MM w) A (call (.ref 28) [.str (txt l c) tx] []) Q E ⟨h, g, d, t, os⟩ := by
  refine (?_ : Ar _ _) (kf28 X); intro f1
  refine (?_ : Ar _ _) (kc27 X); intro f2
  refine (?_ : Ar _ _) (k3 X); intro f3
  refine (?_ : Ar _ _) (k0 X); intro f0
  unfold code27 at f2
  refine wpAny_call (codeAny_of_tree ?_)
  show wpAny _ _ (callAny (.ref 28) _) _ _ _
  refine noE ?_
  refine (?_ : Ar _ _) (Mem.start h); intro Dm
  repeat walk_at "#3;;Set Get EF UI GM"
  refine allocB ((?_ : Aa _ _ _ _ _ _ (⟨.type "frame", none, .dict #[] 0, #[]⟩) _) _ _ (Mem.alloc Dm rfl))
  clear Dm; intro L hL Dm
  repeat walk_at "#3;;Set Get EF UI GM"
  refine nsSetB rfl Dm 0 rfl (by kernel_rfl!) ((?_ : Au _ _ _ _ _ _ _) _ (nsPutD (o' := fun tk => frO #[en w.params "index" tk (.str (txt l c) tx)] 1) Dm 0 rfl (by intro tk; kernel_rfl!) (fun _ => rfl)))
  clear Dm; intro hL2 Dm; dsimp only [List.set] at Dm
  repeat walk_at "#3;;Set Get EF UI GM"
  refine wpAny_enterFrame (nolim (X.keeps (kp_mem Dm))) (Nat.lt_of_le_of_lt hd (by decide)) ?_
  repeat walk_at "#3;;Set Get EF UI GM"
  refine ⟨rfl, codeAny_func (body := fbody 2) (env := fenvI 2 "get_line_col" 28 27 L) ?_⟩
  refine (?_ : Ar ((A.deeper (fenvI 2 "get_line_col" 28 27 L)).handled = none) _) (hh); intro dh
  refine (?_ : Ar ((A.deeper (fenvI 2 "get_line_col" 28 27 L)).depth ≤ 500) _) (by show A.depth + 1 ≤ 500; exact lbk 1 hd rfl); intro dd
  refine (?_ : Ar ((A.deeper (fenvI 2 "get_line_col" 28 27 L)).units ≤ 4000) _) (by show A.units + 3 ≤ 4000; exact lbk 3 hu rfl); intro du
  refine (?_ : Ar ((A.deeper (fenvI 2 "get_line_col" 28 27 L)).units < cLine) _) (Nat.lt_of_le_of_lt du (by decide)); intro hroom
  refine noE ?_
  repeat walk_at "#3;;Set Get EF UI GM"
  refine nsGetO (r := none) Dm f3 (by kernel_rfl!) ?_
  repeat walk_at "#3;;Set Get EF UI GM"
  refine nsGetO (r := some (.type "map")) Dm f0 (by kernel_rfl!) ?_
  repeat walk_at "#3;;Set Get EF UI GM"
  refine nsGetO (r := none) Dm f3 (by kernel_rfl!) ?_
  repeat walk_at "#3;;Set Get EF UI GM"
  refine nsGetO (r := some (.type "int")) Dm f0 (by kernel_rfl!) ?_
  repeat walk_at "#3;;Set Get EF UI GM"
  refine nsGetM (r := some (.str (txt l c) tx)) Dm 0 rfl (by kernel_rfl!) ?_
  repeat walk_at "#3;;Set Get EF UI GM"
  refine GM.split ?_
  repeat walk_at "#3;;Set Get EF UI GM"
  change wpAny _ _ (call (.builtin "str.split") [.str (txt l c) tx, .str ⟨#[46]⟩ (t + 1)] []) _ _ _
  refine splitC h1 h2 h3 h4 ?_
  intro D h5 tk5 ta tb ddD nxD slD kp5 hD
  refine (?_ : Ar _ _) (memKp Dm kp5); intro Dm5
  refine (?_ : Ar _ _) (kp_mem Dm5); intro kh5
  refine (?_ : Ar _ _) (Dm5); intro Dm
  repeat walk_at "#3;;Set Get EF UI GM"
  refine deep (mapC w ⟨h5, g, d, _, os⟩ (X.keeps (kp_mem Dm)) _ _ D ddD _ nxD slD hD ?_) dh (by first | (refine lb (by assumption) ?_; rfl) | omega) (by first | (refine lb (by assumption) ?_; rfl) | omega)
  intro m T it h6 tk6 D2
  refine (?_ : Ar _ _) (memKp Dm (kp_mem D2)); intro Dm
  try dsimp -zeta only
  repeat walk_at "#3;;Set Get EF UI GM"
  refine unpMap dh dd du h5 h6 g d _ os m T it D none ddD #[] slD nxD l c ta tb h1 h2 h3 h4 (X.keeps kh5) hD D2 ?_
  intro h7 tk7 u v kp7
  refine (?_ : Ar _ _) (memKp Dm5 kp7); intro Dm
  repeat walk_at "#3;;Set Get EF UI GM"
  refine nsSetB rfl Dm 0 rfl (by kernel_rfl!) ((?_ : Au _ _ _ _ _ _ _) _ (nsPutD (o' := fun tk => frO #[en w.params "index" t (.str (txt l c) tx), en w.params "line" tk (.int l u)] 2) Dm 0 rfl (by intro tk; kernel_rfl!) (fun _ => rfl)))
  clear Dm; intro h8 Dm; dsimp only [List.set] at Dm
  repeat walk_at "#3;;Set Get EF UI GM"
  refine nsSetB rfl Dm 0 rfl (by kernel_rfl!) ((?_ : Au _ _ _ _ _ _ _) _ (nsPutD (o' := fun tk => frO #[en w.params "index" t (.str (txt l c) tx), en w.params "line" tk7 (.int l u), en w.params "col" tk (.int c v)] 3) Dm 0 rfl (by intro tk; kernel_rfl!) (fun _ => rfl)))
  clear Dm; intro h9 Dm; dsimp only [List.set] at Dm
  repeat walk_at "#3;;Set Get EF UI GM"
  refine nsGetM (r := some (.int l u)) Dm 0 rfl (by kernel_rfl!) ?_
  repeat walk_at "#3;;Set Get EF UI GM"
  refine nsGetM (r := some (.int c v)) Dm 0 rfl (by kernel_rfl!) ?_
  repeat walk_at "#3;;Set Get EF UI GM"
  refine allocB ((?_ : Aa _ _ _ _ _ _ (tup l c u v) _) _ _ (Mem.alloc Dm rfl))
  clear Dm; intro tp h10 Dm
  repeat walk_at "#3;;Set Get EF UI GM"

  exact k tp h10 _ u v (kp_mem Dm) (Mem.at Dm 0 _ _ rfl)

end Mine
namespace Mine
set_option tactic.hygienic false
theorem rdC (hh : A.handled = none) (hd : A.depth ≤ 440) (hu : A.units ≤ 3400) (h : Heap) (g : Array GenState) (d : Drawn) (t : Nat) (os : OsState) (X : (KX w.params).In h) (l c : Int) (u v : Tok) (h1 : 0 ≤ l) (h2 : l < 10 ^ 10) (h3 : 0 ≤ c) (h4 : c < 10 ^ 10)
  (k : ∀ r h' tk u v, Kp h h' → h'.get? r = some (tup l c u v) → Q (.ref r) ⟨h', g, d, tk, os⟩) :
  wpAny (MM w) A (call (.ref 56) [.int l u, .int c v] []) Q E ⟨h, g, d, t, os⟩ := by
  refine (?_ : Ar _ _) (kf56 X); intro f1
  refine (?_ : Ar _ _) (kc55 X); intro f2
  refine (?_ : Ar _ _) (k3 X); intro f3
  refine (?_ : Ar _ _) (kf28 X); intro f4
  unfold code55 at f2
  refine wpAny_call (codeAny_of_tree ?_)
  show wpAny _ _ (callAny (.ref 56) _) _ _ _
  refine noE ?_
  refine (?_ : Ar _ _) (Mem.start h); intro Dm
  repeat walk_at "#3;;Set Get EF BO"
  refine allocB ((?_ : Aa _ _ _ _ _ _ (⟨.type "frame", none, .dict #[] 0, #[]⟩) _) _ _ (Mem.alloc Dm rfl))
  clear Dm; intro L hL Dm
  repeat walk_at "#3;;Set Get EF BO"
  refine nsSetB rfl Dm 0 rfl (by kernel_rfl!) ((?_ : Au _ _ _ _ _ _ _) _ (nsPutD (o' := fun tk => frO #[en w.params "line" tk (.int l u)] 1) Dm 0 rfl (by intro tk; kernel_rfl!) (fun _ => rfl)))
  clear Dm; intro hL2 Dm; dsimp only [List.set] at Dm
  repeat walk_at "#3;;Set Get EF BO"
  refine nsSetB rfl Dm 0 rfl (by kernel_rfl!) ((?_ : Au _ _ _ _ _ _ _) _ (nsPutD (o' := fun tk => frO #[en w.params "line" t (.int l u), en w.params "col" tk (.int c v)] 2) Dm 0 rfl (by intro tk; kernel_rfl!) (fun _ => rfl)))
  clear Dm; intro hL3 Dm; dsimp only [List.set] at Dm
  repeat walk_at "#3;;Set Get EF BO"
  refine wpAny_enterFrame (nolim (X.keeps (kp_mem Dm))) (Nat.lt_of_le_of_lt hd (by decide)) ?_
  repeat walk_at "#3;;Set Get EF BO"
  refine ⟨rfl, codeAny_func (body := fbody 8) (env := fenvI 8 "_law_read" 56 55 L) ?_⟩
  refine (?_ : Ar ((A.deeper (fenvI 8 "_law_read" 56 55 L)).handled = none) _) (hh); intro dh
  refine (?_ : Ar ((A.deeper (fenvI 8 "_law_read" 56 55 L)).depth ≤ 450) _) (by show A.depth + 1 ≤ 450; exact lbk 1 hd rfl); intro dd
  refine (?_ : Ar ((A.deeper (fenvI 8 "_law_read" 56 55 L)).units ≤ 3500) _) (by show A.units + 3 ≤ 3500; exact lbk 3 hu rfl); intro du
  refine (?_ : Ar ((A.deeper (fenvI 8 "_law_read" 56 55 L)).units < cLine) _) (Nat.lt_of_le_of_lt du (by decide)); intro hroom
  refine noE ?_
  repeat walk_at "#3;;Set Get EF BO"
  refine nsGetO (r := some (.ref 28)) Dm f3 (by kernel_rfl!) ?_
  repeat walk_at "#3;;Set Get EF BO"
  refine nsGetM (r := some (.int l u)) Dm 0 rfl (by kernel_rfl!) ?_
  repeat walk_at "#3;;Set Get EF BO"
  refine nsGetM (r := some (.int c v)) Dm 0 rfl (by kernel_rfl!) ?_
  repeat walk_at "#3;;Set Get EF BO"
  refine allocB ((?_ : Aa _ _ _ _ _ _ (tup l c u v) _) _ _ (Mem.alloc Dm rfl))
  clear Dm; intro tp h4' Dm
  repeat walk_at "#3;;Set Get EF BO"
  refine pctOp (by decide +kernel) (Mem.at Dm 0 _ _ rfl) h1 h2 h3 h4 ?_
  intro t5 tk5
  repeat walk_at "#3;;Set Get EF BO"
  refine glc dh dd du h4' g d _ os (X.keeps (kp_mem Dm)) l c t5 h1 h2 h3 h4 ?_
  intro r h6 tk6 u6 v6 kp6 hr
  refine (?_ : Ar _ _) (memKp Dm kp6); intro Dm
  repeat walk_at "#3;;Set Get EF BO"
  exact k r h6 _ u6 v6 (kp_mem Dm) hr

end Mine
namespace Mine
section
variable {w : World} {A : Around} {E : Value → Shared → Prop} {h : Heap} {g : Array GenState} {d : Drawn} {t : Nat} {os : OsState} {Q : Value → Shared → Prop}
theorem sumK {l : Addr} {vs : List Value} {ns : List Int} (hh : A.handled = none) (hl : h.IsList l vs.toArray) (hi : IntsAre vs ns)
    (k : ∀ h' tk t', Kp h h' → Q (.int ns.sum t') ⟨h', g, d, tk, os⟩) : wpAny (MM w) A (call (.builtin "sum") [.ref l]) Q E ⟨h, g, d, t, os⟩ := by
  obtain ⟨xs, hx⟩ := hi.allInts.items
  have hl' : (⟨h, g, d, t, os⟩ : Shared).heap.IsList l (intItems xs) := hx ▸ hl
  refine sum_intListG hh hl' fun h' tk t' hk => ?_
  have e1 : ns = xs.toList.map (·.1) := by
    rw [← nums_intItems, ← hx]
    exact (show numsOf vs.toArray.toList = ns from hi.numsOf).symm
  have e2 : preSum (numAt xs) xs.size = ns.sum := by
    rw [preSum_eq, List.take_of_length_le (by simp), e1]
  rw [e2]
  exact k h' tk t' hk
theorem sliceK {h₀ : Heap} {news : List (Addr × Obj)} {l sl : Addr} {vs : List Value} {ns : List Int} {i : Int} {u v : Tok} {da : Data} (D : Mem h₀ h [] news) (hl : h.IsList l vs.toArray) (hi : IntsAre vs ns) (hsz : vs.toArray.size ≤ sizeLine)
    (hs : h.IsSliceOf sl (.int i u) .none (.int 3 v))
    (k : ∀ r h' xs ms, Mem h₀ h' [] ((r, ⟨.type "list", none, .seq (List.toArray xs) 0, #[]⟩) :: news) → IntsAre xs ms → Q (.ref r) ⟨h', g, d, t, os⟩) : wpAny (MM w) A (getItem (.ref l) (.ref sl)) Q E ⟨h, g, d, t, os⟩ := by
  refine wpAny_getItem_list_slice (lo := some i) (hi := none) (st := some 3) hl hs (.int i u) .none (.int 3 v) (by decide) ?_ hsz
  exact k _ _ _ _ (D.alloc rfl) (hi.pick (some i) none (some 3))
theorem stopGI {M : Model} {s : Shared} {a b : Value} (x : wpAny M A (getItem a b) Q E s) : wpAny M A (getItem a b) Q E s := x
theorem stopBI {M : Model} {s : Shared} {op : Operator} {a b : Int} {u v : Tok} (x : wpAny M A (binaryOp op (.int a u) (.int b v)) Q E s) : wpAny M A (binaryOp op (.int a u) (.int b v)) Q E s := x
theorem stopCI {M : Model} {s : Shared} {op : CmpOp} {a b : Int} {u v : Tok} (x : wpAny M A (compareOp op (.int a u) (.int b v)) Q E s) : wpAny M A (compareOp op (.int a u) (.int b v)) Q E s := x
theorem addK {a b : Int} {u v : Tok} (k : Q (.int (a + b) t) ⟨h, g, d, t + 1, os⟩) : wpAny (MM w) A (binaryOp .Add (.int a u) (.int b v)) Q E ⟨h, g, d, t, os⟩ := AutoIntOps.add_0 k
theorem fdivK {a b : Int} {u v : Tok} (h0 : (b == 0) = false) (hp : Builtin.divisionGoesByPylong a b = false) (k : Q (.int (a.fdiv b) t) ⟨h, g, d, t + 1, os⟩) : wpAny (MM w) A (binaryOp .FloorDiv (.int a u) (.int b v)) Q E ⟨h, g, d, t, os⟩ := AutoIntOps.floordiv_1 (by rw [h0]; decide) (by rw [hp]; decide) k
theorem fmodK {a b : Int} {u v : Tok} (h0 : (b == 0) = false) (k : Q (.int (a.fmod b) t) ⟨h, g, d, t + 1, os⟩) : wpAny (MM w) A (binaryOp .Mod (.int a u) (.int b v)) Q E ⟨h, g, d, t, os⟩ := AutoIntOps.mod_1 (by rw [h0]; decide) k
end

end Mine
namespace Mine
theorem memRebase {h₀ h : Heap} {p n : List (Addr × Obj)} (D : Mem h₀ h [] (p ++ n)) : Mem (hideAll h (n.map (·.1))) h [] n ∧ Kp h₀ (hideAll h (n.map (·.1))) ∧ ∀ q ∈ p, (hideAll h (n.map (·.1))).get? q.1 = some q.2 := by
  have ho := D.ord
  rw [List.map_append, List.pairwise_append] at ho
  refine ⟨⟨fun b o e _ => of_hideAll _ e, fun _ hp => (nomatch hp), List.nodup_nil, fun q hq => ⟨(D.nw q (List.mem_append_right _ hq)).1, hideAll_none _ (List.mem_map_of_mem hq)⟩, ho.2.1⟩, fun b o e => ?_, fun q hq => ?_⟩
  · refine hideAll_get _ (kp_mem D _ _ e) fun m => ?_
    obtain ⟨q, hq, rfl⟩ := List.mem_map.mp m
    have := (D.nw q (List.mem_append_right _ hq)).2
    rw [e] at this; cases this
  · refine hideAll_get _ (D.nw q (List.mem_append_left _ hq)).1 fun m => ?_
    exact absurd (ho.2.2 q.1 (List.mem_map_of_mem hq) q.1 m) (Nat.lt_irrefl _)
noncomputable def riO (x left : Int) : Obj := ⟨.type "range_iterator", none, .fields #[rawInt x, rawInt left, rawInt 1], #[]⟩
noncomputable def lsO (xs : Array Value) (n : Nat) : Obj := ⟨.type "list", none, .seq xs n, #[]⟩

local macro_rules | `(tactic| x_close) => `(tactic| (apply_assumption; assumption))
theorem rangeC (w : World) : ∀ (s : Shared) (hx : (KX w.params).In s.heap) (Q : Value → Shared → Prop) (E : Value → Shared → Prop) (u : Tok)
   (k : ∀ r h' tk u1 u2 u3, Mem s.heap h' [] [(r, ⟨.type "range", none, .fields #[.int 0 u1, .int 3 u2, .int 1 u3], #[]⟩)] → Q (.ref r) { s with heap := h', toks := tk }),
   wpAny (model PySem.Challenge.rw_ij0005_01.row.toRowW.prog w) AX (PySem.call (.type "range") [.int 3 u] []) Q E s := by
  k_fill
  intros
  x_run

end Mine
namespace Mine
noncomputable def fnT : Expr := match (fbody 6)[(4 : Nat)]? with | some (.For t _ _ _ _) => t | _ => .Name Str.empty ⟨0, 0, 0, 0⟩
noncomputable def fnB : List Stmt := match (fbody 6)[(4 : Nat)]? with | some (.For _ _ b _ _) => b | _ => []
noncomputable def fnC (it L : Addr) : Code := .forLoop fnT (.ref it) fnB [] (fenvI 6 "_law_finds" 42 41 L)
theorem pyIterR {w : World} {A : Around} {E : Value → Shared → Prop} {h₀ h : Heap} {g : Array GenState} {d : Drawn} {t : Nat} {os : OsState} {news : List (Addr × Obj)} {r : Addr} {u1 u2 u3 : Tok} {Q : Value → Shared → Prop} (D : Mem h₀ h [] news) (hr : h.get? r = some ⟨.type "range", none, .fields #[.int 0 u1, .int 3 u2, .int 1 u3], #[]⟩)
    (k : ∀ it h', Mem h₀ h' [] ((it, riO 0 3) :: news) → Q (.ref it) ⟨h', g, d, t, os⟩) : wpAny (MM w) A (pyIter (.ref r)) Q E ⟨h, g, d, t, os⟩ :=
  wpAny_pyIter_range hr (by decide) (k _ _ (D.alloc rfl))
theorem pyNextR {w : World} {A : Around} {E : Value → Shared → Prop} {h₀ h : Heap} {g : Array GenState} {d : Drawn} {t : Nat} {os : OsState} {news : List (Addr × Obj)} {it : Addr} {x left : Int} {Q : Option Value → Shared → Prop} (D : Mem h₀ h [] news) (i : Nat) (hi : news[i]? = some (it, riO x left)) (hl : 0 < left)
    (k : ∀ h', Mem h₀ h' [] (news.set i (it, riO (x + 1) (left - 1))) → Q (some (.int x t)) ⟨h', g, d, t + 1, os⟩) : wpAny (MM w) A (pyNext (.ref it)) Q E ⟨h, g, d, t, os⟩ :=
  wpAny_pyNext_range_item (D.at i it _ hi) hl fun h' hI sb => k h' (memSet D i hi sb.extBut hI)
theorem pyNextE {w : World} {A : Around} {E : Value → Shared → Prop} {h₀ h : Heap} {g : Array GenState} {d : Drawn} {t : Nat} {os : OsState} {news : List (Addr × Obj)} {it : Addr} {x left : Int} {Q : Option Value → Shared → Prop} (hh : A.handled = none) (D : Mem h₀ h [] news) (i : Nat) (hi : news[i]? = some (it, riO x left)) (hl : left ≤ 0)
    (k : ∀ h', Heap.ExtBut it h h' → Q none ⟨h', g, d, t, os⟩) : wpAny (MM w) A (pyNext (.ref it)) Q E ⟨h, g, d, t, os⟩ :=
  wpAny_pyNext_range_end hh (D.at i it _ hi) hl k
noncomputable def F7 (P : Params) (l fx F : Addr) (t1 t2 t3 t4 t5 t6 t7 : Tok) (lv cv kv xv : Value) : Array DictEntry := #[en P "script" t1 (.ref l), en P "fixed" t2 (.ref fx), en P "finds" t3 (.ref F), en P "line" t4 lv, en P "col" t5 cv, en P "k" t6 kv, en P "x" t7 xv]

end Mine
namespace Mine
theorem appendM {w : World} {A : Around} {E : Value → Shared → Prop} {h₀ h : Heap} {g : Array GenState} {d : Drawn} {t : Nat} {os : OsState} {news : List (Addr × Obj)} {F : Addr} {fs : Array Value} {nf : Nat} {x : Value} {Q : Value → Shared → Prop} (D : Mem h₀ h [] news) (i : Nat) (hi : news[i]? = some (F, lsO fs nf)) (hsz : fs.size ≤ sizeLine)
    (k : ∀ h' n', Mem h₀ h' [] (news.set i (F, lsO (fs.push x) n')) → Q .none ⟨h', g, d, t, os⟩) : wpAny (MM w) A (call (.builtin "list.append") [.ref F, x]) Q E ⟨h, g, d, t, os⟩ := by
  have hF := D.at i F _ hi
  have hT : (⟨h, g, d, t, os⟩ : Shared).TypeIs (.ref F) "list" := ⟨_, hF, rfl⟩
  refine call_meets slot_list_append hT entry_list_append (args_list_append _ _) (AutoListH.list_append_list_val_0 F fs nf x hsz) ⟨hF, ?_⟩
  exact k _ _ (D.update (f := Obj.mapSeq fun y => y.push x) hi rfl)
section
variable {w : World} {A : Around} {E : Value → Shared → Prop} {h : Heap} {g : Array GenState} {d : Drawn} {t : Nat} {os : OsState} {Q : Value → Shared → Prop} {a b : Int} {u v : Tok}
theorem addL (k : ∀ u tk, Q (.int (a + b) u) ⟨h, g, d, tk, os⟩) : wpAny (MM w) A (binaryOp .Add (.int a u) (.int b v)) Q E ⟨h, g, d, t, os⟩ := addK (k _ _)
theorem fmodL (h0 : (b == 0) = false) (k : ∀ u tk, Q (.int (a.fmod b) u) ⟨h, g, d, tk, os⟩) : wpAny (MM w) A (binaryOp .Mod (.int a u) (.int b v)) Q E ⟨h, g, d, t, os⟩ := fmodK h0 (k _ _)
theorem pyl (y : Int) (n : Nat) (hn : (n.log2 / 30 + 1 ≤ 300)) : Builtin.divisionGoesByPylong y (n : Int) = false := by
  unfold Builtin.divisionGoesByPylong
  have : ¬ ((if ((n : Int) == 0) = true then 0 else (n : Int).natAbs.log2 / 30 + 1) > 300) := by
    split
    · omega
    · simp only [Int.natAbs_natCast]; omega
  simp only [decide_eq_false this, Bool.false_and]
theorem fdivL (n : Nat) (h0 : (((n : Int)) == 0) = false) (hn : n.log2 / 30 + 1 ≤ 300) (k : ∀ u tk, Q (.int (a.fdiv n) u) ⟨h, g, d, tk, os⟩) : wpAny (MM w) A (binaryOp .FloorDiv (.int a u) (.int (n : Int) v)) Q E ⟨h, g, d, t, os⟩ := fdivK h0 (pyl a n hn) (k _ _)
end

end Mine
namespace Mine
local macro_rules | `(tactic| x_close) => `(tactic| (apply_assumption <;> first | exact kp_mem (by assumption) | exact Kp.refl _))
theorem negC (w : World) : ∀ (s : Shared) (hx : (KX w.params).In s.heap) (Q : Value → Shared → Prop) (E : Value → Shared → Prop) (u : Tok)
   (k : ∀ v h' tk, Kp s.heap h' → Q (.int (-1) v) { s with heap := h', toks := tk }),
   wpAny (model PySem.Challenge.rw_ij0005_01.row.toRowW.prog w) AX (PySem.call (.builtin "int.__neg__") [.int 1 u] []) Q E s := by
  k_fill
  intros
  x_run
theorem letGoC (w : World) : ∀ (s : Shared) (hx : (KX w.params).In s.heap) (Q : Value → Shared → Prop) (E : Value → Shared → Prop)
   (k : ∀ v h' tk, Kp s.heap h' → Q v { s with heap := h', toks := tk }),
   wpAny (model PySem.Challenge.rw_ij0005_01.row.toRowW.prog w) AX (runValue (.builtin "proto.let_go" {})) Q E s := by
  k_fill
  intros
  x_run
theorem tl_neg : typeLookup (.type "int") (Str.ofString "__neg__") = pure (some (.builtin "int.__neg__")) := by rw [typeLookup_type, builtinLookup_eq_fast]; kernel_rfl
theorem slot_neg : Slot "int" (Str.ofString "__neg__") "int.__neg__" :=
  .of (owner := "int") (n := "__neg__") tl_neg (by decide +kernel) (by decide +kernel) (by decide +kernel)
    (by first | exact .inl (by decide +kernel) | exact .inr (by decide +kernel)) (by rw [isSubtype_type]; kernel_rfl)

end Mine
namespace Mine
variable {w : World} {A : Around} {Q : Value → Shared → Prop} {E : Value → Shared → Prop}
set_option tactic.hygienic false
theorem fturn (hh : A.handled = none) (hd : A.depth ≤ 440) (hu : A.units ≤ 3400) (hb h : Heap) (g : Array GenState) (d : Drawn) (t : Nat) (os : OsState) {R' : Result → Shared → Prop} (X : (KX w.params).In hb) (l it F fx L : Addr) (vs : List Value) (ns : List Int) (dl : Option Addr) (nl : Nat) (sll : Array (Option Value))
  (hl : hb.get? l = some ⟨.type "list", dl, .seq vs.toArray nl, sll⟩) (hi : IntsAre vs ns) (hsz : vs.toArray.size ≤ sizeLine)
  (i : Nat) (hi3 : i < 3) (es : Array DictEntry) (n : Nat) (fs : Array Value) (nf : Nat) (fa fb fc : Tok) (line col : Int) (ul uc : Tok)
  (Dm : Mem hb h [] [(it, riO i (3 - i)), (F, lsO fs nf), (fx, lsO #[.int 108071 fa, .int 100000 fb, .int 109001 fc] 0), (L, frO es n)])
  {es1 : Nat → Value → Array DictEntry} {n1 : Nat} {t1 t2 t3 t4 t5 : Tok} {t6 t7 : Nat → Nat → Tok}
  (a1 : aRefKeyMayBeTheName (Str.ofString "k") es = false)
  (a2 : ∀ tk v, Obj.putName (Str.ofString "k") (PyData.keyHash w.params (Str.ofString "k")) (.str (Str.ofString "k") tk) v (frO es n) = frO (es1 tk v) n1)
  (a3 : ∀ tk v, nsLook (Str.ofString "script") (frO (es1 tk v) n1) = pure (some (.ref l))) (a4 : ∀ tk v, nsLook (Str.ofString "fixed") (frO (es1 tk v) n1) = pure (some (.ref fx))) (a5 : ∀ tk v, nsLook (Str.ofString "k") (frO (es1 tk v) n1) = pure (some v))
  (b1 : ∀ tk v, aRefKeyMayBeTheName (Str.ofString "x") (es1 tk v) = false)
  (hfs : fs.size ≤ 2)
  (b2 : ∀ tk v tk' v', Obj.putName (Str.ofString "x") (PyData.keyHash w.params (Str.ofString "x")) (.str (Str.ofString "x") tk') v' (frO (es1 tk v) n1) = frO (F7 w.params l fx F t1 t2 t3 t4 t5 (t6 tk tk') (t7 tk tk') (.int line ul) (.int col uc) v v') 7)
  (kf : ∀ hb' h' tk nf' line' col' bb s6 s7 ul' uc' kv xv tp e1 e2 e3, Kp hb hb' → Mem hb' h' [] [(it, riO (i + 1) (3 - i - 1)), (F, lsO (fs.push (.ref tp)) nf'), (fx, lsO #[.int 108071 fa, .int 100000 fb, .int 109001 fc] 0), (L, frO (F7 w.params l fx F t1 t2 t3 t4 t5 s6 s7 (.int line' ul') (.int bb uc') kv xv) 7)] →
    hb'.get? tp = some ⟨.type "tuple", none, .seq #[.int line' e1, .int col' e2, .int bb e3] 0, #[]⟩ →
    ((line' = line ∧ col ≤ col' ∧ col' ≤ col + 99) ∨ (line < line' ∧ line' ≤ line + 100 ∧ 0 ≤ col' ∧ col' ≤ 99)) → (col' < bb ∧ bb ≤ col' + 3) → codeAny (MM w) A (fnC it L) R' ⟨h', g, d, tk, os⟩) :
  codeAny (MM w) A (fnC it L) R' ⟨h, g, d, t, os⟩ := by
  refine (?_ : Ar _ _) (k3 X); intro f3
  refine (?_ : Ar _ _) (k0 X); intro f0
  refine codeAny_of_tree ?_
  unfold fnC
  show wpAny _ _ ((forTurn _ _ _ _ _).onRaise _) _ _ _
  refine noE ?_
  obtain ⟨A1, hA⟩ : ∃ A1, A1 = A.under (.forLoop fnT (.ref it) fnB [] (fenvI 6 "_law_finds" 42 41 L)) := ⟨_, rfl⟩
  rw [← hA]
  refine (?_ : Ar (A1.handled = none) _) (by rw [hA]; exact hh); intro hh1
  refine (?_ : Ar (A1.depth ≤ 450) _) (by rw [hA]; show A.depth + 0 ≤ 450; omega); intro hd1
  refine (?_ : Ar (A1.units ≤ 3500) _) (by rw [hA]; first | (show A.units + 0 ≤ 3500; exact lbk 0 hu rfl) | (show A.units + 1 ≤ 3500; exact lbk 1 hu rfl) | (show A.units + 2 ≤ 3500; exact lbk 2 hu rfl)); intro hu1
  refine (?_ : Ar (A1.units < cLine) _) (Nat.lt_of_le_of_lt hu1 (by decide)); intro hroom
  clear hA
  repeat walk_at "#8;tl_neg slot_neg.bind*;Set Get GM GI BI CI PN"
  refine pyNextR Dm 0 rfl (by first | (refine lb (by assumption) ?_; rfl) | omega) ?_
  clear Dm; intro h1 Dm; dsimp only [List.set] at Dm
  repeat walk_at "#8;tl_neg slot_neg.bind*;Set Get GM GI BI CI PN"
  refine nsSetB rfl Dm 3 rfl a1 ((?_ : Au _ _ _ _ _ _ _) _ (nsPutD (o' := fun tk => frO (es1 tk (.int i t)) n1) Dm 3 rfl (fun tk => a2 tk _) (fun _ => rfl)))
  clear Dm; intro h2 Dm; dsimp only [List.set] at Dm
  repeat walk_at "#8;tl_neg slot_neg.bind*;Set Get GM GI BI CI PN"
  refine nsGetO (r := none) Dm f3 (by kernel_rfl!) ?_
  repeat walk_at "#8;tl_neg slot_neg.bind*;Set Get GM GI BI CI PN"
  refine nsGetO (r := some (.builtin "sum")) Dm f0 (by kernel_rfl!) ?_
  repeat walk_at "#8;tl_neg slot_neg.bind*;Set Get GM GI BI CI PN"
  refine nsGetM (r := some (.ref l)) Dm 3 rfl (a3 _ _) ?_
  repeat walk_at "#8;tl_neg slot_neg.bind*;Set Get GM GI BI CI PN"
  refine nsGetM (r := some (.int i t)) Dm 3 rfl (a5 _ _) ?_
  repeat walk_at "#8;tl_neg slot_neg.bind*;Set Get GM GI BI CI PN"
  refine allocB ((?_ : Aa _ _ _ _ _ _ (⟨.type "slice", none, .fields #[.int i t, .none, .int 3 (t + 1 + 1)], #[]⟩) _) _ _ (Mem.alloc Dm rfl))
  clear Dm; intro sl h3 Dm
  repeat walk_at "#8;tl_neg slot_neg.bind*;Set Get GM GI BI CI PN"
  refine wpAny_of_eq slot_list_getitem.lookup ?_
  repeat walk_at "#8;tl_neg slot_neg.bind*;Set Get GM GI BI CI PN"
  refine sliceK (da := .plain) Dm ⟨_, kp_mem Dm _ _ hl, rfl, _, rfl⟩ hi hsz ⟨_, Mem.at Dm 0 _ _ rfl, rfl, rfl⟩ ?_
  clear Dm; intro sr h4 xs ms Dm hms
  repeat walk_at "#8;tl_neg slot_neg.bind*;Set Get GM GI BI CI PN"
  refine sumK hh1 ⟨_, Mem.at Dm 0 _ _ rfl, rfl, _, rfl⟩ hms ?_
  intro h5 tk5 t5' kp5
  refine (?_ : Ar _ _) (memKp Dm kp5); intro Dm
  repeat walk_at "#8;tl_neg slot_neg.bind*;Set Get GM GI BI CI PN"
  refine nsGetM (r := some (.ref fx)) Dm 5 rfl (a4 _ _) ?_
  repeat walk_at "#8;tl_neg slot_neg.bind*;Set Get GM GI BI CI PN"
  refine nsGetM (r := some (.int i t)) Dm 5 rfl (a5 _ _) ?_
  repeat walk_at "#8;tl_neg slot_neg.bind*;Set Get GM GI BI CI PN"
  refine wpAny_of_eq slot_list_getitem.lookup ?_
  repeat walk_at "#8;tl_neg slot_neg.bind*;Set Get GM GI BI CI PN"
  obtain ⟨fv, tf, hfv⟩ : ∃ fv tf, (#[.int 108071 fa, .int 100000 fb, .int 109001 fc] : Array Value)[(i : Int).toNat]? = some (.int fv tf) := by
    rcases i with _ | _ | _ | i
    · exact ⟨_, _, rfl⟩
    · exact ⟨_, _, rfl⟩
    · exact ⟨_, _, rfl⟩
    · omega
  refine wpAny_getItem_list ⟨_, Mem.at Dm 4 _ _ rfl, rfl, _, rfl⟩ (by first | (refine lb (by assumption) ?_; rfl) | omega) (by first | (refine lb (by assumption) ?_; rfl) | omega) hfv ?_
  repeat walk_at "#8;tl_neg slot_neg.bind*;Set Get GM GI BI CI PN"
  refine addK ?_
  repeat walk_at "#8;tl_neg slot_neg.bind*;Set Get GM GI BI CI PN"
  generalize ms.sum + fv = x
  refine nsSetB rfl Dm 5 rfl (b1 _ _) ((?_ : Au _ _ _ _ _ _ _) _ (nsPutD (o' := fun tk => frO (F7 w.params l fx F t1 t2 t3 t4 t5 (t6 (t + 1) tk) (t7 (t + 1) tk) (.int line ul) (.int col uc) (.int i t) (.int x tk5)) 7) Dm 5 rfl (fun tk => b2 _ _ tk _) (fun _ => rfl)))
  clear Dm; intro h6 Dm; dsimp only [List.set] at Dm
  generalize t6 (t + 1) _ = s6 at Dm
  generalize t7 (t + 1) _ = s7 at Dm
  repeat walk_at "#8;tl_neg slot_neg.bind*;Set Get GM GI BI CI PN"
  refine nsGetM (r := some (.int x tk5)) Dm 5 rfl (by kernel_rfl!) ?_
  repeat walk_at "#8;tl_neg slot_neg.bind*;Set Get GM GI BI CI PN"
  refine fmodK (by decide) ?_
  repeat walk_at "#8;tl_neg slot_neg.bind*;Set Get GM GI BI CI PN"
  refine cmpI (by decide) ?_
  have hm100 : ∀ y : Int, 0 ≤ y.fmod 100 ∧ y.fmod 100 < 100 := fun y => ⟨Int.fmod_nonneg_of_pos y (by decide), Int.fmod_lt_of_pos y (by decide)⟩
  cases hpar : opB .Eq (x.fmod 2) 0 with
  | true =>
    repeat walk_at "#8;tl_neg slot_neg.bind*;Set Get GM GI BI CI PN"
    refine nsGetM (r := some (.int col uc)) Dm 5 rfl (by kernel_rfl!) ?_
    repeat walk_at "#8;tl_neg slot_neg.bind*;Set Get GM GI BI CI PN"
    refine nsGetM (r := some (.int x tk5)) Dm 5 rfl (by kernel_rfl!) ?_
    repeat walk_at "#8;tl_neg slot_neg.bind*;Set Get GM GI BI CI PN"
    refine fdivL 10 (by decide) (by decide) ?_
    intro w1 j1
    repeat walk_at "#8;tl_neg slot_neg.bind*;Set Get GM GI BI CI PN"
    refine fmodL (by decide) ?_
    intro w2 j2
    repeat walk_at "#8;tl_neg slot_neg.bind*;Set Get GM GI BI CI PN"
    refine addL ?_
    intro w3 j3
    repeat walk_at "#8;tl_neg slot_neg.bind*;Set Get GM GI BI CI PN"
    refine nsSetB rfl Dm 5 rfl (by kernel_rfl!) ((?_ : Au _ _ _ _ _ _ _) _ (nsPutD (o' := fun tk => frO (F7 w.params l fx F t1 t2 t3 t4 t5 s6 s7 (.int line ul) (.int (col + (x.fdiv 10).fmod 100) w3) (.int i t) (.int x tk5)) 7) Dm 5 rfl (by intro tk; kernel_rfl!) (fun _ => rfl)))
    clear Dm; intro h7 Dm; dsimp only [List.set] at Dm
    repeat walk_at "#8;tl_neg slot_neg.bind*;Set Get GM GI BI CI PN"
    refine nsGetM (r := some (.ref F)) Dm 5 rfl (by kernel_rfl!) ?_
    repeat walk_at "#8;tl_neg slot_neg.bind*;Set Get GM GI BI CI PN"
    refine Calls.getMethod_list_append (Mem.at Dm 3 _ _ rfl) rfl rfl ?_
    repeat walk_at "#8;tl_neg slot_neg.bind*;Set Get GM GI BI CI PN"
    refine nsGetM (r := some (.int line ul)) Dm 5 rfl (by kernel_rfl!) ?_
    repeat walk_at "#8;tl_neg slot_neg.bind*;Set Get GM GI BI CI PN"
    refine nsGetM (r := some (.int (col + (x.fdiv 10).fmod 100) w3)) Dm 5 rfl (by kernel_rfl!) ?_
    repeat walk_at "#8;tl_neg slot_neg.bind*;Set Get GM GI BI CI PN"
    refine nsGetM (r := some (.int (col + (x.fdiv 10).fmod 100) w3)) Dm 5 rfl (by kernel_rfl!) ?_
    repeat walk_at "#8;tl_neg slot_neg.bind*;Set Get GM GI BI CI PN"
    refine addL ?_
    intro v1 k1
    repeat walk_at "#8;tl_neg slot_neg.bind*;Set Get GM GI BI CI PN"
    refine nsGetM (r := some (.int x tk5)) Dm 5 rfl (by kernel_rfl!) ?_
    repeat walk_at "#8;tl_neg slot_neg.bind*;Set Get GM GI BI CI PN"
    refine fdivL 100000 (by decide) (by decide) ?_
    intro v2 k2
    repeat walk_at "#8;tl_neg slot_neg.bind*;Set Get GM GI BI CI PN"
    refine fmodL (by decide) ?_
    intro v3 k3
    repeat walk_at "#8;tl_neg slot_neg.bind*;Set Get GM GI BI CI PN"
    refine addL ?_
    intro v4 k4
    repeat walk_at "#8;tl_neg slot_neg.bind*;Set Get GM GI BI CI PN"
    refine allocB ((?_ : Aa _ _ _ _ _ _ (⟨.type "tuple", none, .seq #[.int line ul, .int (col + (x.fdiv 10).fmod 100) w3, .int (col + (x.fdiv 10).fmod 100 + 1 + (x.fdiv 100000).fmod 3) v4] 0, #[]⟩) _) _ _ (Mem.alloc Dm rfl))
    clear Dm; intro tp h9 Dm
    repeat walk_at "#8;tl_neg slot_neg.bind*;Set Get GM GI BI CI PN"
    refine appendM Dm 4 rfl (Nat.le_trans hfs (by decide)) ?_
    clear Dm; intro h10 nf' Dm; dsimp only [List.set] at Dm
    repeat walk_at "#8;tl_neg slot_neg.bind*;Set Get GM GI BI CI PN"
    refine nsGetM (r := some (.ref F)) Dm 6 rfl (by kernel_rfl!) ?_
    repeat walk_at "#8;tl_neg slot_neg.bind*;Set Get GM GI BI CI PN"
    refine deep (negC w ⟨h10, g, d, _, os⟩ (X.keeps (kp_mem Dm)) _ _ _ ?_) hh1 (by first | (refine lb (by assumption) ?_; rfl) | omega) (by first | (refine lb (by assumption) ?_; rfl) | omega)
    intro vn h11 k11 kp11
    refine (?_ : Ar _ _) (memKp Dm kp11); intro Dm
    try dsimp -zeta only
    repeat walk_at "#8;tl_neg slot_neg.bind*;Set Get GM GI BI CI PN"
    refine wpAny_of_eq slot_list_getitem.lookup ?_
    repeat walk_at "#8;tl_neg slot_neg.bind*;Set Get GM GI BI CI PN"
    refine wpAny_getItem_list_neg (x := .ref tp) ⟨_, Mem.at Dm 4 _ _ rfl, rfl, _, rfl⟩ (by decide) (by rw [Array.size_push]; omega) (by decide) (by rw [Array.size_push, show ((-1 : Int) + ((fs.size + 1 : Nat) : Int)).toNat = fs.size by omega]; simp) ?_
    repeat walk_at "#8;tl_neg slot_neg.bind*;Set Get GM GI BI CI PN"
    refine wpAny_of_eq PySem.F.slot_tuple_getitem.lookup ?_
    repeat walk_at "#8;tl_neg slot_neg.bind*;Set Get GM GI BI CI PN"
    refine getItem_tuple (j := 2) (x := .int (col + (x.fdiv 10).fmod 100 + 1 + (x.fdiv 100000).fmod 3) v4) ⟨_, Mem.at Dm 0 _ _ rfl, rfl, _, rfl⟩ (by decide) (by decide) rfl rfl ?_
    repeat walk_at "#8;tl_neg slot_neg.bind*;Set Get GM GI BI CI PN"
    refine deep (letGoC w ⟨h11, g, d, _, os⟩ (X.keeps (kp_mem Dm)) _ _ ?_) hh1 (by first | (refine lb (by assumption) ?_; rfl) | omega) (by first | (refine lb (by assumption) ?_; rfl) | omega)
    intro vg hg kg kpg
    refine (?_ : Ar _ _) (memKp Dm kpg); intro Dm
    try dsimp -zeta only
    repeat walk_at "#8;tl_neg slot_neg.bind*;Set Get GM GI BI CI PN"
    refine nsSetB rfl Dm 6 rfl (by kernel_rfl!) ((?_ : Au _ _ _ _ _ _ _) _ (nsPutD (o' := fun tk => frO (F7 w.params l fx F t1 t2 t3 t4 t5 s6 s7 (.int line ul) (.int (col + (x.fdiv 10).fmod 100 + 1 + (x.fdiv 100000).fmod 3) v4) (.int i t) (.int x tk5)) 7) Dm 6 rfl (by intro tk; kernel_rfl!) (fun _ => rfl)))
    clear Dm; intro h12 Dm; dsimp only [List.set] at Dm
    repeat walk_at "#8;tl_neg slot_neg.bind*;Set Get GM GI BI CI PN"
    refine ⟨rfl, ?_⟩
    obtain ⟨M1, M2, M3⟩ := memRebase (p := [_, _, _]) (n := [_, _, _, _]) Dm
    refine (?_ : Ar _ _) (M3 _ (.head _)); intro M4
    refine (?_ : Ar _ _) (hm100 (x.fdiv 10)); intro q1
    refine (?_ : Ar _ _) (hm100 (x.fdiv 1000)); intro q2
    refine (?_ : Ar _ _) (Int.fmod_nonneg_of_pos (x.fdiv 100000) (b := 3) (by decide)); intro q3
    refine (?_ : Ar _ _) (Int.fmod_lt_of_pos (x.fdiv 100000) (b := 3) (by decide)); intro q4
    exact kf _ h12 _ nf' (line) (col + (x.fdiv 10).fmod 100) (col + (x.fdiv 10).fmod 100 + 1 + (x.fdiv 100000).fmod 3) s6 s7 _ _ _ _ tp _ _ _ M2 M1 M4 (.inl ⟨rfl, by omega, by omega⟩) ⟨by omega, by omega⟩
  | false =>
    repeat walk_at "#8;tl_neg slot_neg.bind*;Set Get GM GI BI CI PN"
    refine nsGetM (r := some (.int line ul)) Dm 5 rfl (by kernel_rfl!) ?_
    repeat walk_at "#8;tl_neg slot_neg.bind*;Set Get GM GI BI CI PN"
    refine addL ?_
    intro w1 j1
    repeat walk_at "#8;tl_neg slot_neg.bind*;Set Get GM GI BI CI PN"
    refine nsGetM (r := some (.int x tk5)) Dm 5 rfl (by kernel_rfl!) ?_
    repeat walk_at "#8;tl_neg slot_neg.bind*;Set Get GM GI BI CI PN"
    refine fdivL 10 (by decide) (by decide) ?_
    intro w2 j2
    repeat walk_at "#8;tl_neg slot_neg.bind*;Set Get GM GI BI CI PN"
    refine fmodL (by decide) ?_
    intro w3 j3
    repeat walk_at "#8;tl_neg slot_neg.bind*;Set Get GM GI BI CI PN"
    refine addL ?_
    intro w4 j4
    repeat walk_at "#8;tl_neg slot_neg.bind*;Set Get GM GI BI CI PN"
    refine nsSetB rfl Dm 5 rfl (by kernel_rfl!) ((?_ : Au _ _ _ _ _ _ _) _ (nsPutD (o' := fun tk => frO (F7 w.params l fx F t1 t2 t3 t4 t5 s6 s7 (.int (line + 1 + (x.fdiv 10).fmod 100) w4) (.int col uc) (.int i t) (.int x tk5)) 7) Dm 5 rfl (by intro tk; kernel_rfl!) (fun _ => rfl)))
    clear Dm; intro h7 Dm; dsimp only [List.set] at Dm
    repeat walk_at "#8;tl_neg slot_neg.bind*;Set Get GM GI BI CI PN"
    refine nsGetM (r := some (.int x tk5)) Dm 5 rfl (by kernel_rfl!) ?_
    repeat walk_at "#8;tl_neg slot_neg.bind*;Set Get GM GI BI CI PN"
    refine fdivL 1000 (by decide) (by decide) ?_
    intro w5 j5
    repeat walk_at "#8;tl_neg slot_neg.bind*;Set Get GM GI BI CI PN"
    refine fmodL (by decide) ?_
    intro w6 j6
    repeat walk_at "#8;tl_neg slot_neg.bind*;Set Get GM GI BI CI PN"
    refine nsSetB rfl Dm 5 rfl (by kernel_rfl!) ((?_ : Au _ _ _ _ _ _ _) _ (nsPutD (o' := fun tk => frO (F7 w.params l fx F t1 t2 t3 t4 t5 s6 s7 (.int (line + 1 + (x.fdiv 10).fmod 100) w4) (.int ((x.fdiv 1000).fmod 100) w6) (.int i t) (.int x tk5)) 7) Dm 5 rfl (by intro tk; kernel_rfl!) (fun _ => rfl)))
    clear Dm; intro h8 Dm; dsimp only [List.set] at Dm
    repeat walk_at "#8;tl_neg slot_neg.bind*;Set Get GM GI BI CI PN"
    refine nsGetM (r := some (.ref F)) Dm 5 rfl (by kernel_rfl!) ?_
    repeat walk_at "#8;tl_neg slot_neg.bind*;Set Get GM GI BI CI PN"
    refine Calls.getMethod_list_append (Mem.at Dm 3 _ _ rfl) rfl rfl ?_
    repeat walk_at "#8;tl_neg slot_neg.bind*;Set Get GM GI BI CI PN"
    refine nsGetM (r := some (.int (line + 1 + (x.fdiv 10).fmod 100) w4)) Dm 5 rfl (by kernel_rfl!) ?_
    repeat walk_at "#8;tl_neg slot_neg.bind*;Set Get GM GI BI CI PN"
    refine nsGetM (r := some (.int ((x.fdiv 1000).fmod 100) w6)) Dm 5 rfl (by kernel_rfl!) ?_
    repeat walk_at "#8;tl_neg slot_neg.bind*;Set Get GM GI BI CI PN"
    refine nsGetM (r := some (.int ((x.fdiv 1000).fmod 100) w6)) Dm 5 rfl (by kernel_rfl!) ?_
    repeat walk_at "#8;tl_neg slot_neg.bind*;Set Get GM GI BI CI PN"
    refine addL ?_
    intro v1 k1
    repeat walk_at "#8;tl_neg slot_neg.bind*;Set Get GM GI BI CI PN"
    refine nsGetM (r := some (.int x tk5)) Dm 5 rfl (by kernel_rfl!) ?_
    repeat walk_at "#8;tl_neg slot_neg.bind*;Set Get GM GI BI CI PN"
    refine fdivL 100000 (by decide) (by decide) ?_
    intro v2 k2
    repeat walk_at "#8;tl_neg slot_neg.bind*;Set Get GM GI BI CI PN"
    refine fmodL (by decide) ?_
    intro v3 k3
    repeat walk_at "#8;tl_neg slot_neg.bind*;Set Get GM GI BI CI PN"
    refine addL ?_
    intro v4 k4
    repeat walk_at "#8;tl_neg slot_neg.bind*;Set Get GM GI BI CI PN"
    refine allocB ((?_ : Aa _ _ _ _ _ _ (⟨.type "tuple", none, .seq #[.int (line + 1 + (x.fdiv 10).fmod 100) w4, .int ((x.fdiv 1000).fmod 100) w6, .int ((x.fdiv 1000).fmod 100 + 1 + (x.fdiv 100000).fmod 3) v4] 0, #[]⟩) _) _ _ (Mem.alloc Dm rfl))
    clear Dm; intro tp h9 Dm
    repeat walk_at "#8;tl_neg slot_neg.bind*;Set Get GM GI BI CI PN"
    refine appendM Dm 4 rfl (Nat.le_trans hfs (by decide)) ?_
    clear Dm; intro h10 nf' Dm; dsimp only [List.set] at Dm
    repeat walk_at "#8;tl_neg slot_neg.bind*;Set Get GM GI BI CI PN"
    refine nsGetM (r := some (.ref F)) Dm 6 rfl (by kernel_rfl!) ?_
    repeat walk_at "#8;tl_neg slot_neg.bind*;Set Get GM GI BI CI PN"
    refine deep (negC w ⟨h10, g, d, _, os⟩ (X.keeps (kp_mem Dm)) _ _ _ ?_) hh1 (by first | (refine lb (by assumption) ?_; rfl) | omega) (by first | (refine lb (by assumption) ?_; rfl) | omega)
    intro vn h11 k11 kp11
    refine (?_ : Ar _ _) (memKp Dm kp11); intro Dm
    try dsimp -zeta only
    repeat walk_at "#8;tl_neg slot_neg.bind*;Set Get GM GI BI CI PN"
    refine wpAny_of_eq slot_list_getitem.lookup ?_
    repeat walk_at "#8;tl_neg slot_neg.bind*;Set Get GM GI BI CI PN"
    refine wpAny_getItem_list_neg (x := .ref tp) ⟨_, Mem.at Dm 4 _ _ rfl, rfl, _, rfl⟩ (by decide) (by rw [Array.size_push]; omega) (by decide) (by rw [Array.size_push, show ((-1 : Int) + ((fs.size + 1 : Nat) : Int)).toNat = fs.size by omega]; simp) ?_
    repeat walk_at "#8;tl_neg slot_neg.bind*;Set Get GM GI BI CI PN"
    refine wpAny_of_eq PySem.F.slot_tuple_getitem.lookup ?_
    repeat walk_at "#8;tl_neg slot_neg.bind*;Set Get GM GI BI CI PN"
    refine getItem_tuple (j := 2) (x := .int ((x.fdiv 1000).fmod 100 + 1 + (x.fdiv 100000).fmod 3) v4) ⟨_, Mem.at Dm 0 _ _ rfl, rfl, _, rfl⟩ (by decide) (by decide) rfl rfl ?_
    repeat walk_at "#8;tl_neg slot_neg.bind*;Set Get GM GI BI CI PN"
    refine deep (letGoC w ⟨h11, g, d, _, os⟩ (X.keeps (kp_mem Dm)) _ _ ?_) hh1 (by first | (refine lb (by assumption) ?_; rfl) | omega) (by first | (refine lb (by assumption) ?_; rfl) | omega)
    intro vg hg kg kpg
    refine (?_ : Ar _ _) (memKp Dm kpg); intro Dm
    try dsimp -zeta only
    repeat walk_at "#8;tl_neg slot_neg.bind*;Set Get GM GI BI CI PN"
    refine nsSetB rfl Dm 6 rfl (by kernel_rfl!) ((?_ : Au _ _ _ _ _ _ _) _ (nsPutD (o' := fun tk => frO (F7 w.params l fx F t1 t2 t3 t4 t5 s6 s7 (.int (line + 1 + (x.fdiv 10).fmod 100) w4) (.int ((x.fdiv 1000).fmod 100 + 1 + (x.fdiv 100000).fmod 3) v4) (.int i t) (.int x tk5)) 7) Dm 6 rfl (by intro tk; kernel_rfl!) (fun _ => rfl)))
    clear Dm; intro h12 Dm; dsimp only [List.set] at Dm
    repeat walk_at "#8;tl_neg slot_neg.bind*;Set Get GM GI BI CI PN"
    refine ⟨rfl, ?_⟩
    obtain ⟨M1, M2, M3⟩ := memRebase (p := [_, _, _]) (n := [_, _, _, _]) Dm
    refine (?_ : Ar _ _) (M3 _ (.head _)); intro M4
    refine (?_ : Ar _ _) (hm100 (x.fdiv 10)); intro q1
    refine (?_ : Ar _ _) (hm100 (x.fdiv 1000)); intro q2
    refine (?_ : Ar _ _) (Int.fmod_nonneg_of_pos (x.fdiv 100000) (b := 3) (by decide)); intro q3
    refine (?_ : Ar _ _) (Int.fmod_lt_of_pos (x.fdiv 100000) (b := 3) (by decide)); intro q4
    exact kf _ h12 _ nf' (line + 1 + (x.fdiv 10).fmod 100) ((x.fdiv 1000).fmod 100) ((x.fdiv 1000).fmod 100 + 1 + (x.fdiv 100000).fmod 3) s6 s7 _ _ _ _ tp _ _ _ M2 M1 M4 (.inr ⟨by omega, by omega, by omega, by omega⟩) ⟨by omega, by omega⟩

end Mine
namespace Mine
variable {w : World} {A : Around} {Q : Value → Shared → Prop} {E : Value → Shared → Prop}
set_option tactic.hygienic false
theorem fend (hh : A.handled = none) (hd : A.depth ≤ 440) (hu : A.units ≤ 3400) (hb h : Heap) (g : Array GenState) (d : Drawn) (t : Nat) (os : OsState) {R' : Result → Shared → Prop} (it L : Addr) (o1 o2 o3 : Addr × Obj)
  (Dm : Mem hb h [] [(it, riO 3 0), o1, o2, o3]) (k : ∀ h' tk, Mem hb h' [] [(it, riO 3 0), o1, o2, o3] ∨ (Heap.ExtBut it h h') → R' (.ok .next) ⟨h', g, d, tk, os⟩) :
  codeAny (MM w) A (fnC it L) R' ⟨h, g, d, t, os⟩ := by
  refine codeAny_of_tree ?_
  unfold fnC
  show wpAny _ _ ((forTurn _ _ _ _ _).onRaise _) _ _ _
  refine noE ?_
  obtain ⟨A1, hA⟩ : ∃ A1, A1 = A.under (.forLoop fnT (.ref it) fnB [] (fenvI 6 "_law_finds" 42 41 L)) := ⟨_, rfl⟩
  rw [← hA]
  refine (?_ : Ar (A1.handled = none) _) (by rw [hA]; exact hh); intro hh1
  clear hA
  repeat walk_at "#4;;Set Get EF PN PI"
  refine pyNextE hh1 Dm 0 rfl (by decide) ?_
  intro h1 eb1
  clear Dm
  refine (?_ : Ar _ _) (Mem.start h1); intro Dm
  repeat walk_at "#4;;Set Get EF PN PI"
  refine ⟨rfl, codeAny_of_tree ?_⟩
  show wpAny _ _ (do return Fin.done (← (execs [] (fenvI 6 "_law_finds" 42 41 L)).onRaise _)) _ _ _
  repeat walk_at "#4;;Set Get EF PN PI"
  exact k h1 _ (.inr eb1)
noncomputable def tup3 (a b c : Int) (u v x : Tok) : Obj := ⟨.type "tuple", none, .seq #[.int a u, .int b v, .int c x] 0, #[]⟩
theorem fnd (hh : A.handled = none) (hd : A.depth ≤ 430) (hu : A.units ≤ 3300) (h : Heap) (g : Array GenState) (d : Drawn) (t : Nat) (os : OsState) (X : (KX w.params).In h) (l : Addr) (vs : List Value) (ns : List Int) (dl : Option Addr) (nl : Nat) (sll : Array (Option Value))
  (hl : h.get? l = some ⟨.type "list", dl, .seq vs.toArray nl, sll⟩) (hi : IntsAre vs ns) (hsz : vs.toArray.size ≤ sizeLine)
  (k : ∀ F h' tk n p0 p1 p2 l0 l1 l2 c0 c1 c2 b0 b1 b2 (e : Nat → Tok), Kp h h' → h'.get? F = some (lsO #[.ref p0, .ref p1, .ref p2] n) → h'.get? p0 = some (tup3 l0 c0 b0 (e 0) (e 1) (e 2)) → h'.get? p1 = some (tup3 l1 c1 b1 (e 3) (e 4) (e 5)) → h'.get? p2 = some (tup3 l2 c2 b2 (e 6) (e 7) (e 8)) →
    ((l0 = 1 ∧ 0 ≤ c0 ∧ c0 ≤ 99) ∨ (1 < l0 ∧ l0 ≤ 101 ∧ 0 ≤ c0 ∧ c0 ≤ 99)) → (c0 < b0 ∧ b0 ≤ c0 + 3) →
    ((l1 = l0 ∧ b0 ≤ c1 ∧ c1 ≤ b0 + 99) ∨ (l0 < l1 ∧ l1 ≤ l0 + 100 ∧ 0 ≤ c1 ∧ c1 ≤ 99)) → (c1 < b1 ∧ b1 ≤ c1 + 3) →
    ((l2 = l1 ∧ b1 ≤ c2 ∧ c2 ≤ b1 + 99) ∨ (l1 < l2 ∧ l2 ≤ l1 + 100 ∧ 0 ≤ c2 ∧ c2 ≤ 99)) → (c2 < b2 ∧ b2 ≤ c2 + 3) → Q (.ref F) ⟨h', g, d, tk, os⟩) :
  wpAny (MM w) A (call (.ref 42) [.ref l] []) Q E ⟨h, g, d, t, os⟩ := by
  refine (?_ : Ar _ _) (kf42 X); intro f1
  refine (?_ : Ar _ _) (kc41 X); intro f2
  refine (?_ : Ar _ _) (k3 X); intro f3
  refine (?_ : Ar _ _) (k0 X); intro f0
  unfold code41 at f2
  refine wpAny_call (codeAny_of_tree ?_)
  show wpAny _ _ (callAny (.ref 42) _) _ _ _
  refine noE ?_
  refine (?_ : Ar _ _) (Mem.start h); intro Dm
  repeat walk_at "#4;;Set Get EF PN PI"
  refine allocB ((?_ : Aa _ _ _ _ _ _ (⟨.type "frame", none, .dict #[] 0, #[]⟩) _) _ _ (Mem.alloc Dm rfl))
  clear Dm; intro L hL Dm
  repeat walk_at "#4;;Set Get EF PN PI"
  refine nsSetB rfl Dm 0 rfl (by kernel_rfl!) ((?_ : Au _ _ _ _ _ _ _) _ (nsPutD (o' := fun tk => frO #[en w.params "script" tk (.ref l)] 1) Dm 0 rfl (by intro tk; kernel_rfl!) (fun _ => rfl)))
  clear Dm; intro hL2 Dm; dsimp only [List.set] at Dm
  repeat walk_at "#4;;Set Get EF PN PI"
  refine wpAny_enterFrame (nolim (X.keeps (kp_mem Dm))) (Nat.lt_of_le_of_lt hd (by decide)) ?_
  repeat walk_at "#4;;Set Get EF PN PI"
  refine ⟨rfl, codeAny_func (body := fbody 6) (env := fenvI 6 "_law_finds" 42 41 L) ?_⟩
  refine (?_ : Ar ((A.deeper (fenvI 6 "_law_finds" 42 41 L)).handled = none) _) (hh); intro dh
  refine (?_ : Ar ((A.deeper (fenvI 6 "_law_finds" 42 41 L)).depth ≤ 440) _) (by show A.depth + 1 ≤ 440; exact lbk 1 hd rfl); intro dd
  refine (?_ : Ar ((A.deeper (fenvI 6 "_law_finds" 42 41 L)).units ≤ 3400) _) (by show A.units + 3 ≤ 3400; exact lbk 3 hu rfl); intro du
  refine (?_ : Ar ((A.deeper (fenvI 6 "_law_finds" 42 41 L)).units < cLine) _) (Nat.lt_of_le_of_lt du (by decide)); intro hroom
  refine noE ?_
  repeat walk_at "#4;;Set Get EF PN PI"
  refine allocB ((?_ : Aa _ _ _ _ _ _ (lsO #[.int 108071 (t + 1), .int 100000 (t + 1 + 1), .int 109001 (t + 1 + 1 + 1)] 0) _) _ _ (Mem.alloc Dm rfl))
  clear Dm; intro fx h3 Dm
  repeat walk_at "#4;;Set Get EF PN PI"
  refine nsSetB rfl Dm 1 rfl (by kernel_rfl!) ((?_ : Au _ _ _ _ _ _ _) _ (nsPutD (o' := fun tk => frO #[en w.params "script" t (.ref l), en w.params "fixed" tk (.ref fx)] 2) Dm 1 rfl (by intro tk; kernel_rfl!) (fun _ => rfl)))
  clear Dm; intro h4 Dm; dsimp only [List.set] at Dm
  repeat walk_at "#4;;Set Get EF PN PI"
  refine allocB ((?_ : Aa _ _ _ _ _ _ (lsO #[] 0) _) _ _ (Mem.alloc Dm rfl))
  clear Dm; intro F h5 Dm
  repeat walk_at "#4;;Set Get EF PN PI"
  refine nsSetB rfl Dm 2 rfl (by kernel_rfl!) ((?_ : Au _ _ _ _ _ _ _) _ (nsPutD (o' := fun tk => frO #[en w.params "script" t (.ref l), en w.params "fixed" (t + 1 + 1 + 1 + 1) (.ref fx), en w.params "finds" tk (.ref F)] 3) Dm 2 rfl (by intro tk; kernel_rfl!) (fun _ => rfl)))
  clear Dm; intro h6 Dm; dsimp only [List.set] at Dm
  repeat walk_at "#4;;Set Get EF PN PI"
  refine nsSetB rfl Dm 2 rfl (by kernel_rfl!) ((?_ : Au _ _ _ _ _ _ _) _ (nsPutD (o' := fun tk => frO #[en w.params "script" t (.ref l), en w.params "fixed" (t + 1 + 1 + 1 + 1) (.ref fx), en w.params "finds" (t + 1 + 1 + 1 + 1 + 1) (.ref F), en w.params "line" tk (.int 1 (t + 1 + 1 + 1 + 1 + 1 + 1))] 4) Dm 2 rfl (by intro tk; kernel_rfl!) (fun _ => rfl)))
  clear Dm; intro h7 Dm; dsimp only [List.set] at Dm
  repeat walk_at "#4;;Set Get EF PN PI"
  refine nsSetB rfl Dm 2 rfl (by kernel_rfl!) ((?_ : Au _ _ _ _ _ _ _) _ (nsPutD (o' := fun tk => frO #[en w.params "script" t (.ref l), en w.params "fixed" (t + 1 + 1 + 1 + 1) (.ref fx), en w.params "finds" (t + 1 + 1 + 1 + 1 + 1) (.ref F), en w.params "line" (t + 1 + 1 + 1 + 1 + 1 + 1 + 1) (.int 1 (t + 1 + 1 + 1 + 1 + 1 + 1)), en w.params "col" tk (.int 0 (t + 1 + 1 + 1 + 1 + 1 + 1 + 1 + 1))] 5) Dm 2 rfl (by intro tk; kernel_rfl!) (fun _ => rfl)))
  clear Dm; intro h8 Dm; dsimp only [List.set] at Dm
  repeat walk_at "#4;;Set Get EF PN PI"
  refine nsGetO (r := none) Dm f3 (by kernel_rfl!) ?_
  repeat walk_at "#4;;Set Get EF PN PI"
  refine nsGetO (r := some (.type "range")) Dm f0 (by kernel_rfl!) ?_
  repeat walk_at "#4;;Set Get EF PN PI"
  refine deep (rangeC w ⟨h8, g, d, _, os⟩ (X.keeps (kp_mem Dm)) _ _ _ ?_) dh (by first | (refine lb (by assumption) ?_; rfl) | omega) (by first | (refine lb (by assumption) ?_; rfl) | omega)
  intro r h9 tk9 u1 u2 u3 D9
  refine (?_ : Ar _ _) (Mem.at D9 0 _ _ rfl); intro hr9
  refine (?_ : Ar _ _) (memKp Dm (kp_mem D9)); intro Dm
  try dsimp only at hr9
  try dsimp -zeta only
  repeat walk_at "#4;;Set Get EF PN PI"
  refine pyIterR Dm hr9 ?_
  clear Dm; intro it h10 Dm
  repeat walk_at "#4;;Set Get EF PN PI"
  refine wpAny_run ?_
  show codeAny _ _ (fnC it L) _ _
  refine fturn dh dd du h h10 _ _ _ _ X l it F fx L vs ns dl nl sll hl hi hsz 0 (by decide) _ 5 #[] 0 _ _ _ 1 0 (t + 1 + 1 + 1 + 1 + 1 + 1) (t + 1 + 1 + 1 + 1 + 1 + 1 + 1 + 1) Dm
    (es1 := fun tk v => #[en w.params "script" t (.ref l), en w.params "fixed" (t + 1 + 1 + 1 + 1) (.ref fx), en w.params "finds" (t + 1 + 1 + 1 + 1 + 1) (.ref F), en w.params "line" (t + 1 + 1 + 1 + 1 + 1 + 1 + 1) (.int 1 (t + 1 + 1 + 1 + 1 + 1 + 1)), en w.params "col" (t + 1 + 1 + 1 + 1 + 1 + 1 + 1 + 1 + 1) (.int 0 (t + 1 + 1 + 1 + 1 + 1 + 1 + 1 + 1)), en w.params "k" tk v]) (n1 := 6) (t1 := t) (t2 := (t + 1 + 1 + 1 + 1)) (t3 := (t + 1 + 1 + 1 + 1 + 1)) (t4 := (t + 1 + 1 + 1 + 1 + 1 + 1 + 1)) (t5 := (t + 1 + 1 + 1 + 1 + 1 + 1 + 1 + 1 + 1)) (t6 := fun tk _ => tk) (t7 := fun _ tk => tk)
    (by kernel_rfl!) (by intro tk v; kernel_rfl!) (by intro tk v; kernel_rfl!) (by intro tk v; kernel_rfl!) (by intro tk v; kernel_rfl!) (by intro tk v; kernel_rfl!) (by decide) (by intro tk v tk' v'; kernel_rfl!) ?_
  intro hb1 h11 tk11 n11 l0 c0 b0 s6 s7 ul0 uc0 kv0 xv0 p0 e1 e2 e3 kb1 Dm g0 r0 r0'
  replace Dm : Mem hb1 h11 [] [(it, riO (1 : Nat) (3 - (1 : Nat))), (F, lsO #[.ref p0] n11), (fx, _), (L, _)] := Dm
  refine fturn dh dd du hb1 h11 _ _ _ _ (X.keeps kb1) l it F fx L vs ns dl nl sll (kb1 _ _ hl) hi hsz 1 (by decide) _ 7 _ _ _ _ _ l0 b0 ul0 uc0 Dm
    (es1 := fun tk v => F7 w.params l fx F t (t + 1 + 1 + 1 + 1) (t + 1 + 1 + 1 + 1 + 1) (t + 1 + 1 + 1 + 1 + 1 + 1 + 1) (t + 1 + 1 + 1 + 1 + 1 + 1 + 1 + 1 + 1) s6 s7 (.int l0 ul0) (.int b0 uc0) v xv0) (n1 := 7) (t1 := t) (t2 := (t + 1 + 1 + 1 + 1)) (t3 := (t + 1 + 1 + 1 + 1 + 1)) (t4 := (t + 1 + 1 + 1 + 1 + 1 + 1 + 1)) (t5 := (t + 1 + 1 + 1 + 1 + 1 + 1 + 1 + 1 + 1)) (t6 := fun _ _ => s6) (t7 := fun _ _ => s7)
    (by kernel_rfl!) (by intro tk v; kernel_rfl!) (by intro tk v; kernel_rfl!) (by intro tk v; kernel_rfl!) (by intro tk v; kernel_rfl!) (by intro tk v; kernel_rfl!) (by simp) (by intro tk v tk' v'; kernel_rfl!) ?_
  intro hb2 h12 tk12 n12 l1 c1 b1 s6' s7' ul1 uc1 kv1 xv1 p1 e1' e2' e3' kb2 Dm g1 r1 r1'
  replace Dm : Mem hb2 h12 [] [(it, riO (2 : Nat) (3 - (2 : Nat))), (F, lsO #[.ref p0, .ref p1] n12), (fx, _), (L, _)] := Dm
  refine fturn dh dd du hb2 h12 _ _ _ _ ((X.keeps kb1).keeps kb2) l it F fx L vs ns dl nl sll (kb2 _ _ (kb1 _ _ hl)) hi hsz 2 (by decide) _ 7 _ _ _ _ _ l1 b1 ul1 uc1 Dm
    (es1 := fun tk v => F7 w.params l fx F t (t + 1 + 1 + 1 + 1) (t + 1 + 1 + 1 + 1 + 1) (t + 1 + 1 + 1 + 1 + 1 + 1 + 1) (t + 1 + 1 + 1 + 1 + 1 + 1 + 1 + 1 + 1) s6' s7' (.int l1 ul1) (.int b1 uc1) v xv1) (n1 := 7) (t1 := t) (t2 := (t + 1 + 1 + 1 + 1)) (t3 := (t + 1 + 1 + 1 + 1 + 1)) (t4 := (t + 1 + 1 + 1 + 1 + 1 + 1 + 1)) (t5 := (t + 1 + 1 + 1 + 1 + 1 + 1 + 1 + 1 + 1)) (t6 := fun _ _ => s6') (t7 := fun _ _ => s7')
    (by kernel_rfl!) (by intro tk v; kernel_rfl!) (by intro tk v; kernel_rfl!) (by intro tk v; kernel_rfl!) (by intro tk v; kernel_rfl!) (by intro tk v; kernel_rfl!) (by simp) (by intro tk v tk' v'; kernel_rfl!) ?_
  intro hb3 h13 tk13 n13 l2 c2 b2 s6'' s7'' ul2 uc2 kv2 xv2 p2 e1'' e2'' e3'' kb3 Dm g2 r2 r2'
  replace Dm : Mem hb3 h13 [] [(it, riO 3 0), (F, lsO #[.ref p0, .ref p1, .ref p2] n13), (fx, _), (L, _)] := Dm
  refine fend dh dd du hb3 h13 _ _ _ _ it L (F, _) (fx, _) (L, _) Dm ?_
  intro h14 tk14 hor
  refine (?_ : Ar (Heap.ExtBut it h13 h14 ∨ Mem hb3 h14 [] [(it, riO 3 0), (F, lsO #[.ref p0, .ref p1, .ref p2] n13), (fx, _), (L, _)]) _) (hor.symm); intro eb
  have hF : h14.get? F = some (lsO #[.ref p0, .ref p1, .ref p2] n13) := by
    rcases eb with eb | D
    · have ho := Dm.ord
      simp only [List.map_cons, List.map_nil, List.pairwise_cons] at ho
      exact eb _ _ (Nat.ne_of_lt (ho.1 F (.head _))) (Mem.at Dm 1 _ _ rfl)
    · exact Mem.at D 1 _ _ rfl
  have hL14 := show ∃ o, h14.get? L = some o ∧ h13.get? L = some o from by
    rcases eb with eb | D
    · have ho := Dm.ord
      simp only [List.map_cons, List.map_nil, List.pairwise_cons] at ho
      exact ⟨_, eb _ _ (Nat.ne_of_lt (ho.1 L (.tail _ (.tail _ (.head _))))) (Mem.at Dm 3 _ _ rfl), Mem.at Dm 3 _ _ rfl⟩
    · exact ⟨_, Mem.at D 3 _ _ rfl, Mem.at Dm 3 _ _ rfl⟩
  have kb : Kp hb3 h14 := by
    rcases eb with eb | D
    · exact fun b o e => eb _ _ (by rintro rfl; have := (Dm.nw _ (.head _)).2; rw [e] at this; cases this) (kp_mem Dm _ _ e)
    · exact kp_mem D
  obtain ⟨oL, hL1, hL2⟩ := hL14
  rw [Mem.at Dm 3 _ _ rfl] at hL2
  cases hL2
  clear Dm
  refine (?_ : Ar _ _) (Mem.start h14); intro Dm
  try dsimp -zeta only
  repeat walk_at "#4;;Set Get EF PN PI"
  refine nsGetO (r := some (.ref F)) Dm hL1 (by kernel_rfl!) ?_
  repeat walk_at "#4;;Set Get EF PN PI"
  refine (?_ : Ar _ _) (kb3.trans kb); intro z2
  refine (?_ : Ar _ _) (kb2.trans z2); intro z1
  exact k F h14 _ n13 p0 p1 p2 l0 l1 l2 c0 c1 c2 b0 b1 b2 (fun i => [e1, e2, e3, e1', e2', e3', e1'', e2'', e3''].getD i 0) (kb1.trans z1) hF (z1 _ _ g0) (z2 _ _ g1) (kb _ _ g2) (by first | (refine lb (by assumption) ?_; rfl) | omega) r0' r1 r1' r2 r2'

end Mine
namespace Mine
noncomputable def plL (l0 l1 l2 : Int) (i : Nat) : Int := ([1, l0, l0, l0, l1, l1, l1, l2, l2, l2] : List Int).getD i 0
noncomputable def plCc (c0 c1 c2 b0 b1 b2 : Int) (i : Nat) : Int := ([0, c0, c0 + 1, b0, c1, c1 + 1, b1, c2, c2 + 1, b2] : List Int).getD i 0
noncomputable def PlP (h : Heap) (P : Addr) (l0 l1 l2 c0 c1 c2 b0 b1 b2 : Int) : Prop := ∃ (z : Nat → Addr) (n : Nat) (s : Nat → Tok), h.get? P = some (lsO #[.ref (z 0), .ref (z 1), .ref (z 2), .ref (z 3), .ref (z 4), .ref (z 5), .ref (z 6), .ref (z 7), .ref (z 8), .ref (z 9)] n) ∧ ∀ i, i < 10 → h.get? (z i) = some (tup (plL l0 l1 l2 i) (plCc c0 c1 c2 b0 b1 b2 i) (s (2 * i)) (s (2 * i + 1)))
theorem extM {w : World} {A : Around} {E : Value → Shared → Prop} {h₀ h : Heap} {g : Array GenState} {d : Drawn} {t : Nat} {os : OsState} {news : List (Addr × Obj)} {F b : Addr} {fs ys : Array Value} {nf ny : Nat} {Q : Value → Shared → Prop} (D : Mem h₀ h [] news) (i : Nat) (hi : news[i]? = some (F, lsO fs nf)) (hb : h.get? b = some (lsO ys ny)) (hsz : fs.size ≤ 9) (hys : ys.size ≤ 9)
    (k : ∀ h' n', Mem h₀ h' [] (news.set i (F, lsO (fs ++ ys) n')) → Q .none ⟨h', g, d, t, os⟩) : wpAny (MM w) A (call (.builtin "list.extend") [.ref F, .ref b]) Q E ⟨h, g, d, t, os⟩ := by
  refine (?_ : Ar _ _) (D.at i F _ hi); intro hF
  refine (?_ : Ar ((⟨h, g, d, t, os⟩ : Shared).TypeIs (.ref F) "list") _) (⟨_, hF, rfl⟩); intro hT
  refine (?_ : Ar (sizeLine = sizeLine) _) (rfl); intro hs
  refine call_meets PySem.F.slot_list_extend hT PySem.F.entry_list_extend (PySem.F.args_list_extend_2 _ _) (PySem.AutoSeq1.list_extend_list_list_0 F fs nf b ys ny ?_ (Nat.le_trans hsz (by decide)) (Nat.le_trans (Nat.add_le_add hsz hys) (by decide))) ⟨hF, hb, ?_⟩
  · have : Builtin.List.listTooLong (fs.size + ys.size) = false := by
      unfold Builtin.List.listTooLong
      exact decide_eq_false (Nat.not_lt.mpr (Nat.le_trans (Nat.add_le_add hsz hys) (by decide)))
    rw [this, Bool.and_false]; exact Bool.false_ne_true
  · exact k _ _ (D.update (f := Obj.mapSeq fun y => y ++ ys) hi rfl)
theorem memForget' {h₀ h : Heap} {news : List (Addr × Obj)} (D : Mem h₀ h [] news) (i : Nat) : Mem h₀ h [] (news.eraseIdx i) :=
  ⟨D.keep, D.ch, D.cd, fun p hp => D.nw p (List.mem_of_mem_eraseIdx hp), List.Pairwise.sublist ((List.eraseIdx_sublist news i).map _) D.ord⟩
theorem reb' {h₀ h : Heap} {n : List (Addr × Obj)} (D : Mem h₀ h [] n) : ∃ B, Mem B h [] n ∧ (∀ b o, h.get? b = some o → (∀ p ∈ n, p.2 ≠ o) → B.get? b = some o) ∧ Kp h₀ B ∧ B.objs.size = h.objs.size := by
  refine ⟨hideAll h (n.map (·.1)), ⟨fun b o e _ => of_hideAll _ e, fun _ hp => (nomatch hp), List.nodup_nil, fun q hq => ⟨(D.nw q hq).1, hideAll_none _ (List.mem_map_of_mem hq)⟩, D.ord⟩, fun b o e hne => ?_, fun b o e => ?_, hideAll_size _ _⟩
  · refine hideAll_get _ e fun m => ?_
    obtain ⟨q, hq, rfl⟩ := List.mem_map.mp m
    have := (D.nw q hq).1
    rw [e] at this
    exact hne q hq (Option.some.inj this).symm
  · refine hideAll_get _ (kp_mem D _ _ e) fun m => ?_
    obtain ⟨q, hq, rfl⟩ := List.mem_map.mp m
    have := (D.nw q hq).2
    rw [e] at this; cases this
noncomputable def pmC (it L : Addr) : Code := match (fbody 7)[(1 : Nat)]? with | some (.For t _ b o _) => .forLoop t (.ref it) b o (fenvI 7 "_law_places" 49 48 L) | _ => .forLoop (.Name Str.empty ⟨0, 0, 0, 0⟩) (.ref it) [] [] (fenvI 7 "_law_places" 49 48 L)
set_option tactic.hygienic false
variable {w : World} {A : Around} {Q : Value → Shared → Prop} {E : Value → Shared → Prop}
theorem plT (hh : A.handled = none) (hd : A.depth ≤ 500) (hu : A.units ≤ 4000) (hb h : Heap) (g : Array GenState) (d : Drawn) (t : Nat) (os : OsState) {R' : Result → Shared → Prop} (X : (KX w.params).In hb)
  (it L F PL p : Addr) (fs xs : Array Value) (nF nx i : Nat) (l c b : Int) (u1 u2 u3 : Tok) (hF : hb.get? F = some (lsO fs nF)) (hj : fs[i]? = some (.ref p)) (hp : hb.get? p = some (tup3 l c b u1 u2 u3)) (hxs : xs.size ≤ 9)
  (es : Array DictEntry) (n : Nat) (dd : Option Addr) (sl : Array (Option Value)) (t1 t2 : Tok)
  {es1 : Tok → Array DictEntry} {es2 : Tok → Tok → Array DictEntry} {n1 n2 : Nat} {ta tb tc : Tok → Tok → Tok → Tok} (a1 : aRefKeyMayBeTheName (Str.ofString "line") es = false) (a2 : ∀ tk, aRefKeyMayBeTheName (Str.ofString "first") (es1 tk) = false) (a3 : ∀ tk tk', aRefKeyMayBeTheName (Str.ofString "behind") (es2 tk tk') = false)
  (b1 : ∀ tk, Obj.putName (Str.ofString "line") (PyData.keyHash w.params (Str.ofString "line")) (.str (Str.ofString "line") tk) (.int l u1) (frO es n) = frO (es1 tk) n1)
  (b2 : ∀ tk tk', Obj.putName (Str.ofString "first") (PyData.keyHash w.params (Str.ofString "first")) (.str (Str.ofString "first") tk') (.int c u2) (frO (es1 tk) n1) = frO (es2 tk tk') n2)
  (b3 : ∀ tk tk' tk'', Obj.putName (Str.ofString "behind") (PyData.keyHash w.params (Str.ofString "behind")) (.str (Str.ofString "behind") tk'') (.int b u3) (frO (es2 tk tk') n2) = frO #[en w.params "finds" t1 (.ref F), en w.params "places" t2 (.ref PL), en w.params "line" (ta tk tk' tk'') (.int l u1), en w.params "first" (tb tk tk' tk'') (.int c u2), en w.params "behind" (tc tk tk' tk'') (.int b u3)] 5)
  (Dm : Mem hb h [] [(it, itO F i dd sl), (PL, lsO xs nx), (L, frO es n)])
  (k : ∀ hb' h' tk nx' dd' sl' q1 q2 q3 ua ub uc v1 v2 v3 v4 v5 v6, Kp hb hb' → hb'.get? q1 = some (tup l c v1 v2) → hb'.get? q2 = some (tup l (c + 1) v3 v4) → hb'.get? q3 = some (tup l b v5 v6) →
    Mem hb' h' [] [(it, itO F (i + 1) dd' sl'), (PL, lsO (xs ++ #[.ref q1, .ref q2, .ref q3]) nx'), (L, frO #[en w.params "finds" t1 (.ref F), en w.params "places" t2 (.ref PL), en w.params "line" ua (.int l u1), en w.params "first" ub (.int c u2), en w.params "behind" uc (.int b u3)] 5)] → codeAny (MM w) A (pmC it L) R' ⟨h', g, d, tk, os⟩) :
  codeAny (MM w) A (pmC it L) R' ⟨h, g, d, t, os⟩ := by
  refine (?_ : Ar _ _) (k3 X); intro f3
  refine codeAny_of_tree ?_
  obtain ⟨A1, hA⟩ : ∃ A1, A1 = A.under (pmC it L) := ⟨_, rfl⟩
  rw [← hA]
  show wpAny _ _ ((forTurn _ _ _ _ _).onRaise _) _ _ _
  refine noE ?_
  refine (?_ : Ar (A1.handled = none) _) (by rw [hA]; exact hh); intro hh1
  refine (?_ : Ar (A1.units ≤ 4200) _) (by rw [hA]; first | (show A.units + 0 ≤ 4200; exact lbk 0 hu rfl) | (show A.units + 1 ≤ 4200; exact lbk 1 hu rfl) | (show A.units + 2 ≤ 4200; exact lbk 2 hu rfl)); intro hu1
  refine (?_ : Ar (A1.units < cLine) _) (Nat.lt_of_le_of_lt hu1 (by decide)); intro hroom
  clear hA
  repeat walk_at "#9;;Set Get EF PN PI UI GM CO BI"
  refine wpAny_pyNext_list_item (of_itO (Mem.at Dm 0 _ _ rfl)) ⟨_, kp_mem Dm _ _ hF, rfl, _, rfl⟩ hj ?_
  intro h1 hit1 sb1
  obtain ⟨dd1, sl1, hit2⟩ := itO_of hit1
  refine (?_ : Ar _ _) (memSet Dm 0 rfl sb1.extBut hit2); clear Dm; intro Dm
  dsimp only [List.set] at Dm
  clear hit1 sb1 hit2
  repeat walk_at "#9;;Set Get EF PN PI UI GM CO BI"
  refine unpK hh1 (kp_mem Dm _ _ hp) rfl ?_
  intro h2 kp2
  refine (?_ : Ar _ _) (memKp Dm kp2); clear Dm; intro Dm
  clear kp2
  repeat walk_at "#9;;Set Get EF PN PI UI GM CO BI"
  refine nsSetB rfl Dm 2 rfl a1 ((?_ : Au _ _ _ _ _ _ _) _ (nsPutD (o' := fun tk => frO (es1 tk) n1) Dm 2 rfl b1 (fun _ => rfl)))
  clear Dm; intro h3 Dm; dsimp only [List.set] at Dm
  repeat walk_at "#9;;Set Get EF PN PI UI GM CO BI"
  refine nsSetB rfl Dm 2 rfl (a2 _) ((?_ : Au _ _ _ _ _ _ _) _ (nsPutD (o' := fun tk => frO (es2 _ tk) n2) Dm 2 rfl (b2 _) (fun _ => rfl)))
  clear Dm; intro h4 Dm; dsimp only [List.set] at Dm
  repeat walk_at "#9;;Set Get EF PN PI UI GM CO BI"
  refine nsSetB rfl Dm 2 rfl (a3 _ _) ((?_ : Au _ _ _ _ _ _ _) _ (nsPutD (o' := fun tk => frO #[en w.params "finds" t1 (.ref F), en w.params "places" t2 (.ref PL), en w.params "line" (ta _ _ tk) (.int l u1), en w.params "first" (tb _ _ tk) (.int c u2), en w.params "behind" (tc _ _ tk) (.int b u3)] 5) Dm 2 rfl (b3 _ _) (fun _ => rfl)))
  clear Dm; intro h5 Dm; dsimp only [List.set] at Dm
  repeat walk_at "#9;;Set Get EF PN PI UI GM CO BI"
  refine nsGetM (r := some (.ref PL)) Dm 2 rfl (by kernel_rfl!) ?_
  repeat walk_at "#9;;Set Get EF PN PI UI GM CO BI"
  refine getMethod_list_of PySem.F.slot_list_extend PySem.F.type_list_extend ⟨_, Mem.at Dm 1 _ _ rfl, rfl, _, rfl⟩ ⟨_, Mem.at Dm 1 _ _ rfl, rfl⟩ ?_
  repeat walk_at "#9;;Set Get EF PN PI UI GM CO BI"
  refine nsGetM (r := some (.int l u1)) Dm 2 rfl (by kernel_rfl!) ?_
  repeat walk_at "#9;;Set Get EF PN PI UI GM CO BI"
  refine nsGetM (r := some (.int c u2)) Dm 2 rfl (by kernel_rfl!) ?_
  repeat walk_at "#9;;Set Get EF PN PI UI GM CO BI"
  refine allocB ((?_ : Aa _ _ _ _ _ _ (tup l c u1 u2) _) _ _ (Mem.alloc Dm rfl))
  clear Dm; intro q1 h6 Dm
  repeat walk_at "#9;;Set Get EF PN PI UI GM CO BI"
  refine nsGetM (r := some (.int l u1)) Dm 3 rfl (by kernel_rfl!) ?_
  repeat walk_at "#9;;Set Get EF PN PI UI GM CO BI"
  refine nsGetM (r := some (.int c u2)) Dm 3 rfl (by kernel_rfl!) ?_
  repeat walk_at "#9;;Set Get EF PN PI UI GM CO BI"
  refine addL ?_
  intro v4 k4
  repeat walk_at "#9;;Set Get EF PN PI UI GM CO BI"
  refine allocB ((?_ : Aa _ _ _ _ _ _ (tup l (c + 1) u1 v4) _) _ _ (Mem.alloc Dm rfl))
  clear Dm; intro q2 h7 Dm
  repeat walk_at "#9;;Set Get EF PN PI UI GM CO BI"
  refine nsGetM (r := some (.int l u1)) Dm 4 rfl (by kernel_rfl!) ?_
  repeat walk_at "#9;;Set Get EF PN PI UI GM CO BI"
  refine nsGetM (r := some (.int b u3)) Dm 4 rfl (by kernel_rfl!) ?_
  repeat walk_at "#9;;Set Get EF PN PI UI GM CO BI"
  refine allocB ((?_ : Aa _ _ _ _ _ _ (tup l b u1 u3) _) _ _ (Mem.alloc Dm rfl))
  clear Dm; intro q3 h8 Dm
  repeat walk_at "#9;;Set Get EF PN PI UI GM CO BI"
  refine allocB ((?_ : Aa _ _ _ _ _ _ (lsO #[.ref q1, .ref q2, .ref q3] 0) _) _ _ (Mem.alloc Dm rfl))
  clear Dm; intro ql h9 Dm
  repeat walk_at "#9;;Set Get EF PN PI UI GM CO BI"
  refine extM Dm 5 rfl (Mem.at Dm 0 _ _ rfl) hxs (Nat.le_of_ble_eq_true rfl) ?_
  clear Dm; intro h10 n10 Dm; dsimp only [List.set] at Dm
  repeat walk_at "#9;;Set Get EF PN PI UI GM CO BI"
  refine (?_ : Ar _ _) (Mem.at Dm 3 _ _ rfl); intro e1
  refine (?_ : Ar _ _) (Mem.at Dm 2 _ _ rfl); intro e2
  refine (?_ : Ar _ _) (Mem.at Dm 1 _ _ rfl); intro e3
  refine (?_ : Ar _ _) (memForget' (memForget' (memForget' (memForget' Dm 0) 0) 0) 0); clear Dm; intro Dm
  dsimp only [List.eraseIdx] at Dm
  obtain ⟨B1, D1, m1, o1, z1⟩ := reb' Dm
  exact ⟨rfl, k B1 h10 _ _ _ _ q1 q2 q3 _ _ _ _ _ _ _ _ _ o1 (m1 _ _ e1 (by simp [itO, lsO, frO, tup])) (m1 _ _ e2 (by simp [itO, lsO, frO, tup])) (m1 _ _ e3 (by simp [itO, lsO, frO, tup])) D1⟩
theorem plc (hh : A.handled = none) (hd : A.depth ≤ 440) (hu : A.units ≤ 3400) (h : Heap) (g : Array GenState) (d : Drawn) (t : Nat) (os : OsState) (X : (KX w.params).In h) (F p0 p1 p2 : Addr) (nF : Nat) (l0 l1 l2 c0 c1 c2 b0 b1 b2 : Int) (e0 e1 e2 e3 e4 e5 e6 e7 e8 : Tok)
  (hF : h.get? F = some (lsO #[.ref p0, .ref p1, .ref p2] nF)) (h0 : h.get? p0 = some (tup3 l0 c0 b0 e0 e1 e2)) (h1 : h.get? p1 = some (tup3 l1 c1 b1 e3 e4 e5)) (h2 : h.get? p2 = some (tup3 l2 c2 b2 e6 e7 e8))
  (k : ∀ P h' tk, Kp h h' → PlP h' P l0 l1 l2 c0 c1 c2 b0 b1 b2 → Q (.ref P) ⟨h', g, d, tk, os⟩) :
  wpAny (MM w) A (call (.ref 49) [.ref F] []) Q E ⟨h, g, d, t, os⟩ := by
  refine (?_ : Ar _ _) (kf49 X); intro f1
  refine (?_ : Ar _ _) (kc48 X); intro f2
  refine (?_ : Ar _ _) (k3 X); intro f3
  unfold code48 at f2
  refine wpAny_call (codeAny_of_tree ?_)
  show wpAny _ _ (callAny (.ref 49) _) _ _ _
  refine noE ?_
  refine (?_ : Ar _ _) (Mem.start h); intro Dm
  repeat walk_at "#9;;Set Get EF PN PI UI GM CO BI"
  refine allocB ((?_ : Aa _ _ _ _ _ _ (⟨.type "frame", none, .dict #[] 0, #[]⟩) _) _ _ (Mem.alloc Dm rfl))
  clear Dm; intro L hL Dm
  repeat walk_at "#9;;Set Get EF PN PI UI GM CO BI"
  refine nsSetB rfl Dm 0 rfl (by kernel_rfl!) ((?_ : Au _ _ _ _ _ _ _) _ (nsPutD (o' := fun tk => frO #[en w.params "finds" tk (.ref F)] 1) Dm 0 rfl (by intro tk; kernel_rfl!) (fun _ => rfl)))
  clear Dm; intro hL2 Dm; dsimp only [List.set] at Dm
  repeat walk_at "#9;;Set Get EF PN PI UI GM CO BI"
  refine wpAny_enterFrame (nolim (X.keeps (kp_mem Dm))) (Nat.lt_of_le_of_lt hd (by decide)) ?_
  repeat walk_at "#9;;Set Get EF PN PI UI GM CO BI"
  refine ⟨rfl, codeAny_func (body := fbody 7) (env := fenvI 7 "_law_places" 49 48 L) ?_⟩
  refine (?_ : Ar ((A.deeper (fenvI 7 "_law_places" 49 48 L)).handled = none) _) (hh); intro dh
  refine (?_ : Ar ((A.deeper (fenvI 7 "_law_places" 49 48 L)).depth ≤ 450) _) (by show A.depth + 1 ≤ 450; exact lbk 1 hd rfl); intro dd
  refine (?_ : Ar ((A.deeper (fenvI 7 "_law_places" 49 48 L)).units ≤ 3500) _) (by show A.units + 3 ≤ 3500; exact lbk 3 hu rfl); intro du
  refine (?_ : Ar ((A.deeper (fenvI 7 "_law_places" 49 48 L)).units < cLine) _) (Nat.lt_of_le_of_lt du (by decide)); intro hroom
  refine noE ?_
  repeat walk_at "#9;;Set Get EF PN PI UI GM CO BI"
  refine allocB ((?_ : Aa _ _ _ _ _ _ (tup 1 0 _ _) _) _ _ (Mem.alloc Dm rfl))
  clear Dm; intro t0 h3 Dm
  repeat walk_at "#9;;Set Get EF PN PI UI GM CO BI"
  refine allocB ((?_ : Aa _ _ _ _ _ _ (lsO #[.ref t0] 0) _) _ _ (Mem.alloc Dm rfl))
  clear Dm; intro PL h4 Dm
  repeat walk_at "#9;;Set Get EF PN PI UI GM CO BI"
  refine nsSetB rfl Dm 2 rfl (by kernel_rfl!) ((?_ : Au _ _ _ _ _ _ _) _ (nsPutD (o' := fun tk => frO #[en w.params "finds" t (.ref F), en w.params "places" tk (.ref PL)] 2) Dm 2 rfl (by intro tk; kernel_rfl!) (fun _ => rfl)))
  clear Dm; intro h5 Dm; dsimp only [List.set] at Dm
  repeat walk_at "#9;;Set Get EF PN PI UI GM CO BI"
  refine nsGetM (r := some (.ref F)) Dm 2 rfl (by kernel_rfl!) ?_
  repeat walk_at "#9;;Set Get EF PN PI UI GM CO BI"
  refine pyIterM Dm (kp_mem Dm _ _ hF) ?_
  clear Dm; intro it h6 Dm
  repeat walk_at "#9;;Set Get EF PN PI UI GM CO BI"
  refine wpAny_run ?_
  show codeAny (MM w) _ (pmC it L) _ _
  refine (?_ : Ar _ _) (Mem.at Dm 2 _ _ rfl); intro z0
  refine (?_ : Ar _ _) (memForget' Dm 2); clear Dm; intro Dm
  dsimp only [List.eraseIdx] at Dm
  obtain ⟨B0, D0, m0, kpB, zB⟩ := reb' Dm
  refine (?_ : Ar _ _) (m0 _ _ z0 (by simp [itO, lsO, frO, tup])); clear z0; intro z0
  refine (?_ : Ar _ _) (X.keeps kpB); clear X; intro X
  refine (?_ : Ar _ _) (kpB _ _ hF); clear hF; intro hF
  refine (?_ : Ar _ _) (kpB _ _ h0); clear h0; intro h0
  refine (?_ : Ar _ _) (kpB _ _ h1); clear h1; intro h1
  refine (?_ : Ar _ _) (kpB _ _ h2); clear h2; intro h2
  clear Dm m0 zB f1 f2 f3
  refine (?_ : Ar _ _) (D0); intro Dm
  clear D0
  refine plT dh (Nat.le_trans dd (by decide)) (Nat.le_trans du (by decide)) B0 _ g d _ os X it L F PL p0 _ _ nF _ 0 l0 c0 b0 _ _ _ hF rfl h0 (Nat.le_of_ble_eq_true rfl) _ _ _ _ t (t + 1 + 1 + 1) (es1 := fun tk => #[en w.params "finds" t (.ref F), en w.params "places" (t + 1 + 1 + 1) (.ref PL), en w.params "line" tk (.int l0 e0)]) (es2 := fun tk tk' => #[en w.params "finds" t (.ref F), en w.params "places" (t + 1 + 1 + 1) (.ref PL), en w.params "line" tk (.int l0 e0), en w.params "first" tk' (.int c0 e1)]) (n1 := 3) (n2 := 4) (ta := fun tk _ _ => tk) (tb := fun _ tk _ => tk) (tc := fun _ _ tk => tk) (by kernel_rfl!) (by intro tk; kernel_rfl!) (by intro tk tk'; kernel_rfl!) (by intro tk; kernel_rfl!) (by intro tk tk'; kernel_rfl!) (by intro tk tk' tk''; kernel_rfl!) Dm ?_
  clear Dm; intro g1 m1 tk1 nx1 dd1 sl1 q01 q02 q03 ua0 ub0 uc0 v10 v20 v30 v40 v50 v60 kp1 z01 z02 z03 Dm
  refine (?_ : Ar _ _) (X.keeps kp1); clear X; intro X
  refine (?_ : Ar _ _) (kp1 _ _ hF); clear hF; intro hF
  refine (?_ : Ar _ _) (kp1 _ _ h1); clear h1; intro h1
  refine (?_ : Ar _ _) (kp1 _ _ h2); clear h2; intro h2
  refine (?_ : Ar _ _) (kp1 _ _ z0); clear z0; intro z0
  replace kp1 : Kp h g1 := fun b o e => kp1 b o (kpB b o e)
  refine plT dh (Nat.le_trans dd (by decide)) (Nat.le_trans du (by decide)) g1 _ g d _ os X it L F PL p1 _ _ nF _ 1 l1 c1 b1 _ _ _ hF rfl h1 (Nat.le_of_ble_eq_true rfl) _ _ _ _ t (t + 1 + 1 + 1) (es1 := fun tk => #[en w.params "finds" t (.ref F), en w.params "places" (t + 1 + 1 + 1) (.ref PL), en w.params "line" ua0 (.int l1 e3), en w.params "first" ub0 (.int c0 e1), en w.params "behind" uc0 (.int b0 e2)]) (es2 := fun tk tk' => #[en w.params "finds" t (.ref F), en w.params "places" (t + 1 + 1 + 1) (.ref PL), en w.params "line" ua0 (.int l1 e3), en w.params "first" ub0 (.int c1 e4), en w.params "behind" uc0 (.int b0 e2)]) (n1 := 5) (n2 := 5) (ta := fun _ _ _ => ua0) (tb := fun _ _ _ => ub0) (tc := fun _ _ _ => uc0) (by kernel_rfl!) (by intro tk; kernel_rfl!) (by intro tk tk'; kernel_rfl!) (by intro tk; kernel_rfl!) (by intro tk tk'; kernel_rfl!) (by intro tk tk' tk''; kernel_rfl!) Dm ?_
  clear Dm; intro g2 m2 tk2 nx2 dd2 sl2 q11 q12 q13 ua1 ub1 uc1 v11 v21 v31 v41 v51 v61 kp2 z11 z12 z13 Dm
  refine (?_ : Ar _ _) (X.keeps kp2); clear X; intro X
  refine (?_ : Ar _ _) (kp2 _ _ hF); clear hF; intro hF
  refine (?_ : Ar _ _) (kp2 _ _ h2); clear h2; intro h2
  refine (?_ : Ar _ _) (kp2 _ _ z01); clear z01; intro z01
  refine (?_ : Ar _ _) (kp2 _ _ z02); clear z02; intro z02
  refine (?_ : Ar _ _) (kp2 _ _ z03); clear z03; intro z03
  refine (?_ : Ar _ _) (kp2 _ _ z0); clear z0; intro z0
  replace kp2 : Kp h g2 := fun b o e => kp2 b o (kp1 b o e)
  refine plT dh (Nat.le_trans dd (by decide)) (Nat.le_trans du (by decide)) g2 _ g d _ os X it L F PL p2 _ _ nF _ 2 l2 c2 b2 _ _ _ hF rfl h2 (Nat.le_of_ble_eq_true rfl) _ _ _ _ t (t + 1 + 1 + 1) (es1 := fun tk => #[en w.params "finds" t (.ref F), en w.params "places" (t + 1 + 1 + 1) (.ref PL), en w.params "line" ua1 (.int l2 e6), en w.params "first" ub1 (.int c1 e4), en w.params "behind" uc1 (.int b1 e5)]) (es2 := fun tk tk' => #[en w.params "finds" t (.ref F), en w.params "places" (t + 1 + 1 + 1) (.ref PL), en w.params "line" ua1 (.int l2 e6), en w.params "first" ub1 (.int c2 e7), en w.params "behind" uc1 (.int b1 e5)]) (n1 := 5) (n2 := 5) (ta := fun _ _ _ => ua1) (tb := fun _ _ _ => ub1) (tc := fun _ _ _ => uc1) (by kernel_rfl!) (by intro tk; kernel_rfl!) (by intro tk tk'; kernel_rfl!) (by intro tk; kernel_rfl!) (by intro tk tk'; kernel_rfl!) (by intro tk tk' tk''; kernel_rfl!) Dm ?_
  clear Dm; intro g3 m3 tk3 nx3 dd3 sl3 q21 q22 q23 ua2 ub2 uc2 v12 v22 v32 v42 v52 v62 kp3 z21 z22 z23 Dm
  refine (?_ : Ar _ _) (X.keeps kp3); clear X; intro X
  refine (?_ : Ar _ _) (kp3 _ _ hF); clear hF; intro hF
  refine (?_ : Ar _ _) (kp3 _ _ z01); clear z01; intro z01
  refine (?_ : Ar _ _) (kp3 _ _ z02); clear z02; intro z02
  refine (?_ : Ar _ _) (kp3 _ _ z03); clear z03; intro z03
  refine (?_ : Ar _ _) (kp3 _ _ z11); clear z11; intro z11
  refine (?_ : Ar _ _) (kp3 _ _ z12); clear z12; intro z12
  refine (?_ : Ar _ _) (kp3 _ _ z13); clear z13; intro z13
  refine (?_ : Ar _ _) (kp3 _ _ z0); clear z0; intro z0
  replace kp3 : Kp h g3 := fun b o e => kp3 b o (kp2 b o e)
  refine codeAny_of_tree ?_
  obtain ⟨A1, hA⟩ : ∃ A1, A1 = (A.deeper (fenvI 7 "_law_places" 49 48 L)).under (pmC it L) := ⟨_, rfl⟩
  rw [← hA]
  show wpAny _ _ ((forTurn _ _ _ _ _).onRaise _) _ _ _
  refine noE ?_
  refine (?_ : Ar (A1.handled = none) _) (by rw [hA]; exact dh); intro hh1
  clear hA
  repeat walk_at "#9;;Set Get EF PN PI UI GM CO BI"
  refine wpAny_pyNext_list_end hh1 (of_itO (Mem.at Dm 0 _ _ rfl)) ⟨_, kp_mem Dm _ _ hF, rfl, _, rfl⟩ rfl ?_
  intro h9 eb9
  refine (?_ : Ar _ _) ((Dm.nw _ (.head _)).1); intro n0
  have eP := eb9 _ _ (by intro e; have q2 := (Dm.nw _ (.tail _ (.head _))).1; rw [e, n0] at q2; simp [lsO, itO, frO] at q2) (Mem.at Dm 1 _ _ rfl)
  have eL := eb9 _ _ (by intro e; have q2 := (Dm.nw _ (.tail _ (.tail _ (.head _)))).1; rw [e, n0] at q2; simp [lsO, itO, frO] at q2) (Mem.at Dm 2 _ _ rfl)
  refine (?_ : Ar (Kp g3 h9) _) (fun b o e => eb9 b o (by rintro rfl; have := (Dm.nw _ (.head _)).2; rw [e] at this; cases this) (kp_mem Dm _ _ e)); intro kq
  clear Dm n0 eb9
  refine (?_ : Ar _ _) (Mem.start h9); intro Dm
  repeat walk_at "#9;;Set Get EF PN PI UI GM CO BI"
  refine ⟨rfl, codeAny_of_tree ?_⟩
  show wpAny _ _ (do return Fin.done (← (execs [] (fenvI 7 "_law_places" 49 48 L)).onRaise _)) _ _ _
  repeat walk_at "#9;;Set Get EF PN PI UI GM CO BI"
  refine nsGetO (r := some (.ref PL)) Dm eL (by kernel_rfl!) ?_
  repeat walk_at "#9;;Set Get EF PN PI UI GM CO BI"
  refine k PL h9 _ (fun b o e => kq b o (kp3 b o e)) ⟨fun i => ([t0, q01, q02, q03, q11, q12, q13, q21, q22, q23] : List Addr).getD i 0, _, fun i => ([t + 1, t + 1 + 1, v10, v20, v30, v40, v50, v60, v11, v21, v31, v41, v51, v61, v12, v22, v32, v42, v52, v62] : List Tok).getD i 0, eP, fun i hi => ?_⟩
  match i, hi with
  | 0, _ => exact kq _ _ z0
  | 1, _ => exact kq _ _ z01
  | 2, _ => exact kq _ _ z02
  | 3, _ => exact kq _ _ z03
  | 4, _ => exact kq _ _ z11
  | 5, _ => exact kq _ _ z12
  | 6, _ => exact kq _ _ z13
  | 7, _ => exact kq _ _ z21
  | 8, _ => exact kq _ _ z22
  | 9, _ => exact kq _ _ z23
  | n + 10, hi => exact absurd hi (by first | (refine lb (by assumption) ?_; rfl) | omega)

end Mine
namespace Mine
noncomputable def leB (l c l' c' : Int) : Bool := if l = l' then decide (c ≤ c') else decide (l < l')
local macro_rules | `(tactic| x_close) => `(tactic| (apply_assumption <;> first | exact kp_mem (by assumption) | exact Kp.refl _ | exact Mem.at (by assumption) 0 _ _ rfl))
theorem isiC (w : World) : ∀ (s : Shared) (hx : (KX w.params).In s.heap) (Q : Value → Shared → Prop) (E : Value → Shared → Prop) (n : Int) (u : Tok)
   (k : ∀ h' tk, Kp s.heap h' → Q (.bool true) { s with heap := h', toks := tk }),
   wpAny (model PySem.Challenge.rw_ij0005_01.row.toRowW.prog w) AX (PySem.call (.builtin "isinstance") [.int n u, .type "int"] []) Q E s := by
  k_fill
  intros
  x_run

end Mine
namespace Mine
section
variable {w : World} {A : Around} {E : Value → Shared → Prop} {h : Heap} {g : Array GenState} {d : Drawn} {t : Nat} {os : OsState} {Q : Value → Shared → Prop}
theorem sliceApplied2 {s : Shared} {sl : Addr} {u : Tok} {Q : Int × Int × Nat → Shared → Prop} (hs : s.heap.IsSliceOf sl .none (.int 2 u) .none) (h : Q (0, 1, 2) s) :
    wpAny (MM w) A (Builtin.Slice.sliceApplied (.ref sl) (pure (3 : Int))) Q E s := by
  obtain ⟨os, hos, hcs, hds⟩ := id hs
  unfold Builtin.Slice.sliceApplied Builtin.Slice.sliceFields
  refine wpAny_bind (wpAny_bind (wpAny_field hos hds (x := .none) rfl (wpAny_bind (wpAny_field hos hds (x := .int 2 u) rfl (wpAny_bind (wpAny_field hos hds (x := .none) rfl (wpAny_pure ?_)))))))
  refine wpAny_bind (slicePart_none ?_)
  show wpAny _ _ (if ((1 : Int) == 0) = true then _ else _) _ _ s
  rw [if_neg (by decide)]
  refine wpAny_bind (slicePart_none (wpAny_bind (slicePart_int (wpAny_bind (wpAny_pure ?_)))))
  show wpAny _ _ (match Builtin.Slice.sliceAdjust none (some (2 : Int)) 1 (3 : Int) with | (lo, hi) => pure (lo, (1 : Int), Builtin.Slice.slicePlaces lo hi 1)) _ _ s
  exact wpAny_pure h
theorem tupSlice (X : (KX w.params).In h) {a sl : Addr} {l c b : Int} {u1 u2 u3 u4 : Tok} (ha : h.get? a = some (tup3 l c b u1 u2 u3)) (hb : h.get? sl = some ⟨.type "slice", none, .fields #[.none, .int 2 u4, .none], #[]⟩)
    (k : ∀ r h' tk, Kp h h' → h'.get? r = some (tup l c u1 u2) → Q (.ref r) ⟨h', g, d, tk, os⟩) : wpAny (MM w) A (getItem (.ref a) (.ref sl)) Q E ⟨h, g, d, t, os⟩ := by
  have ht : IsTup (⟨h, g, d, t, os⟩ : Shared).heap a #[.int l u1, .int c u2, .int b u3] := ⟨_, ha, rfl, _, rfl⟩
  have hs : (⟨h, g, d, t, os⟩ : Shared).heap.IsSliceOf sl .none (.int 2 u4) .none := ⟨_, hb, rfl, rfl⟩
  have hTs : (⟨h, g, d, t, os⟩ : Shared).TypeIs (.ref sl) "slice" := ⟨_, hb, rfl⟩
  unfold getItem
  try with_reducible refine wpAny_holding ?_
  first | refine wpAny_bind (wpAny_pure ?_) | skip
  refine wpAny_bind (wpAny_sequenceKey ht.typeIs (by decide) ?_)
  refine wpAny_bind (wpAny_callSpecial?_slot (name := Str.ofString "__getitem__") ht.typeIs PySem.F.slot_tuple_getitem
    (wpAny_call_entry PySem.F.slot_tuple_getitem ht.typeIs entry_tuple_getitem ?_ (args_tuple_getitem _ _)))
  show wpAny _ _ (Builtin.Tuple.tupleItemsOf (.ref a) >>= _) _ _ _
  refine wpAny_bind (tupleItemsOf_ ht ?_)
  refine wpAny_bind (wpAny_typeOf hTs ?_)
  rw [if_pos (by decide)]
  refine wpAny_bind (sliceApplied2 hs ?_)
  show wpAny _ _ (if ((0 : Int) == 0 && (1 : Int) == 1 && (2 : Nat) == 3) = true then _ else _) _ _ _
  rw [if_neg (by decide)]
  have e3 : ((List.range 2).filterMap fun (k : Nat) => (#[Value.int l u1, .int c u2, .int b u3] : Array Value)[((0 : Int) + (k : Int) * 1).toNat]?).toArray = #[Value.int l u1, .int c u2] := by simp [List.range, List.range.loop]
  rw [e3]
  have key : Q (.ref h.objs.size) ⟨h.push (tup l c u1 u2), g, d, t, os⟩ := k _ _ t (kp_mem ((Mem.start h).alloc (o := tup l c u1 u2) rfl)) (((Mem.start h).alloc (o := tup l c u1 u2) rfl).at 0 _ _ rfl)
  show wpAny _ _ (Builtin.Tuple.tupleExact _ >>= _) _ _ _
  refine wpAny_bind ?_
  unfold Builtin.Tuple.tupleExact
  refine wpAny_newObj_type ?_ (show sizeOk (.seq #[Value.int l u1, .int c u2]) from (by decide : 2 ≤ sizeLine))
  exact wpAny_pure ⟨_, rfl, wpAny_pure key⟩
theorem opLe (l c l' c' : Int) : opT .LtE l c l' c' = leB l c l' c' := by
  unfold opT leB
  split
  · split
    · rename_i e; subst e; exact (decide_eq_true (Int.le_refl _)).symm
    · rfl
  · rename_i e; show decide (l ≤ l') = decide (l < l'); rw [Bool.eq_iff_iff]; simp only [decide_eq_true_eq]; omega
theorem opGe (l c l' c' : Int) : opT .GtE l c l' c' = leB l' c' l c := by
  unfold opT leB
  split
  · rename_i e0; rw [if_pos e0.symm]; split
    · rename_i e; subst e; exact (decide_eq_true (Int.le_refl _)).symm
    · rfl
  · rename_i e; rw [if_neg (fun x => e x.symm)]; show decide (l' ≤ l) = decide (l' < l); rw [Bool.eq_iff_iff]; simp only [decide_eq_true_eq]; omega
theorem neTup (hh : A.handled = none) (hd : A.depth ≤ 700) (hu : A.units ≤ 8000) (X : (KX w.params).In h) {a b : Addr} {l c : Int} {u1 u2 u3 u4 : Tok} (ha : h.get? a = some (tup l c u1 u2)) (hb : h.get? b = some (tup l c u3 u4))
    (k : ∀ h' tk, Kp h h' → Q (.bool false) ⟨h', g, d, tk, os⟩) : wpAny (MM w) A (compareOp .NotEq (.ref a) (.ref b)) Q E ⟨h, g, d, t, os⟩ :=
  tupO_ne (Nat.lt_of_le_of_lt hu (by decide)) ha hb (by rw [opT0]; exact k _ _ (Kp.refl _))
theorem leTup (hh : A.handled = none) (hd : A.depth ≤ 700) (hu : A.units ≤ 8000) (X : (KX w.params).In h) {a b : Addr} {l c l' c' : Int} {u1 u2 u3 u4 : Tok} (ha : h.get? a = some (tup l c u1 u2)) (hb : h.get? b = some (tup l' c' u3 u4))
    (k : ∀ h' tk, Kp h h' → Q (.bool (leB l c l' c')) ⟨h', g, d, tk, os⟩) : wpAny (MM w) A (compareOp .LtE (.ref a) (.ref b)) Q E ⟨h, g, d, t, os⟩ :=
  tupO_le (Nat.lt_of_le_of_lt hu (by decide)) ha hb (by rw [opLe]; exact k _ _ (Kp.refl _))
theorem geTup (hh : A.handled = none) (hd : A.depth ≤ 700) (hu : A.units ≤ 8000) (X : (KX w.params).In h) {a b : Addr} {l c l' c' : Int} {u1 u2 u3 u4 : Tok} (ha : h.get? a = some (tup l c u1 u2)) (hb : h.get? b = some (tup l' c' u3 u4))
    (k : ∀ h' tk, Kp h h' → Q (.bool (leB l' c' l c)) ⟨h', g, d, tk, os⟩) : wpAny (MM w) A (compareOp .GtE (.ref a) (.ref b)) Q E ⟨h, g, d, t, os⟩ :=
  tupO_ge (Nat.lt_of_le_of_lt hu (by decide)) ha hb (by rw [opGe]; exact k _ _ (Kp.refl _))
theorem neLst (hu : A.units ≤ 8000) {a b : Addr} {xs : Array Value} {n n' : Nat} (ha : h.get? a = some (lsO xs n)) (hb : h.get? b = some (lsO xs n'))
    (k : Q (.bool false) ⟨h, g, d, t, os⟩) : wpAny (MM w) A (compareOp .NotEq (.ref a) (.ref b)) Q E ⟨h, g, d, t, os⟩ := by
  have := SeqAt.RcNeAt.lists (A := A) (s := ⟨h, g, d, t, os⟩) (l := a) (b := b) (items := xs) (items2 := xs) (e := fun _ => true) ⟨_, ha, rfl, _, rfl⟩ ⟨_, hb, rfl, _, rfl⟩ rfl (Nat.lt_of_le_of_lt hu (by decide)) (fun j h1 h2 => SeqAt.EqAt.same _)
  refine EqBoolInt.of_rcne this ?_
  have e : (!(List.range xs.size).all fun _ => true) = false := by simp
  rw [e]
  exact k
theorem lstSlice {h₀ : Heap} {news : List (Addr × Obj)} {a sl : Addr} {xs : Array Value} {n : Nat} {vl vu vs : Value} {lo hi st : Option Int} (D : Mem h₀ h [] news) (ha : h.get? a = some (lsO xs n)) (hs : h.get? sl = some ⟨.type "slice", none, .fields #[vl, vu, vs], #[]⟩) (pl : IsPart vl lo) (pu : IsPart vu hi) (ps : IsPart vs st) (h0 : st ≠ some 0) (hsz : xs.size ≤ 9)
    (k : ∀ r h', Mem h₀ h' [] ((r, lsO (slicePick xs lo hi st) 0) :: news) → Q (.ref r) ⟨h', g, d, t, os⟩) : wpAny (MM w) A (getItem (.ref a) (.ref sl)) Q E ⟨h, g, d, t, os⟩ :=
  wpAny_getItem_list_slice (s := ⟨h, g, d, t, os⟩) ⟨_, ha, rfl, _, rfl⟩ ⟨_, hs, rfl, rfl⟩ pl pu ps h0 (k _ _ (D.alloc rfl)) (Nat.le_trans hsz (by decide))
theorem isiI (hh : A.handled = none) (hd : A.depth ≤ 700) (hu : A.units ≤ 8000) (X : (KX w.params).In h) {n : Int} {u : Tok}
    (k : ∀ h' tk, Kp h h' → Q (.bool true) ⟨h', g, d, tk, os⟩) : wpAny (MM w) A (PySem.call (.builtin "isinstance") [.int n u, .type "int"] []) Q E ⟨h, g, d, t, os⟩ :=
  deep (isiC w ⟨h, g, d, t, os⟩ X _ _ n u k) hh (by omega) (by omega)
theorem stopNE {M : Model} {s : Shared} {a b : Addr} (x : wpAny M A (compareOp .NotEq (.ref a) (.ref b)) Q E s) : wpAny M A (compareOp .NotEq (.ref a) (.ref b)) Q E s := x
end

end Mine
namespace Mine
set_option tactic.hygienic false
variable {w : World} {A : Around} {Q : Value → Shared → Prop} {E : Value → Shared → Prop} {h : Heap} {g : Array GenState} {d : Drawn} {t : Nat} {os : OsState}
theorem tld0 (hh : A.handled = none) (hd : A.depth ≤ 700) (hu : A.units ≤ 8000) (X : (KX w.params).In h)
    (k : ∀ a h' tk, Kp h h' → h'.get? a = some (lsO #[] 0) → Q (.ref a) ⟨h', g, d, tk, os⟩) : wpAny (MM w) A (PySem.call (.ref 98) [.none] []) Q E ⟨h, g, d, t, os⟩ := by
  refine (?_ : Ar _ _) (kf98 X); intro f1
  refine (?_ : Ar _ _) (kc97 X); intro f2
  refine (?_ : Ar _ _) (k3 X); intro f3
  unfold code97 at f2
  refine wpAny_call (codeAny_of_tree ?_)
  show wpAny _ _ (callAny (.ref 98) _) _ _ _
  refine noE ?_
  refine (?_ : Ar _ _) (Mem.start h); intro Dm
  repeat walk_at "#3;;Set Get EF GA"
  refine allocB ((?_ : Aa _ _ _ _ _ _ (⟨.type "frame", none, .dict #[] 0, #[]⟩) _) _ _ (Mem.alloc Dm rfl))
  clear Dm; intro L hL Dm
  repeat walk_at "#3;;Set Get EF GA"
  refine nsSetB rfl Dm 0 rfl (by kernel_rfl!) ((?_ : Au _ _ _ _ _ _ _) _ (nsPutD (o' := fun tk => frO #[en w.params "hit" tk .none] 1) Dm 0 rfl (by intro tk; kernel_rfl!) (fun _ => rfl)))
  clear Dm; intro hL2 Dm; dsimp only [List.set] at Dm
  repeat walk_at "#3;;Set Get EF GA"
  refine wpAny_enterFrame (nolim (X.keeps (kp_mem Dm))) (Nat.lt_of_le_of_lt hd (by decide)) ?_
  repeat walk_at "#3;;Set Get EF GA"
  refine ⟨rfl, codeAny_func (body := fbody 14) (env := fenvI 14 "_law_told" 98 97 L) ?_⟩
  refine (?_ : Ar ((A.deeper (fenvI 14 "_law_told" 98 97 L)).handled = none) _) (hh); intro dh
  refine (?_ : Ar ((A.deeper (fenvI 14 "_law_told" 98 97 L)).depth ≤ 800) _) (by show A.depth + 1 ≤ 800; exact lbk 1 hd rfl); intro dd
  refine (?_ : Ar ((A.deeper (fenvI 14 "_law_told" 98 97 L)).units ≤ 9000) _) (by show A.units + 3 ≤ 9000; exact lbk 3 hu rfl); intro du
  refine (?_ : Ar ((A.deeper (fenvI 14 "_law_told" 98 97 L)).units < cLine) _) (Nat.lt_of_le_of_lt du (by decide)); intro hroom
  refine noE ?_
  repeat walk_at "#3;;Set Get EF GA"
  refine nsGetM (r := some .none) Dm 0 rfl (by kernel_rfl!) ?_
  repeat walk_at "#3;;Set Get EF GA"
  refine allocB ((?_ : Aa _ _ _ _ _ _ (lsO #[] 0) _) _ _ (Mem.alloc Dm rfl))
  clear Dm; intro a h5 Dm
  repeat walk_at "#3;;Set Get EF GA"
  exact k a h5 _ (kp_mem Dm) (Mem.at Dm 0 _ _ rfl)
theorem tld1 (hh : A.handled = none) (hd : A.depth ≤ 700) (hu : A.units ≤ 8000) (X : (KX w.params).In h) {hit x y z : Addr} (H : HitP h hit x y z)
    (k : ∀ a h' tk, Kp h h' → h'.get? a = some (lsO #[.ref z] 0) → Q (.ref a) ⟨h', g, d, tk, os⟩) : wpAny (MM w) A (PySem.call (.ref 98) [.ref hit] []) Q E ⟨h, g, d, t, os⟩ := by
  refine (?_ : Ar _ _) (kf98 X); intro f1
  refine (?_ : Ar _ _) (kc97 X); intro f2
  refine (?_ : Ar _ _) (k3 X); intro f3
  unfold code97 at f2
  refine wpAny_call (codeAny_of_tree ?_)
  show wpAny _ _ (callAny (.ref 98) _) _ _ _
  refine noE ?_
  refine (?_ : Ar _ _) (Mem.start h); intro Dm
  repeat walk_at "#3;;Set Get EF GA"
  refine allocB ((?_ : Aa _ _ _ _ _ _ (⟨.type "frame", none, .dict #[] 0, #[]⟩) _) _ _ (Mem.alloc Dm rfl))
  clear Dm; intro L hL Dm
  repeat walk_at "#3;;Set Get EF GA"
  refine nsSetB rfl Dm 0 rfl (by kernel_rfl!) ((?_ : Au _ _ _ _ _ _ _) _ (nsPutD (o' := fun tk => frO #[en w.params "hit" tk (.ref hit)] 1) Dm 0 rfl (by intro tk; kernel_rfl!) (fun _ => rfl)))
  clear Dm; intro hL2 Dm; dsimp only [List.set] at Dm
  repeat walk_at "#3;;Set Get EF GA"
  refine wpAny_enterFrame (nolim (X.keeps (kp_mem Dm))) (Nat.lt_of_le_of_lt hd (by decide)) ?_
  repeat walk_at "#3;;Set Get EF GA"
  refine ⟨rfl, codeAny_func (body := fbody 14) (env := fenvI 14 "_law_told" 98 97 L) ?_⟩
  refine (?_ : Ar ((A.deeper (fenvI 14 "_law_told" 98 97 L)).handled = none) _) (hh); intro dh
  refine (?_ : Ar ((A.deeper (fenvI 14 "_law_told" 98 97 L)).depth ≤ 800) _) (by show A.depth + 1 ≤ 800; exact lbk 1 hd rfl); intro dd
  refine (?_ : Ar ((A.deeper (fenvI 14 "_law_told" 98 97 L)).units ≤ 9000) _) (by show A.units + 3 ≤ 9000; exact lbk 3 hu rfl); intro du
  refine (?_ : Ar ((A.deeper (fenvI 14 "_law_told" 98 97 L)).units < cLine) _) (Nat.lt_of_le_of_lt du (by decide)); intro hroom
  refine noE ?_
  repeat walk_at "#3;;Set Get EF GA"
  refine nsGetM (r := some (.ref hit)) Dm 0 rfl (by kernel_rfl!) ?_
  repeat walk_at "#3;;Set Get EF GA"
  refine nsGetM (r := some (.ref hit)) Dm 0 rfl (by kernel_rfl!) ?_
  repeat walk_at "#3;;Set Get EF GA"
  refine (gaHit dh dd du _ g d _ os _ (X.keeps (kp_mem Dm)) (H.kp (kp_mem Dm))).2 ?_
  intro h4 tk4 kp4
  refine (?_ : Ar _ _) (memKp Dm kp4); clear Dm; intro Dm
  repeat walk_at "#3;;Set Get EF GA"
  refine allocB ((?_ : Aa _ _ _ _ _ _ (lsO #[.ref z] 0) _) _ _ (Mem.alloc Dm rfl))
  clear Dm; intro a h5 Dm
  repeat walk_at "#3;;Set Get EF GA"
  exact k a h5 _ (kp_mem Dm) (Mem.at Dm 0 _ _ rfl)

end Mine
namespace Mine
variable {w : World} {A : Around} {Q : Value → Shared → Prop} {E : Value → Shared → Prop}
set_option tactic.hygienic false

noncomputable def fiv (r : Int) : Array Value := #[.bool (opB .Lt r 0), .bool (opB .LtE r 0), .bool (opB .Eq r 0), .bool (opB .GtE r 0), .bool (opB .Gt r 0)]
theorem five (hh : A.handled = none) (hd : A.depth ≤ 440) (hu : A.units ≤ 3400) (h : Heap) (g : Array GenState) (d : Drawn) (t : Nat) (os : OsState) (X : (KX w.params).In h)
  (fa : Addr) (ffd : FuncData) (R : Int → Int → Int → Int → Int) (hcmp : CmpC w (.ref fa) R) (C x y : Addr) (l c l' c' : Int) (hK : IsK w.params h C (.ref fa)) (hfa : h.get? fa = some ⟨.type "function", none, .func ffd, #[]⟩) (hx : Key h C x l c) (hy : Key h C y l' c')
  (k : ∀ r h' tk, Kp h h' → h'.get? r = some (lsO (fiv (R l c l' c')) 0) → Q (.ref r) ⟨h', g, d, tk, os⟩) :
  wpAny (MM w) A (call (.ref 77) [.ref x, .ref y] []) Q E ⟨h, g, d, t, os⟩ := by
  have f1 := kf77 X
  have f2 := kc76 X
  have f3 := k3 X
  unfold code76 at f2
  refine wpAny_call (codeAny_of_tree ?_)
  show wpAny _ _ (callAny (.ref 77) _) _ _ _
  refine noE ?_
  refine (?_ : Ar _ _) (Mem.start h); intro Dm
  repeat walk_at "#2;;Set Get EF CO"
  refine allocB ((?_ : Aa _ _ _ _ _ _ (⟨.type "frame", none, .dict #[] 0, #[]⟩) _) _ _ (Mem.alloc Dm rfl))
  clear Dm; intro L hL Dm
  repeat walk_at "#2;;Set Get EF CO"
  refine nsSetB rfl Dm 0 rfl (by kernel_rfl!) ((?_ : Au _ _ _ _ _ _ _) _ (nsPutD (o' := fun tk => frO #[en w.params "one" tk (.ref x)] 1) Dm 0 rfl (by intro tk; kernel_rfl!) (fun _ => rfl)))
  clear Dm; intro hL2 Dm; dsimp only [List.set] at Dm
  repeat walk_at "#2;;Set Get EF CO"
  refine nsSetB rfl Dm 0 rfl (by kernel_rfl!) ((?_ : Au _ _ _ _ _ _ _) _ (nsPutD (o' := fun tk => frO #[en w.params "one" t (.ref x), en w.params "two" tk (.ref y)] 2) Dm 0 rfl (by intro tk; kernel_rfl!) (fun _ => rfl)))
  clear Dm; intro hL3 Dm; dsimp only [List.set] at Dm
  repeat walk_at "#2;;Set Get EF CO"
  refine wpAny_enterFrame (nolim (X.keeps (kp_mem Dm))) (Nat.lt_of_le_of_lt hd (by decide)) ?_
  repeat walk_at "#2;;Set Get EF CO"
  refine ⟨rfl, codeAny_func (body := fbody 11) (env := fenvI 11 "_law_five" 77 76 L) ?_⟩
  refine (?_ : Ar ((A.deeper (fenvI 11 "_law_five" 77 76 L)).handled = none) _) (hh); intro dh
  refine (?_ : Ar ((A.deeper (fenvI 11 "_law_five" 77 76 L)).depth ≤ 450) _) (by show A.depth + 1 ≤ 450; exact lbk 1 hd rfl); intro dd
  refine (?_ : Ar ((A.deeper (fenvI 11 "_law_five" 77 76 L)).units ≤ 3500) _) (by show A.units + 3 ≤ 3500; exact lbk 3 hu rfl); intro du
  refine (?_ : Ar ((A.deeper (fenvI 11 "_law_five" 77 76 L)).units < cLine) _) (Nat.lt_of_le_of_lt du (by decide)); intro hroom
  refine noE ?_
  repeat walk_at "#2;;Set Get EF CO"
  refine nsGetM (r := some (.ref x)) Dm 0 rfl (by kernel_rfl!) ?_
  repeat walk_at "#2;;Set Get EF CO"
  refine nsGetM (r := some (.ref y)) Dm 0 rfl (by kernel_rfl!) ?_
  repeat walk_at "#2;;Set Get EF CO"
  refine keyOp dh (by first | (refine lb (by assumption) ?_; rfl) | omega) (by first | (refine lb (by assumption) ?_; rfl) | omega) _ g d _ os fa ffd R hcmp .Lt C x y l c l' c' (X.keeps (kp_mem Dm)) (hK.kl (.of_kp (kp_mem Dm))) (kp_mem Dm _ _ hfa) (hx.kp (kp_mem Dm)) (hy.kp (kp_mem Dm)) rfl ?_
  intro h10 tk10 kp10
  replace Dm := memKp Dm kp10
  repeat walk_at "#2;;Set Get EF CO"
  refine nsGetM (r := some (.ref x)) Dm 0 rfl (by kernel_rfl!) ?_
  repeat walk_at "#2;;Set Get EF CO"
  refine nsGetM (r := some (.ref y)) Dm 0 rfl (by kernel_rfl!) ?_
  repeat walk_at "#2;;Set Get EF CO"
  refine keyOp dh (by first | (refine lb (by assumption) ?_; rfl) | omega) (by first | (refine lb (by assumption) ?_; rfl) | omega) _ g d _ os fa ffd R hcmp .LtE C x y l c l' c' (X.keeps (kp_mem Dm)) (hK.kl (.of_kp (kp_mem Dm))) (kp_mem Dm _ _ hfa) (hx.kp (kp_mem Dm)) (hy.kp (kp_mem Dm)) rfl ?_
  intro h11 tk11 kp11
  replace Dm := memKp Dm kp11
  repeat walk_at "#2;;Set Get EF CO"
  refine nsGetM (r := some (.ref x)) Dm 0 rfl (by kernel_rfl!) ?_
  repeat walk_at "#2;;Set Get EF CO"
  refine nsGetM (r := some (.ref y)) Dm 0 rfl (by kernel_rfl!) ?_
  repeat walk_at "#2;;Set Get EF CO"
  refine keyOp dh (by first | (refine lb (by assumption) ?_; rfl) | omega) (by first | (refine lb (by assumption) ?_; rfl) | omega) _ g d _ os fa ffd R hcmp .Eq C x y l c l' c' (X.keeps (kp_mem Dm)) (hK.kl (.of_kp (kp_mem Dm))) (kp_mem Dm _ _ hfa) (hx.kp (kp_mem Dm)) (hy.kp (kp_mem Dm)) rfl ?_
  intro h12 tk12 kp12
  replace Dm := memKp Dm kp12
  repeat walk_at "#2;;Set Get EF CO"
  refine nsGetM (r := some (.ref x)) Dm 0 rfl (by kernel_rfl!) ?_
  repeat walk_at "#2;;Set Get EF CO"
  refine nsGetM (r := some (.ref y)) Dm 0 rfl (by kernel_rfl!) ?_
  repeat walk_at "#2;;Set Get EF CO"
  refine keyOp dh (by first | (refine lb (by assumption) ?_; rfl) | omega) (by first | (refine lb (by assumption) ?_; rfl) | omega) _ g d _ os fa ffd R hcmp .GtE C x y l c l' c' (X.keeps (kp_mem Dm)) (hK.kl (.of_kp (kp_mem Dm))) (kp_mem Dm _ _ hfa) (hx.kp (kp_mem Dm)) (hy.kp (kp_mem Dm)) rfl ?_
  intro h13 tk13 kp13
  replace Dm := memKp Dm kp13
  repeat walk_at "#2;;Set Get EF CO"
  refine nsGetM (r := some (.ref x)) Dm 0 rfl (by kernel_rfl!) ?_
  repeat walk_at "#2;;Set Get EF CO"
  refine nsGetM (r := some (.ref y)) Dm 0 rfl (by kernel_rfl!) ?_
  repeat walk_at "#2;;Set Get EF CO"
  refine keyOp dh (by first | (refine lb (by assumption) ?_; rfl) | omega) (by first | (refine lb (by assumption) ?_; rfl) | omega) _ g d _ os fa ffd R hcmp .Gt C x y l c l' c' (X.keeps (kp_mem Dm)) (hK.kl (.of_kp (kp_mem Dm))) (kp_mem Dm _ _ hfa) (hx.kp (kp_mem Dm)) (hy.kp (kp_mem Dm)) rfl ?_
  intro h14 tk14 kp14
  replace Dm := memKp Dm kp14
  repeat walk_at "#2;;Set Get EF CO"
  refine allocB ((?_ : Aa _ _ _ _ _ _ (lsO (fiv (R l c l' c')) 0) _) _ _ (Mem.alloc Dm rfl))
  clear Dm; intro r h20 Dm
  repeat walk_at "#2;;Set Get EF CO"
  exact k r h20 _ (kp_mem Dm) (Mem.at Dm 0 _ _ rfl)

end Mine
namespace Mine

noncomputable def celO (v : Option Value) : Obj := ⟨.type "cell", none, .cell v, #[]⟩
noncomputable def lenv (yk yt yl yc L : Addr) : Env := { scope := fscope 15, locals := L, globals := mainGlobals, cells := [(Str.ofString "col", yc), (Str.ofString "line", yl), (Str.ofString "turned", yt), (Str.ofString "key", yk)], qual := Str.ofString ("law" ++ ".<locals>."), func := some 103, code := .ref 102, frame := some L, builtins := builtinsNs }
noncomputable def dcO (es : Array DictEntry) (n : Nat) : Obj := ⟨.type "dict", none, .dict es n, #[]⟩
theorem celne {a b : Addr} (h : a ≠ b) : celO (some (.ref a)) ≠ celO (some (.ref b)) := by
  intro e
  injection e with _ _ e2
  injection e2 with e3
  injection e3 with e4
  injection e4 with e5
  exact h e5
theorem kf63 {P : Params} {h : Heap} (x : (KX P).In h) : h.get? 63 = some ⟨.type "function", none, .func (ffdI 9 "_law_order" (.str (Str.ofString "law_ij0005_01") 222) (.ref 62)), #[]⟩ := x 63 _ (by kernel_rfl)
theorem kf70 {P : Params} {h : Heap} (x : (KX P).In h) : h.get? 70 = some ⟨.type "function", none, .func (ffdI 10 "_law_contrary" (.str (Str.ofString "law_ij0005_01") 222) (.ref 69)), #[]⟩ := x 70 _ (by kernel_rfl)
theorem kf84 {P : Params} {h : Heap} (x : (KX P).In h) : h.get? 84 = some ⟨.type "function", none, .func (ffdI 12 "_law_hit" (.str (Str.ofString "law_ij0005_01") 222) (.ref 83)), #[]⟩ := x 84 _ (by kernel_rfl)
theorem kf91 {P : Params} {h : Heap} (x : (KX P).In h) : h.get? 91 = some ⟨.type "function", none, .func (ffdI 13 "_law_program" (.str (Str.ofString "law_ij0005_01") 222) (.ref 90)), #[]⟩ := x 91 _ (by kernel_rfl)

end Mine
namespace Mine
noncomputable def code62 (P : Params) : Obj := ⟨(.type "code"), none, (.fields #[(.str (Str.ofString "_law_order") 256), (.str (Str.ofString "_law_order") 257), (.str (Str.ofString "/claim/cut.py") 258), (.int (69) 0), (.int (2) 0), (.int (0) 0), (.int (0) 0), (.int (3) 0), (.ref 57), (.bool true), (.int (181) 0), (.ref 58), .none, (.ref 59), (.ref 60), (.ref 61), (.int (261) 0), (.int (69) 0), (.str (Str.ofString "/claim/cut.py") 262)]), #[]⟩
theorem kc62 {P : Params} {h : Heap} (x : (KX P).In h) : h.get? 62 = some (code62 P) := x 62 _ (by kernel_rfl)
theorem opEq (l c l' c' : Int) : opT .Eq l c l' c' = decide (l = l' ∧ c = c') := by unfold opT opD opE; split <;> (try split) <;> simp_all
theorem opLt (l c l' c' : Int) : opT .Lt l c l' c' = decide (l < l' ∨ (l = l' ∧ c < c')) := by
  unfold opT
  split
  · rename_i e; subst e
    split
    · rename_i e; subst e; show false = _; rw [Bool.eq_iff_iff]; simp
    · show decide (c < c') = _; rw [Bool.eq_iff_iff]; simp
  · rename_i e; show decide (l < l') = _; rw [Bool.eq_iff_iff]; simp [e]
section
variable {w : World} {A : Around} {E : Value → Shared → Prop} {h : Heap} {g : Array GenState} {d : Drawn} {t : Nat} {os : OsState} {Q : Value → Shared → Prop}
theorem ordW (hh : A.handled = none) (hd : A.depth ≤ 795) (hu : A.units ≤ 8950) (X : (KX w.params).In h) {a b : Addr} {l c l' c' : Int} {u1 u2 u3 u4 : Tok} (ha : h.get? a = some (tup l c u1 u2)) (hb : h.get? b = some (tup l' c' u3 u4))
   (k : ∀ u h' tk, Kp h h' → Q (.int (ordI l c l' c') u) ⟨h', g, d, tk, os⟩) : wpAny (MM w) A (PySem.call (.ref 63) [.ref a, .ref b] []) Q E ⟨h, g, d, t, os⟩ := by
  refine (?_ : Ar _ _) (kf63 X); intro f1
  refine (?_ : Ar _ _) (kc62 X); intro f2
  unfold code62 at f2
  refine wpAny_call (codeAny_of_tree ?_)
  show wpAny _ _ (callAny (.ref 63) _) _ _ _
  refine noE ?_
  refine (?_ : Ar _ _) (Mem.start h); intro Dm
  repeat walk_at "#3;tl_neg slot_neg.bind*;Set Get EF CO"
  refine allocB ((?_ : Aa _ _ _ _ _ _ (frO #[] 0) _) _ _ (Mem.alloc Dm rfl))
  clear Dm; intro L hL Dm
  repeat walk_at "#3;tl_neg slot_neg.bind*;Set Get EF CO"
  refine nsSetB rfl Dm 0 rfl (by kernel_rfl!) ((?_ : Au _ _ _ _ _ _ _) _ (nsPutD (o' := fun tk => frO #[en w.params "one" tk (.ref a)] 1) Dm 0 rfl (by intro tk; kernel_rfl!) (fun _ => rfl)))
  clear Dm; intro hL2 Dm; dsimp only [List.set] at Dm
  repeat walk_at "#3;tl_neg slot_neg.bind*;Set Get EF CO"
  refine nsSetB rfl Dm 0 rfl (by kernel_rfl!) ((?_ : Au _ _ _ _ _ _ _) _ (nsPutD (o' := fun tk => frO #[en w.params "one" t (.ref a), en w.params "two" tk (.ref b)] 2) Dm 0 rfl (by intro tk; kernel_rfl!) (fun _ => rfl)))
  clear Dm; intro hL3 Dm; dsimp only [List.set] at Dm
  repeat walk_at "#3;tl_neg slot_neg.bind*;Set Get EF CO"
  refine wpAny_enterFrame (nolim (X.keeps (kp_mem Dm))) (Nat.lt_of_le_of_lt hd (by decide)) ?_
  repeat walk_at "#3;tl_neg slot_neg.bind*;Set Get EF CO"
  refine ⟨rfl, codeAny_func (body := fbody 9) (env := fenvI 9 "_law_order" 63 62 L) ?_⟩
  refine (?_ : Ar ((A.deeper (fenvI 9 "_law_order" 63 62 L)).units ≤ 9000) _) (by show A.units + 3 ≤ 9000; exact lbk 3 hu rfl); intro du
  refine (?_ : Ar ((A.deeper (fenvI 9 "_law_order" 63 62 L)).depth ≤ 800) _) (by show A.depth + 1 ≤ 800; exact lbk 1 hd rfl); intro dd
  refine (?_ : Ar ((A.deeper (fenvI 9 "_law_order" 63 62 L)).units < cLine) _) (Nat.lt_of_le_of_lt du (by decide)); intro hroom
  refine noE ?_
  repeat walk_at "#3;tl_neg slot_neg.bind*;Set Get EF CO"
  refine nsGetM (r := some (.ref a)) Dm 0 rfl (by kernel_rfl!) ?_
  repeat walk_at "#3;tl_neg slot_neg.bind*;Set Get EF CO"
  refine nsGetM (r := some (.ref b)) Dm 0 rfl (by kernel_rfl!) ?_
  repeat walk_at "#3;tl_neg slot_neg.bind*;Set Get EF CO"
  refine tupO_eq hroom (kp_mem Dm _ _ ha) (kp_mem Dm _ _ hb) ?_
  rw [opEq]
  by_cases e : l = l' ∧ c = c'
  · rw [decide_eq_true e]
    rw [ordI, if_pos e] at k
    repeat walk_at "#3;tl_neg slot_neg.bind*;Set Get EF CO"
    exact k _ _ _ (kp_mem Dm)
  · rw [decide_eq_false e]
    rw [ordI, if_neg e] at k
    repeat walk_at "#3;tl_neg slot_neg.bind*;Set Get EF CO"
    refine nsGetM (r := some (.ref a)) Dm 0 rfl (by kernel_rfl!) ?_
    repeat walk_at "#3;tl_neg slot_neg.bind*;Set Get EF CO"
    refine nsGetM (r := some (.ref b)) Dm 0 rfl (by kernel_rfl!) ?_
    repeat walk_at "#3;tl_neg slot_neg.bind*;Set Get EF CO"
    refine tupO_lt hroom (kp_mem Dm _ _ ha) (kp_mem Dm _ _ hb) ?_
    rw [opLt]
    by_cases e2 : l < l' ∨ (l = l' ∧ c < c')
    · rw [decide_eq_true e2]
      rw [if_pos e2] at k
      repeat walk_at "#3;tl_neg slot_neg.bind*;Set Get EF CO"
      refine deep (negC w ⟨hL3, g, d, _, os⟩ (X.keeps (kp_mem Dm)) _ _ _ ?_) hh dd du
      intro v h5 tk5 kp5
      refine (?_ : Ar _ _) (memKp Dm kp5); clear Dm; intro Dm
      try dsimp -zeta only
      repeat walk_at "#3;tl_neg slot_neg.bind*;Set Get EF CO"
      exact k _ _ _ (kp_mem Dm)
    · rw [decide_eq_false e2]
      rw [if_neg e2] at k
      repeat walk_at "#3;tl_neg slot_neg.bind*;Set Get EF CO"
      exact k _ _ _ (kp_mem Dm)
end
theorem cmp63 (w : World) : CmpC w (.ref 63) ordI := fun A hh hd hu s hx Q E a b l c l' c' u1 u2 u3 u4 ha hb k => ordW hh (lb hd rfl) (lb hu rfl) hx ha hb fun u h' tk kp => k _ u h' tk kp rfl

end Mine
namespace Mine
noncomputable def code69 : Obj := ⟨(.type "code"), none, (.fields #[(.str (Str.ofString "_law_contrary") 264), (.str (Str.ofString "_law_contrary") 265), (.str (Str.ofString "/claim/cut.py") 266), (.int (75) 0), (.int (2) 0), (.int (0) 0), (.int (0) 0), (.int (3) 0), (.ref 64), (.bool true), (.int (181) 0), (.ref 65), .none, (.ref 66), (.ref 67), (.ref 68), (.int (269) 0), (.int (75) 0), (.str (Str.ofString "/claim/cut.py") 270)]), #[]⟩
theorem kc69 {P : Params} {h : Heap} (x : (KX P).In h) : h.get? 69 = some code69 := x 69 _ (by kernel_rfl)
local macro_rules | `(tactic| x_close) => `(tactic| (apply_assumption <;> first | exact kp_mem (by assumption) | exact Kp.refl _))
theorem negA (w : World) : ∀ (s : Shared) (hx : (KX w.params).In s.heap) (Q : Value → Shared → Prop) (E : Value → Shared → Prop) (a : Int) (u : Tok)
   (k : ∀ v h' tk, Kp s.heap h' → Q (.int (-a) v) { s with heap := h', toks := tk }),
   wpAny (model PySem.Challenge.rw_ij0005_01.row.toRowW.prog w) AX (PySem.call (.builtin "int.__neg__") [.int a u] []) Q E s := by
  k_fill
  intros
  x_run
set_option tactic.hygienic false
theorem cmp70 (w : World) : CmpC w (.ref 70) (fun a b c d => -ordI a b c d) := by
  intro A hh hd hu s X Q E x y l c l' c' u1 u2 u3 u4 ha hb k
  obtain ⟨h, g, d, t, os⟩ := s
  have f1 := kf70 X
  have f2 := kc69 X
  have f3 := k3 X
  have f63 := kf63 X
  unfold code69 at f2
  refine wpAny_call (codeAny_of_tree ?_)
  show wpAny _ _ (callAny (.ref 70) _) _ _ _
  refine noE ?_
  refine (?_ : Ar _ _) (Mem.start h); intro Dm
  repeat walk_at "#3;tl_neg slot_neg.bind*;Set Get EF"
  refine allocB ((?_ : Aa _ _ _ _ _ _ (⟨.type "frame", none, .dict #[] 0, #[]⟩) _) _ _ (Mem.alloc Dm rfl))
  clear Dm; intro L hL Dm
  repeat walk_at "#3;tl_neg slot_neg.bind*;Set Get EF"
  refine nsSetB rfl Dm 0 rfl (by kernel_rfl!) ((?_ : Au _ _ _ _ _ _ _) _ (nsPutD (o' := fun tk => frO #[en w.params "one" tk (.ref x)] 1) Dm 0 rfl (by intro tk; kernel_rfl!) (fun _ => rfl)))
  clear Dm; intro hL2 Dm; dsimp only [List.set] at Dm
  repeat walk_at "#3;tl_neg slot_neg.bind*;Set Get EF"
  refine nsSetB rfl Dm 0 rfl (by kernel_rfl!) ((?_ : Au _ _ _ _ _ _ _) _ (nsPutD (o' := fun tk => frO #[en w.params "one" t (.ref x), en w.params "two" tk (.ref y)] 2) Dm 0 rfl (by intro tk; kernel_rfl!) (fun _ => rfl)))
  clear Dm; intro hL3 Dm; dsimp only [List.set] at Dm
  repeat walk_at "#3;tl_neg slot_neg.bind*;Set Get EF"
  refine wpAny_enterFrame (nolim (X.keeps (kp_mem Dm))) (Nat.lt_of_le_of_lt hd (by decide)) ?_
  repeat walk_at "#3;tl_neg slot_neg.bind*;Set Get EF"
  refine ⟨rfl, codeAny_func (body := fbody 10) (env := fenvI 10 "_law_contrary" 70 69 L) ?_⟩
  refine (?_ : Ar ((A.deeper (fenvI 10 "_law_contrary" 70 69 L)).handled = none) _) (hh); intro dh
  refine (?_ : Ar ((A.deeper (fenvI 10 "_law_contrary" 70 69 L)).depth ≤ 795) _) (by show A.depth + 1 ≤ 795; exact lbk 1 hd rfl); intro dd
  refine (?_ : Ar ((A.deeper (fenvI 10 "_law_contrary" 70 69 L)).units ≤ 8950) _) (by show A.units + 3 ≤ 8950; exact lbk 3 hu rfl); intro du
  refine (?_ : Ar ((A.deeper (fenvI 10 "_law_contrary" 70 69 L)).units < cLine) _) (Nat.lt_of_le_of_lt du (by decide)); intro hroom
  refine noE ?_
  repeat walk_at "#3;tl_neg slot_neg.bind*;Set Get EF"
  refine nsGetO (r := some (.ref 63)) Dm f3 (by kernel_rfl!) ?_
  repeat walk_at "#3;tl_neg slot_neg.bind*;Set Get EF"
  refine nsGetM (r := some (.ref x)) Dm 0 rfl (by kernel_rfl!) ?_
  repeat walk_at "#3;tl_neg slot_neg.bind*;Set Get EF"
  refine nsGetM (r := some (.ref y)) Dm 0 rfl (by kernel_rfl!) ?_
  repeat walk_at "#3;tl_neg slot_neg.bind*;Set Get EF"
  refine ordW dh dd du (X.keeps (kp_mem Dm)) (kp_mem Dm _ _ ha) (kp_mem Dm _ _ hb) ?_
  intro u h4 tk4 kp4
  replace Dm := memKp Dm kp4
  try dsimp -zeta only
  repeat walk_at "#3;tl_neg slot_neg.bind*;Set Get EF"
  refine deep (negA w ⟨h4, g, d, _, os⟩ (X.keeps (kp_mem Dm)) _ _ _ u ?_) dh (lb dd rfl) (lb du rfl)
  intro v h5 tk5 kp5
  try dsimp -zeta only
  repeat walk_at "#3;tl_neg slot_neg.bind*;Set Get EF"
  exact k _ _ _ _ (fun b o e => kp5 _ _ (kp_mem Dm _ _ e)) rfl

end Mine
namespace Mine
variable {N : Nat}
theorem reb {h₀ h h' : Heap} {n : List (Addr × Obj)} (D : Mem h₀ h [] n) (P : Addr → Obj → Prop) (k : ∀ b o, h.get? b = some o → P b o → h'.get? b = some o) (hn : ∀ p ∈ n, P p.1 p.2) :
    ∃ B, Mem B h' [] n ∧ (∀ b o, h'.get? b = some o → (∀ p ∈ n, p.2 ≠ o) → B.get? b = some o) ∧ (∀ b o, h₀.get? b = some o → P b o → B.get? b = some o) ∧ B.objs.size = h'.objs.size := by
  refine ⟨hideAll h' (n.map (·.1)), ⟨fun b o e _ => of_hideAll _ e, fun _ hp => (nomatch hp), List.nodup_nil, fun q hq => ⟨k _ _ (D.nw q hq).1 (hn q hq), hideAll_none _ (List.mem_map_of_mem hq)⟩, D.ord⟩, fun b o e hne => ?_, fun b o e hp => ?_, hideAll_size _ _⟩
  · refine hideAll_get _ e fun m => ?_
    obtain ⟨q, hq, rfl⟩ := List.mem_map.mp m
    have := k _ _ (D.nw q hq).1 (hn q hq)
    rw [e] at this
    exact hne q hq (Option.some.inj this).symm
  · refine hideAll_get _ (k _ _ (kp_mem D _ _ e) hp) fun m => ?_
    obtain ⟨q, hq, rfl⟩ := List.mem_map.mp m
    have := (D.nw q hq).2
    rw [e] at this; cases this
noncomputable def PK (N : Nat) (b : Addr) (o : Obj) : Prop := hasCls o = true ∨ (b ≤ 103 + N ∧ b ≠ 30)
theorem kxP {P : Params} {h h' : Heap} (X : (KX P).In h) (k : ∀ b o, h.get? b = some o → PK N b o → h'.get? b = some o) : (KX P).In h' :=
  kx_kl (N := N) (x := []) X (fun b o e _ c => k b o e c) (fun a m => nomatch m)
theorem codeKd {h h' : Heap} {c P : Addr} {ps} (x : h.IsCode c P ps) (k : ∀ b o, h.get? b = some o → (∃ vs, o.data = .fields vs) → h'.get? b = some o) : h'.IsCode c P ps :=
  let ⟨o, vs, file, tf, flags, tg, inF, text, tt, op, a, r1, r2, r3, r4, r5, r6, b, b2, r⟩ := x
  ⟨o, vs, file, tf, flags, tg, inF, text, tt, op, k _ _ a ⟨_, r1⟩, r1, r2, r3, r4, r5, r6, k _ _ b ⟨_, b2⟩, b2, r⟩
theorem tabKd {h h' : Heap} {c P : Addr} {ps} (x : h.TableAt c P ps) (k : ∀ b o, h.get? b = some o → (∃ vs, o.data = .fields vs) → h'.get? b = some o) : h'.TableAt c P ps :=
  let ⟨⟨o, vs, a, b, d, e⟩, f⟩ := x
  ⟨⟨o, vs, k _ _ a ⟨_, d⟩, b, d, e⟩, k _ _ f ⟨_, rfl⟩⟩
theorem j34Kd {q : Nat → Str} {h h' : Heap} (J : J34 N q h) (hs : ∃ o, h'.get? (103 + N) = some o) (k : ∀ b o, h.get? b = some o → (∃ vs, o.data = .fields vs) → h'.get? b = some o) : J34 N q h' := by
  obtain ⟨_, ⟨a, b⟩ | ⟨cc, T, a, b, l1, l2, ps, c, d, e⟩⟩ := J
  · exact ⟨hs, .inl ⟨codeKd a k, tabKd b k⟩⟩
  · refine ⟨hs, .inr ⟨cc, T, codeKd a k, tabKd b k, l1, l2, ps, codeKd c k, tabKd d k, fun pos x ex => ?_⟩⟩
    obtain ⟨cc, od, vs, os, t, e1, e2, e3⟩ := e pos x ex
    exact ⟨cc, od, vs, os, t, e1, k _ _ e2 ⟨_, rfl⟩, e3⟩
theorem isKd {P : Params} {h h' : Heap} {C : Addr} {fv : Value} (x : IsK P h C fv) (k : ∀ b o, h.get? b = some o → o.cls ≠ .type "frame" → (o.cls = .type "cell" → o = celO (some fv)) → h'.get? b = some o) : IsK P h' C fv := by
  obtain ⟨N, bt, md, cell, sl, st, f, cd, ct, od, vs, os', tq, tm, t1, t2, t4, t20, a1, a2, a3, a4, a5, a6⟩ := x
  refine ⟨N, bt, md, cell, sl, st, f, cd, ct, od, vs, os', tq, tm, t1, t2, t4, t20, k _ _ a1 ?_ ?_, k _ _ a2 ?_ ?_, k _ _ a3 ?_ ?_, k _ _ a4 ?_ ?_, a5, fun p hp => k _ _ (a6 p hp) ?_ ?_⟩
  · simp [kclsObj]
  · simp [kclsObj]
  · simp [knsObj]
  · simp [knsObj]
  · simp [mdObj]
  · simp [mdObj]
  · simp
  · intro _; rfl
  · simp only [kfs, List.mem_cons, List.not_mem_nil, or_false] at hp
    rcases hp with rfl | rfl | rfl | rfl | rfl | rfl | rfl | rfl | rfl | rfl | rfl | rfl | rfl | rfl | rfl | rfl | rfl | rfl | rfl <;> simp [kfun]
  · simp only [kfs, List.mem_cons, List.not_mem_nil, or_false] at hp
    rcases hp with rfl | rfl | rfl | rfl | rfl | rfl | rfl | rfl | rfl | rfl | rfl | rfl | rfl | rfl | rfl | rfl | rfl | rfl | rfl <;> simp [kfun]

end Mine
namespace Mine
noncomputable def code83 (P : Params) : Obj := ⟨(.type "code"), none, (.fields #[(.str (Str.ofString "_law_hit") 280), (.str (Str.ofString "_law_hit") 281), (.str (Str.ofString "/claim/cut.py") 282), (.int (79) 0), (.int (3) 0), (.int (0) 0), (.int (0) 0), (.int (3) 0), (.ref 78), (.bool true), (.int (181) 0), (.ref 79), .none, (.ref 80), (.ref 81), (.ref 82), (.int (289) 0), (.int (79) 0), (.str (Str.ofString "/claim/cut.py") 290)]), #[]⟩
theorem kc83 {P : Params} {h : Heap} (x : (KX P).In h) : h.get? 83 = some (code83 P) := x 83 _ (by kernel_rfl)
noncomputable def code90 (P : Params) : Obj := ⟨(.type "code"), none, (.fields #[(.str (Str.ofString "_law_program") 292), (.str (Str.ofString "_law_program") 293), (.str (Str.ofString "/claim/cut.py") 294), (.int (85) 0), (.int (0) 0), (.int (0) 0), (.int (0) 0), (.int (3) 0), (.ref 85), (.bool true), (.int (181) 0), (.ref 86), .none, (.ref 87), (.ref 88), (.ref 89), (.int (297) 0), (.int (85) 0), (.str (Str.ofString "/claim/cut.py") 298)]), #[]⟩
theorem kc90 {P : Params} {h : Heap} (x : (KX P).In h) : h.get? 90 = some (code90 P) := x 90 _ (by kernel_rfl)
theorem kx79 (P : Params) : (KX P).lookup 79 = none := by kernel_rfl
theorem kx86 (P : Params) : (KX P).lookup 86 = none := by kernel_rfl
theorem kxBut {P : Params} {h h' : Heap} {n : Nat} (X : (KX P).In h) (kn : (KX P).lookup n = none) (k : ∀ b o, h.get? b = some o → b ≠ n → h'.get? b = some o) : (KX P).In h' := fun b o e => k _ _ (X b o e) (by rintro rfl; rw [kn] at e; cases e)
theorem tl_fs : typeLookup (.type "function") (Str.ofString "__setattr__") = pure (some (.builtin "object.__setattr__")) := by rw [typeLookup_type, builtinLookup_eq_fast]; kernel_rfl
theorem slot_fs : Slot "function" (Str.ofString "__setattr__") "object.__setattr__" :=
  .of (owner := "object") (n := "__setattr__") tl_fs (by decide +kernel) (by decide +kernel) (by decide +kernel)
    (by first | exact .inl (by decide +kernel) | exact .inr (by decide +kernel)) (by rw [isSubtype_type]; kernel_rfl)
theorem entry_fs : entryFor table "object.__setattr__" = some Builtin.«object.__setattr__» := entryFor_of_tree (by kernel_rfl)
theorem args_fs (a b c : Value) : argsOk "object.__setattr__" ⟨[a, b, c], []⟩ := by kernel_rfl
/-- the ledger on a new base after a call that changes the table P alone -/
theorem rebT {q : Nat → Str} {c P : Addr} {h₀ h h' : Heap} {n : List (Addr × Obj)} (D : Mem h₀ h [] n) (J : JT q c P h₀) (eb : Heap.ExtBut P h h') (J' : JT q c P h') (hn : (n.all fun p => p.2.cls != .type "code" && p.2.cls != .none) = true) :
    ∃ B, Mem B h' [] n ∧ JT q c P B ∧ Heap.ExtBut P h₀ B ∧ ∀ pos x, qn q h' pos x → qn q B pos x := by
  obtain ⟨vs, ht⟩ := J.tab
  have hP : ∀ p ∈ n, p.1 ≠ P := fun p hp e => by
    have := (D.nw p hp).2
    rw [e, ht] at this; cases this
  obtain ⟨B, D1, m1, o1, z1⟩ := reb D (fun b _ => b ≠ P) (fun b o e c => eb b o c e) hP
  have k : ∀ b o, h'.get? b = some o → (o.cls = .type "code" ∨ o.cls = .none) → B.get? b = some o := fun b o e hc => m1 b o e fun p hp e2 => by
    have := List.all_eq_true.mp hn p hp
    rw [e2, Bool.and_eq_true] at this
    rcases hc with q | q <;> rw [q] at this <;> simp at this
  refine ⟨B, D1, J'.kd k, fun b o n e => o1 b o e n, fun pos x hx => ?_⟩
  obtain ⟨cc, od, vs', os, t, a1, a2, a3⟩ := hx
  exact ⟨cc, od, vs', os, t, a1, k _ _ a2 (.inl rfl), a3⟩
theorem two_of {vs : Array Value} {x : Value} (e : vs[1]? = some x) : ∃ a r, vs = ⟨a :: x :: r⟩ := by
  obtain ⟨l⟩ := vs
  match l, e with
  | a :: b :: r, e => cases e; exact ⟨a, r, rfl⟩
theorem fcodeB {M : Model} {A : Around} {E : Value → Shared → Prop} {h₀ h : Heap} {g : Array GenState} {d : Drawn} {t : Nat} {os : OsState} {news : List (Addr × Obj)} {env : Env} {q : Nat → Str} {c P : Addr} {pos : Pos} {fl : Nat} {name qual : Str} {p : Arguments} {scope : Scope} {body : FuncBody} {Q : Value → Shared → Prop}
    (D : Mem h₀ h [] news) (J : JT q c P h₀) (hc : env.code = .ref c) (hq : qual = q pos.line) (hn : (news.all fun p => p.2.cls != .type "code" && p.2.cls != .none) = true)
    (k : ∀ B h' tk cc od ox ot or os', Mem B h' [] news → JT q c P B → Heap.ExtBut P h₀ B → B.get? cc = some ⟨.type "code", od, .fields ⟨ox :: .str (q pos.line) ot :: or⟩, os'⟩ → Q (.ref cc) ⟨h', g, d, tk, os⟩) :
    wpAny M A (functionCode env pos fl name qual p scope body) Q E ⟨h, g, d, t, os⟩ := by
  refine fcodeT hc (J.kp (kp_mem D)) hq fun x h' tk eb J' qx => ?_
  obtain ⟨B, D1, J1, o1, qq⟩ := rebT D J eb J' hn
  obtain ⟨cc, od, vs, os', tq, rfl, g1, g2⟩ := qq _ _ qx
  obtain ⟨a, r, rfl⟩ := two_of g2
  exact k B h' tk cc od a tq r os' D1 J1 o1 g1
noncomputable def HitT (h : Heap) : Prop := JT (fun _ => Str.ofString "_law_hit.<locals>.<lambda>") 83 79 h
theorem HitT.but {h h' : Heap} (H : HitT h) (k : Kp h h') : HitT h' := JT.kp H k
noncomputable def T79 (h : Heap) : Prop := HitT h
theorem T79.kp {h h' : Heap} (H : T79 h) (k : Kp h h') : T79 h' := JT.kp H k
theorem T79.start {P : Params} {h : Heap} (X : (KX P).In h) (t79 : h.get? 79 = some (tableObj #[])) : T79 h :=
  ⟨_, ⟨_, _, _, _, _, _, _, _, _, _, kc83 X, rfl, rfl, rfl, rfl, rfl, rfl, t79, rfl, trivial, by decide⟩, ⟨⟨_, _, kc83 X, rfl, rfl, rfl⟩, t79⟩, fun _ _ e => by cases e⟩
theorem T86.start {P : Params} {h : Heap} (X : (KX P).In h) (t86 : h.get? 86 = some (tableObj #[])) (q : Nat → Str) : JT q 90 86 h :=
  ⟨_, ⟨_, _, _, _, _, _, _, _, _, _, kc90 X, rfl, rfl, rfl, rfl, rfl, rfl, t86, rfl, trivial, by decide⟩, ⟨⟨_, _, kc90 X, rfl, rfl, rfl⟩, t86⟩, fun _ _ e => by cases e⟩
noncomputable def henv (L cf cb : Addr) : Env := { scope := fscope 12, locals := L, globals := mainGlobals, cells := [(Str.ofString "behind", cb), (Str.ofString "first", cf)], qual := Str.ofString "_law_hit.<locals>.", func := some 84, code := .ref 83, frame := some L, builtins := builtinsNs }
section
variable {w : World} {A : Around} {E : Value → Shared → Prop} {h : Heap} {g : Array GenState} {d : Drawn} {t : Nat} {os : OsState} {Q : Value → Shared → Prop}
theorem hitU (hh : A.handled = none) (hd : A.depth ≤ 700) (hu : A.units ≤ 8000) (X : (KX w.params).In h) (T : T79 h) {x y z : Addr}
    (k : ∀ hit h' tk, Heap.ExtBut 79 h h' → HitP h' hit x y z → HitT h' → Q (.ref hit) ⟨h', g, d, tk, os⟩) :
    wpAny (MM w) A (PySem.call (.ref 84) [.ref x, .ref y, .ref z] []) Q E ⟨h, g, d, t, os⟩ := by
  have f1 := kf84 X
  have f2 := kc83 X
  have f3 := k3 X
  unfold code83 at f2
  refine wpAny_call (codeAny_of_tree ?_)
  show wpAny _ _ (callAny (.ref 84) _) _ _ _
  refine noE ?_
  refine (?_ : Ar _ _) (Mem.start h); intro Dm
  repeat walk_at "#8;tl_fs slot_fs.bind* tl_fspan tl_ffirst tl_ftold;Set Get EF FC GA"
  refine allocB ((?_ : Aa _ _ _ _ _ _ (frO #[] 0) _) _ _ (Mem.alloc Dm rfl))
  clear Dm; intro L hL Dm
  repeat walk_at "#8;tl_fs slot_fs.bind* tl_fspan tl_ffirst tl_ftold;Set Get EF FC GA"
  refine allocB ((?_ : Aa _ _ _ _ _ _ (celO none) _) _ _ (Mem.alloc Dm rfl))
  clear Dm; intro cf hf Dm
  repeat walk_at "#8;tl_fs slot_fs.bind* tl_fspan tl_ffirst tl_ftold;Set Get EF FC GA"
  refine allocB ((?_ : Aa _ _ _ _ _ _ (celO none) _) _ _ (Mem.alloc Dm rfl))
  clear Dm; intro cb hb Dm
  repeat walk_at "#8;tl_fs slot_fs.bind* tl_fspan tl_ffirst tl_ftold;Set Get EF FC GA"
  refine updB' Dm 1 rfl ((?_ : Au _ _ _ _ _ _ _) _ (updD (o' := celO (some (.ref x))) Dm 1 rfl rfl rfl))
  clear Dm; intro h1 Dm; dsimp only [List.set] at Dm
  repeat walk_at "#8;tl_fs slot_fs.bind* tl_fspan tl_ffirst tl_ftold;Set Get EF FC GA"
  refine updB' Dm 0 rfl ((?_ : Au _ _ _ _ _ _ _) _ (updD (o' := celO (some (.ref y))) Dm 0 rfl rfl rfl))
  clear Dm; intro h2 Dm; dsimp only [List.set] at Dm
  repeat walk_at "#8;tl_fs slot_fs.bind* tl_fspan tl_ffirst tl_ftold;Set Get EF FC GA"
  refine nsSetB rfl Dm 2 rfl (by kernel_rfl!) ((?_ : Au _ _ _ _ _ _ _) _ (nsPutD (o' := fun tk => frO #[en w.params "told" tk (.ref z)] 1) Dm 2 rfl (by intro tk; kernel_rfl!) (fun _ => rfl)))
  clear Dm; intro h3 Dm; dsimp only [List.set] at Dm
  repeat walk_at "#8;tl_fs slot_fs.bind* tl_fspan tl_ffirst tl_ftold;Set Get EF FC GA"
  refine wpAny_enterFrame (nolim (X.keeps (kp_mem Dm))) (Nat.lt_of_le_of_lt hd (by decide)) ?_
  repeat walk_at "#8;tl_fs slot_fs.bind* tl_fspan tl_ffirst tl_ftold;Set Get EF FC GA"
  refine ⟨rfl, codeAny_func (body := fbody 12) (env := henv L cf cb) ?_⟩
  refine (?_ : Ar ((A.deeper (henv L cf cb)).handled = none) _) (hh); intro dh
  refine (?_ : Ar ((A.deeper (henv L cf cb)).depth ≤ 800) _) (by show A.depth + 1 ≤ 800; exact lbk 1 hd rfl); intro dd
  refine (?_ : Ar ((A.deeper (henv L cf cb)).units ≤ 9000) _) (by show A.units + 3 ≤ 9000; exact lbk 3 hu rfl); intro du
  refine (?_ : Ar ((A.deeper (henv L cf cb)).units < cLine) _) (Nat.lt_of_le_of_lt du (by decide)); intro hroom
  refine noE ?_
  repeat walk_at "#8;tl_fs slot_fs.bind* tl_fspan tl_ffirst tl_ftold;Set Get EF FC GA"
  refine fcodeB Dm T rfl (by kernel_rfl!) (by kernel_rfl!) ?_
  clear Dm; intro B h4 tk4 c1 od1 ox1 ot1 or1 os1 Dm J1 o1 g1
  have XB : (KX w.params).In B := kxBut X (kx79 _) fun b o e n => o1 b o n e
  have f3 := k3 XB
  repeat walk_at "#8;tl_fs slot_fs.bind* tl_fspan tl_ffirst tl_ftold;Set Get EF FC GA"
  refine (?_ : Ar _ _) (k4 XB); intro f4
  refine (?_ : Ar _ _) (k0 XB); intro f0
  refine nsGetO (r := some (.ref 4)) Dm f3 (by kernel_rfl!) ?_
  repeat walk_at "#8;tl_fs slot_fs.bind* tl_fspan tl_ffirst tl_ftold;Set Get EF FC GA"
  refine nsGetO (r := some (.str (Str.ofString "law_ij0005_01") 222)) Dm f3 (by kernel_rfl!) ?_
  repeat walk_at "#8;tl_fs slot_fs.bind* tl_fspan tl_ffirst tl_ftold;Set Get EF FC GA"
  refine allocB ((?_ : Aa _ _ _ _ _ _ _ _) _ _ (Mem.alloc Dm rfl))
  clear Dm; intro hit h5 Dm
  repeat walk_at "#8;tl_fs slot_fs.bind* tl_fspan tl_ffirst tl_ftold;Set Get EF FC GA"
  refine nsSetB rfl Dm 3 rfl (by kernel_rfl!) ((?_ : Au _ _ _ _ _ _ _) _ (nsPutD (o' := fun tk => frO #[en w.params "told" t (.ref z), en w.params "hit" tk (.ref hit)] 2) Dm 3 rfl (by intro tk; kernel_rfl!) (fun _ => rfl)))
  clear Dm; intro h6 Dm; dsimp only [List.set] at Dm
  repeat walk_at "#8;tl_fs slot_fs.bind* tl_fspan tl_ffirst tl_ftold;Set Get EF FC GA"
  refine allocB ((?_ : Aa _ _ _ _ _ _ _ _) _ _ (Mem.alloc Dm rfl))
  clear Dm; intro ct h7 Dm
  repeat walk_at "#8;tl_fs slot_fs.bind* tl_fspan tl_ffirst tl_ftold;Set Get EF FC GA"
  refine fcodeB Dm J1 rfl (by kernel_rfl!) (by kernel_rfl!) ?_
  clear Dm; intro B2 h8 tk8 c2 od2 ox2 ot2 or2 os2 Dm J2 o2 g2
  have XB2 : (KX w.params).In B2 := kxBut XB (kx79 _) fun b o e n => o2 b o n e
  have f3 := k3 XB2
  have f4 := k4 XB2
  have f0 := k0 XB2
  repeat walk_at "#8;tl_fs slot_fs.bind* tl_fspan tl_ffirst tl_ftold;Set Get EF FC GA"
  refine nsGetO (r := some (.ref 4)) Dm f3 (by kernel_rfl!) ?_
  repeat walk_at "#8;tl_fs slot_fs.bind* tl_fspan tl_ffirst tl_ftold;Set Get EF FC GA"
  refine nsGetO (r := some (.str (Str.ofString "law_ij0005_01") 222)) Dm f3 (by kernel_rfl!) ?_
  repeat walk_at "#8;tl_fs slot_fs.bind* tl_fspan tl_ffirst tl_ftold;Set Get EF FC GA"
  refine allocB ((?_ : Aa _ _ _ _ _ _ (⟨.type "function", none, .func (spfd cf cb c2 ct), #[]⟩) _) _ _ (Mem.alloc Dm rfl))
  clear Dm; intro sp h9 Dm
  repeat walk_at "#8;tl_fs slot_fs.bind* tl_fspan tl_ffirst tl_ftold;Set Get EF FC GA"
  refine nsGetM (r := some (.ref hit)) Dm 5 rfl (by kernel_rfl!) ?_
  repeat walk_at "#8;tl_fs slot_fs.bind* tl_fspan tl_ffirst tl_ftold;Set Get EF FC GA"
  refine wpAny_call_entry slot_fs ⟨_, Mem.at Dm 2 _ _ rfl, rfl⟩ entry_fs ?_ (args_fs _ _ _)
  unfold Builtin.«object.__setattr__»
  repeat walk_at "#8;tl_fs slot_fs.bind* tl_fspan tl_ffirst tl_ftold;Set Get EF FC GA"
  refine allocB ((?_ : Aa _ _ _ _ _ _ (dcO #[] 0) _) _ _ (Mem.alloc Dm rfl))
  clear Dm; intro dd h10 Dm
  repeat walk_at "#8;tl_fs slot_fs.bind* tl_fspan tl_ffirst tl_ftold;Set Get EF FC GA"
  refine updB' Dm 3 rfl ((?_ : Au _ _ _ _ _ _ _) _ (updD (o' := ⟨.type "function", some dd, .func _, #[]⟩) Dm 3 rfl rfl rfl))
  clear Dm; intro h11 Dm; dsimp only [List.set] at Dm
  repeat walk_at "#8;tl_fs slot_fs.bind* tl_fspan tl_ffirst tl_ftold;Set Get EF FC GA"
  refine nsSetB rfl Dm 0 rfl (by kernel_rfl!) ((?_ : Au _ _ _ _ _ _ _) _ (nsPutD (o' := fun tk => dcO #[en w.params "span" tk (.ref sp)] 1) Dm 0 rfl (by intro tk; kernel_rfl!) (fun _ => rfl)))
  clear Dm; intro h12 Dm; dsimp only [List.set] at Dm
  repeat walk_at "#8;tl_fs slot_fs.bind* tl_fspan tl_ffirst tl_ftold;Set Get EF FC GA"
  refine ⟨_, rfl, ?_⟩
  repeat walk_at "#8;tl_fs slot_fs.bind* tl_fspan tl_ffirst tl_ftold;Set Get EF FC GA"
  refine nsGetM (r := some (.ref hit)) Dm 6 rfl (by kernel_rfl!) ?_
  repeat walk_at "#8;tl_fs slot_fs.bind* tl_fspan tl_ffirst tl_ftold;Set Get EF FC GA"
  refine wpAny_call_entry slot_fs ⟨_, Mem.at Dm 3 _ _ rfl, rfl⟩ entry_fs ?_ (args_fs _ _ _)
  unfold Builtin.«object.__setattr__»
  repeat walk_at "#8;tl_fs slot_fs.bind* tl_fspan tl_ffirst tl_ftold;Set Get EF FC GA"
  refine nsSetB rfl Dm 0 rfl (by kernel_rfl!) ((?_ : Au _ _ _ _ _ _ _) _ (nsPutD (o' := fun tk => dcO #[en w.params "span" (tk8 + 1) (.ref sp), en w.params "first" tk (.ref x)] 2) Dm 0 rfl (by intro tk; kernel_rfl!) (fun _ => rfl)))
  clear Dm; intro h13 Dm; dsimp only [List.set] at Dm
  repeat walk_at "#8;tl_fs slot_fs.bind* tl_fspan tl_ffirst tl_ftold;Set Get EF FC GA"
  refine ⟨_, rfl, ?_⟩
  repeat walk_at "#8;tl_fs slot_fs.bind* tl_fspan tl_ffirst tl_ftold;Set Get EF FC GA"
  refine nsGetM (r := some (.ref z)) Dm 6 rfl (by kernel_rfl!) ?_
  repeat walk_at "#8;tl_fs slot_fs.bind* tl_fspan tl_ffirst tl_ftold;Set Get EF FC GA"
  refine nsGetM (r := some (.ref hit)) Dm 6 rfl (by kernel_rfl!) ?_
  repeat walk_at "#8;tl_fs slot_fs.bind* tl_fspan tl_ffirst tl_ftold;Set Get EF FC GA"
  refine wpAny_call_entry slot_fs ⟨_, Mem.at Dm 3 _ _ rfl, rfl⟩ entry_fs ?_ (args_fs _ _ _)
  unfold Builtin.«object.__setattr__»
  repeat walk_at "#8;tl_fs slot_fs.bind* tl_fspan tl_ffirst tl_ftold;Set Get EF FC GA"
  refine nsSetB rfl Dm 0 rfl (by kernel_rfl!) ((?_ : Au _ _ _ _ _ _ _) _ (nsPutD (o' := fun tk => dcO #[en w.params "span" (tk8 + 1) (.ref sp), en w.params "first" (tk8 + 1 + 1 + 1) (.ref x), en w.params "told" tk (.ref z)] 3) Dm 0 rfl (by intro tk; kernel_rfl!) (fun _ => rfl)))
  clear Dm; intro h14 Dm; dsimp only [List.set] at Dm
  repeat walk_at "#8;tl_fs slot_fs.bind* tl_fspan tl_ffirst tl_ftold;Set Get EF FC GA"
  refine ⟨_, rfl, ?_⟩
  repeat walk_at "#8;tl_fs slot_fs.bind* tl_fspan tl_ffirst tl_ftold;Set Get EF FC GA"
  refine nsGetM (r := some (.ref hit)) Dm 6 rfl (by kernel_rfl!) ?_
  repeat walk_at "#8;tl_fs slot_fs.bind* tl_fspan tl_ffirst tl_ftold;Set Get EF FC GA"
  exact k hit h14 _ (fun b o n e => kp_mem Dm b o (o2 b o n (o1 b o n e))) ⟨dd, sp, _, _, _, _, _, _, _, Mem.at Dm 3 _ _ rfl, Mem.at Dm 0 _ _ rfl, cf, cb, c2, ct, _, _, _, _, _, Mem.at Dm 1 _ _ rfl, Mem.at Dm 5 _ _ rfl, Mem.at Dm 4 _ _ rfl, kp_mem Dm _ _ g2⟩ (JT.kp J2 (kp_mem Dm))
noncomputable def qp (l : Nat) : Str := if l = 87 then Str.ofString "_law_program.<locals>.search" else Str.ofString "_law_program.<locals>.<lambda>"
theorem prgU (hh : A.handled = none) (hd : A.depth ≤ 700) (hu : A.units ≤ 8000) (X : (KX w.params).In h) (T : h.get? 86 = some (tableObj #[]))
    (k : ∀ p h' tk, Heap.ExtBut 86 h h' → ProgP h' p → (∃ vs, h'.get? 86 = some (tableObj vs)) → Q (.ref p) ⟨h', g, d, tk, os⟩) :
    wpAny (MM w) A (PySem.call (.ref 91) [] []) Q E ⟨h, g, d, t, os⟩ := by
  have f1 := kf91 X
  have f2 := kc90 X
  have f3 := k3 X
  have J0 := T86.start X T qp
  unfold code90 at f2
  refine wpAny_call (codeAny_of_tree ?_)
  show wpAny _ _ (callAny (.ref 91) _) _ _ _
  refine noE ?_
  refine (?_ : Ar _ _) (Mem.start h); intro Dm
  repeat walk_at "#8;tl_fs slot_fs.bind* tl_fsearch;Set Get EF FC GA"
  refine allocB ((?_ : Aa _ _ _ _ _ _ (frO #[] 0) _) _ _ (Mem.alloc Dm rfl))
  clear Dm; intro L hL Dm
  repeat walk_at "#8;tl_fs slot_fs.bind* tl_fsearch;Set Get EF FC GA"
  refine wpAny_enterFrame (nolim (X.keeps (kp_mem Dm))) (Nat.lt_of_le_of_lt hd (by decide)) ?_
  repeat walk_at "#8;tl_fs slot_fs.bind* tl_fsearch;Set Get EF FC GA"
  refine ⟨rfl, codeAny_func (body := fbody 13) (env := fenvI 13 "_law_program" 91 90 L) ?_⟩
  refine (?_ : Ar ((A.deeper (fenvI 13 "_law_program" 91 90 L)).handled = none) _) (hh); intro dh
  refine (?_ : Ar ((A.deeper (fenvI 13 "_law_program" 91 90 L)).depth ≤ 800) _) (by show A.depth + 1 ≤ 800; exact lbk 1 hd rfl); intro dd
  refine (?_ : Ar ((A.deeper (fenvI 13 "_law_program" 91 90 L)).units ≤ 9000) _) (by show A.units + 3 ≤ 9000; exact lbk 3 hu rfl); intro du
  refine (?_ : Ar ((A.deeper (fenvI 13 "_law_program" 91 90 L)).units < cLine) _) (Nat.lt_of_le_of_lt du (by decide)); intro hroom
  refine noE ?_
  repeat walk_at "#8;tl_fs slot_fs.bind* tl_fsearch;Set Get EF FC GA"
  refine allocB ((?_ : Aa _ _ _ _ _ _ (⟨.type "tuple", none, .seq #[.none] 0, #[]⟩) _) _ _ (Mem.alloc Dm rfl))
  clear Dm; intro dt h1 Dm
  repeat walk_at "#8;tl_fs slot_fs.bind* tl_fsearch;Set Get EF FC GA"
  refine fcodeB Dm J0 rfl (by kernel_rfl!) (by kernel_rfl!) ?_
  clear Dm; intro B h4 tk4 c1 od1 ox1 ot1 or1 os1 Dm J1 o1 g1
  have XB : (KX w.params).In B := kxBut X (kx86 _) fun b o e n => o1 b o n e
  have f3 := k3 XB
  have f4 := k4 XB
  have f0 := k0 XB
  repeat walk_at "#8;tl_fs slot_fs.bind* tl_fsearch;Set Get EF FC GA"
  refine nsGetO (r := some (.ref 4)) Dm f3 (by kernel_rfl!) ?_
  repeat walk_at "#8;tl_fs slot_fs.bind* tl_fsearch;Set Get EF FC GA"
  refine nsGetO (r := some (.str (Str.ofString "law_ij0005_01") 222)) Dm f3 (by kernel_rfl!) ?_
  repeat walk_at "#8;tl_fs slot_fs.bind* tl_fsearch;Set Get EF FC GA"
  refine allocB ((?_ : Aa _ _ _ _ _ _ (⟨.type "function", none, .func (schfd c1 dt), #[]⟩) _) _ _ (Mem.alloc Dm rfl))
  clear Dm; intro sf h5 Dm
  repeat walk_at "#8;tl_fs slot_fs.bind* tl_fsearch;Set Get EF FC GA"
  refine nsSetB rfl Dm 2 rfl (by kernel_rfl!) ((?_ : Au _ _ _ _ _ _ _) _ (nsPutD (o' := fun tk => frO #[en w.params "search" tk (.ref sf)] 1) Dm 2 rfl (by intro tk; kernel_rfl!) (fun _ => rfl)))
  clear Dm; intro h6 Dm; dsimp only [List.set] at Dm
  repeat walk_at "#8;tl_fs slot_fs.bind* tl_fsearch;Set Get EF FC GA"
  refine fcodeB Dm J1 rfl (by kernel_rfl!) (by kernel_rfl!) ?_
  clear Dm; intro B2 h8 tk8 c2 od2 ox2 ot2 or2 os2 Dm J2 o2 g2
  have XB2 : (KX w.params).In B2 := kxBut XB (kx86 _) fun b o e n => o2 b o n e
  have f3 := k3 XB2
  have f4 := k4 XB2
  have f0 := k0 XB2
  repeat walk_at "#8;tl_fs slot_fs.bind* tl_fsearch;Set Get EF FC GA"
  refine nsGetO (r := some (.ref 4)) Dm f3 (by kernel_rfl!) ?_
  repeat walk_at "#8;tl_fs slot_fs.bind* tl_fsearch;Set Get EF FC GA"
  refine nsGetO (r := some (.str (Str.ofString "law_ij0005_01") 222)) Dm f3 (by kernel_rfl!) ?_
  repeat walk_at "#8;tl_fs slot_fs.bind* tl_fsearch;Set Get EF FC GA"
  refine allocB ((?_ : Aa _ _ _ _ _ _ _ _) _ _ (Mem.alloc Dm rfl))
  clear Dm; intro pr h9 Dm
  repeat walk_at "#8;tl_fs slot_fs.bind* tl_fsearch;Set Get EF FC GA"
  refine nsSetB rfl Dm 3 rfl (by kernel_rfl!) ((?_ : Au _ _ _ _ _ _ _) _ (nsPutD (o' := fun tk => frO #[en w.params "search" tk4 (.ref sf), en w.params "prog" tk (.ref pr)] 2) Dm 3 rfl (by intro tk; kernel_rfl!) (fun _ => rfl)))
  clear Dm; intro h10 Dm; dsimp only [List.set] at Dm
  repeat walk_at "#8;tl_fs slot_fs.bind* tl_fsearch;Set Get EF FC GA"
  refine nsGetM (r := some (.ref sf)) Dm 3 rfl (by kernel_rfl!) ?_
  repeat walk_at "#8;tl_fs slot_fs.bind* tl_fsearch;Set Get EF FC GA"
  refine nsGetM (r := some (.ref pr)) Dm 3 rfl (by kernel_rfl!) ?_
  repeat walk_at "#8;tl_fs slot_fs.bind* tl_fsearch;Set Get EF FC GA"
  refine wpAny_call_entry slot_fs ⟨_, Mem.at Dm 0 _ _ rfl, rfl⟩ entry_fs ?_ (args_fs _ _ _)
  unfold Builtin.«object.__setattr__»
  repeat walk_at "#8;tl_fs slot_fs.bind* tl_fsearch;Set Get EF FC GA"
  refine allocB ((?_ : Aa _ _ _ _ _ _ (dcO #[] 0) _) _ _ (Mem.alloc Dm rfl))
  clear Dm; intro ad h11 Dm
  repeat walk_at "#8;tl_fs slot_fs.bind* tl_fsearch;Set Get EF FC GA"
  refine updB' Dm 1 rfl ((?_ : Au _ _ _ _ _ _ _) _ (updD (o' := ⟨.type "function", some ad, .func _, #[]⟩) Dm 1 rfl rfl rfl))
  clear Dm; intro h12 Dm; dsimp only [List.set] at Dm
  repeat walk_at "#8;tl_fs slot_fs.bind* tl_fsearch;Set Get EF FC GA"
  refine nsSetB rfl Dm 0 rfl (by kernel_rfl!) ((?_ : Au _ _ _ _ _ _ _) _ (nsPutD (o' := fun tk => dcO #[en w.params "search" tk (.ref sf)] 1) Dm 0 rfl (by intro tk; kernel_rfl!) (fun _ => rfl)))
  clear Dm; intro h13 Dm; dsimp only [List.set] at Dm
  repeat walk_at "#8;tl_fs slot_fs.bind* tl_fsearch;Set Get EF FC GA"
  refine ⟨_, rfl, ?_⟩
  repeat walk_at "#8;tl_fs slot_fs.bind* tl_fsearch;Set Get EF FC GA"
  refine nsGetM (r := some (.ref pr)) Dm 4 rfl (by kernel_rfl!) ?_
  repeat walk_at "#8;tl_fs slot_fs.bind* tl_fsearch;Set Get EF FC GA"
  have n1 : c1 ≠ 86 := by
    rintro rfl
    obtain ⟨_, e⟩ := J1.tab
    rw [g1] at e; cases e
  exact k pr h13 _ (fun b o n e => kp_mem Dm b o (o2 b o n (o1 b o n e))) ⟨ad, sf, _, _, _, Mem.at Dm 1 _ _ rfl, Mem.at Dm 0 _ _ rfl, c1, dt, _, _, _, _, _, Mem.at Dm 2 _ _ rfl, kp_mem Dm _ _ (o2 _ _ n1 g1), Mem.at Dm 3 _ _ rfl⟩ (JT.tab (J2.kp (kp_mem Dm)))
end
noncomputable def compE (i : Nat) : Expr := match (fbody 15)[i]? with | some (.Assign _ v _) => v | _ => .Name Str.empty ⟨0, 0, 0, 0⟩
noncomputable def celled (s : Scope) : Scope := { s with names := s.names.map fun x => match x.2 with | .free => (x.1, .cell) | _ => x }
noncomputable def csc (i : Nat) : Scope := match compE i with | .ListComp _ _ s _ => celled s | _ => default
noncomputable def qenv (i : Nat) (kn : String) (yk L Lc : Addr) : Env := { scope := csc i, locals := Lc, globals := mainGlobals, cells := [(Str.ofString kn, yk)], qual := Str.ofString ("law" ++ ".<locals>."), func := none, code := .ref 102, frame := some L, builtins := builtinsNs }
noncomputable def cpS (i : Nat) (kn : String) (yk L Lc it ac : Addr) : Code := .compStart (compE i) 0 (.ref it) (.ref ac) (qenv i kn yk L Lc)
noncomputable def cpL (i : Nat) (kn : String) (yk L Lc it ac : Addr) : Code := .compLoop (compE i) 0 (.ref it) (.ref ac) (qenv i kn yk L Lc)

end Mine
namespace Mine
noncomputable def pif (b : Bool) (a : Array Value) (v : Addr) : Array Value := if b then a.push (.ref v) else a
noncomputable def flt (t0 t1 t2 : Bool) (p0 p1 p2 : Addr) : Array Value := pif t2 (pif t1 (pif t0 #[] p0) p1) p2
noncomputable def pickL (t0 t1 t2 : Bool) (p0 p1 p2 : Addr) : Array Value := if t2 then #[.ref p2] else if t1 then #[.ref p1] else if t0 then #[.ref p0] else #[]
noncomputable def pickF (t0 t1 t2 : Bool) (p0 p1 p2 : Addr) : Array Value := if t0 then #[.ref p0] else if t1 then #[.ref p1] else if t2 then #[.ref p2] else #[]
theorem fltL (t0 t1 t2 : Bool) (p0 p1 p2 : Addr) : slicePick (flt t0 t1 t2 p0 p1 p2) (some (-1)) none none = pickL t0 t1 t2 p0 p1 p2 := by
  cases t0 <;> cases t1 <;> cases t2 <;> first | rfl | kernel_rfl!
theorem fltF (t0 t1 t2 : Bool) (p0 p1 p2 : Addr) : slicePick (flt t0 t1 t2 p0 p1 p2) none (some 1) none = pickF t0 t1 t2 p0 p1 p2 := by
  cases t0 <;> cases t1 <;> cases t2 <;> first | rfl | kernel_rfl!
noncomputable def Q3 (q0 q1 q2 : HitD) (l0 l1 l2 c0 c1 c2 b0 b1 b2 : Int) : Prop :=
  q0.la = l0 ∧ q0.ca = c0 ∧ q0.lb = l0 ∧ q0.cb = b0 ∧ q1.la = l1 ∧ q1.ca = c1 ∧ q1.lb = l1 ∧ q1.cb = b1 ∧ q2.la = l2 ∧ q2.ca = c2 ∧ q2.lb = l2 ∧ q2.cb = b2
/-- the order of the three finds -/
noncomputable def Ord3 (l0 l1 l2 c0 c1 c2 b0 b1 b2 : Int) : Prop := c0 < b0 ∧ c1 < b1 ∧ c2 < b2 ∧ ((l1 = l0 ∧ b0 ≤ c1) ∨ l0 < l1) ∧ ((l2 = l1 ∧ b1 ≤ c2) ∨ l1 < l2)
theorem ordNeg {l c l' c' : Int} : (ordI l c l' c' < 0) ↔ (l < l' ∨ (l = l' ∧ c < c')) := by unfold ordI; split <;> (try split) <;> omega
theorem ordNon {l c l' c' : Int} : (ordI l c l' c' ≤ 0) ↔ (l < l' ∨ (l = l' ∧ c ≤ c')) := by unfold ordI; split <;> (try split) <;> omega
theorem ordPos {l c l' c' : Int} : (0 < ordI l c l' c') ↔ (l' < l ∨ (l = l' ∧ c' < c)) := by unfold ordI; split <;> (try split) <;> omega
theorem ordGe {l c l' c' : Int} : (0 ≤ ordI l c l' c') ↔ (l' < l ∨ (l = l' ∧ c' ≤ c)) := by unfold ordI; split <;> (try split) <;> omega
theorem ordZ {l c l' c' : Int} : (ordI l c l' c' = 0) ↔ (l = l' ∧ c = c') := by unfold ordI; split <;> (try split) <;> omega
theorem condI (q : HitD) (l c : Int) : cond ordI l c q = (decide (q.la < l ∨ (q.la = l ∧ q.ca < c)) && decide (q.lb < l ∨ (q.lb = l ∧ q.cb ≤ c))) := by
  show (decide (ordI _ _ _ _ < 0) && decide (ordI _ _ _ _ ≤ 0)) = _
  simp only [ordNeg, ordNon]
theorem condT (q : HitD) (l c : Int) : cond (fun a b c d => -ordI a b c d) l c q = (decide (l < q.la ∨ (q.la = l ∧ c < q.ca)) && decide (l < q.lb ∨ (q.lb = l ∧ c ≤ q.cb))) := by
  show (decide (-ordI _ _ _ _ < 0) && decide (-ordI _ _ _ _ ≤ 0)) = _
  simp only [Int.neg_lt_zero_iff, Int.neg_nonpos_iff, ordPos, ordGe]
theorem geI (q : HitD) (l c : Int) : ge ordI l c q = decide (l < q.la ∨ (q.la = l ∧ c ≤ q.ca)) := by
  show decide (0 ≤ ordI _ _ _ _) = _
  simp only [ordGe]
theorem geT' (q : HitD) (l c : Int) : ge (fun a b c d => -ordI a b c d) l c q = decide (q.la < l ∨ (q.la = l ∧ q.ca ≤ c)) := by
  show decide (0 ≤ -ordI _ _ _ _) = _
  simp only [Int.neg_nonneg, ordNon]
theorem eqI (a b c d : Int) : opB .Eq (ordI a b c d) 0 = decide (a = c ∧ b = d) := by
  show (ordI a b c d == 0) = _
  rw [Bool.eq_iff_iff]; simp [ordZ]
theorem eqT (a b c d : Int) : opB .Eq (-ordI a b c d) 0 = decide (a = c ∧ b = d) := by
  show (-ordI a b c d == 0) = _
  rw [Bool.eq_iff_iff]; simp [ordZ, Int.neg_eq_zero]
theorem dF {p : Prop} [Decidable p] (h : ¬ p) : decide p = false := decide_eq_false h
theorem dT {p : Prop} [Decidable p] (h : p) : decide p = true := decide_eq_true h
/- the places in their order: each find's begin, its end, the next one's begin -/
theorem up {l1 b1 l2 c2 b2 p q : Int} (s : (l2 = l1 ∧ b1 ≤ c2) ∨ l1 < l2) (e : c2 < b2) (k : l2 < p ∨ (l2 = p ∧ b2 ≤ q)) : l1 < p ∨ (l1 = p ∧ b1 ≤ q) := by omega
theorem up' {l1 b1 l2 c2 b2 p q : Int} (s : (l2 = l1 ∧ b1 ≤ c2) ∨ l1 < l2) (e : c2 < b2) (k : l2 < p ∨ (p = l2 ∧ b2 ≤ q)) : l1 < p ∨ (p = l1 ∧ b1 ≤ q) := by omega
theorem irr {l c b : Int} (e : c < b) : ¬ (l < l ∨ (l = l ∧ b ≤ c)) := fun k => k.elim (Int.lt_irrefl _) fun x => absurd e (Int.not_lt.mpr x.2)
theorem nx1 {l1 b1 l2 c2 : Int} (s : (l2 = l1 ∧ b1 ≤ c2) ∨ l1 < l2) : l1 < l2 ∨ (l1 = l2 ∧ b1 ≤ c2) := s.elim (fun x => .inr ⟨x.1.symm, x.2⟩) .inl
theorem ltL {l c b p q : Int} (e : c < b) (k : l < p ∨ (l = p ∧ b ≤ q)) : l < p ∨ (l = p ∧ c < q) := k.imp id fun x => ⟨x.1, Int.lt_of_lt_of_le e x.2⟩
theorem ltR {l c b p q : Int} (e : c < b) (k : p < l ∨ (l = p ∧ q ≤ c)) : p < l ∨ (l = p ∧ q < b) := k.imp id fun x => ⟨x.1, Int.lt_of_le_of_lt x.2 e⟩
theorem sw {l c p q : Int} : (p < l ∨ (l = p ∧ q ≤ c)) ↔ (p < l ∨ p = l ∧ q ≤ c) := or_congr Iff.rfl (and_congr eq_comm Iff.rfl)
theorem dn {l1 c1 b1 l2 c2 p q : Int} (s : (l2 = l1 ∧ b1 ≤ c2) ∨ l1 < l2) (e : c1 < b1) (k : p < l1 ∨ (l1 = p ∧ q ≤ c1)) : p < l2 ∨ (l2 = p ∧ q ≤ c2) := by omega
theorem neq {l c b : Int} (e : c < b) : ¬ (l = l ∧ c = b) := fun x => absurd x.2 (Int.ne_of_lt e)
theorem neq' {l c b : Int} (e : c < b) : ¬ (l = l ∧ b = c) := fun x => absurd x.2.symm (Int.ne_of_lt e)
theorem chOn (h0 h1 h2 x0 y0 z0 x1 y1 z1 x2 y2 z2 : Addr) {l0 l1 l2 c0 c1 c2 b0 b1 b2 : Int} (o : Ord3 l0 l1 l2 c0 c1 c2 b0 b1 b2) :
    Chain ordI [⟨h0, x0, y0, z0, l0, c0, l0, b0⟩, ⟨h1, x1, y1, z1, l1, c1, l1, b1⟩, ⟨h2, x2, y2, z2, l2, c2, l2, b2⟩] := by
  obtain ⟨e0, e1, e2, s1, s2⟩ := o
  intro i q hq
  match i, hq with
  | 0, hq => cases hq; rw [eqI, dF (neq e0)]; refine ⟨rfl, ?_⟩; rw [List.find?_cons, geI, dF (irr e0), List.find?_cons, geI, dT s1.symm]; rfl
  | 1, hq => cases hq; rw [eqI, dF (neq e1)]; refine ⟨rfl, ?_⟩; rw [List.find?_cons, geI, dF (mt (up' s1 e1) (irr e0)), List.find?_cons, geI, dF (irr e1), List.find?_cons, geI, dT s2.symm]; rfl
  | 2, hq => cases hq; rw [eqI, dF (neq e2)]; refine ⟨rfl, ?_⟩; rw [List.find?_cons, geI, dF (mt (fun k => up' s1 e1 (up' s2 e2 k)) (irr e0)), List.find?_cons, geI, dF (mt (up' s2 e2) (irr e1)), List.find?_cons, geI, dF (irr e2)]; rfl
  | n + 3, hq => cases hq
theorem chUp (h0 h1 h2 x0 y0 z0 x1 y1 z1 x2 y2 z2 : Addr) {l0 l1 l2 c0 c1 c2 b0 b1 b2 : Int} (o : Ord3 l0 l1 l2 c0 c1 c2 b0 b1 b2) :
    Chain (fun a b c d => -ordI a b c d) [⟨h2, x2, y2, z2, l2, b2, l2, c2⟩, ⟨h1, x1, y1, z1, l1, b1, l1, c1⟩, ⟨h0, x0, y0, z0, l0, b0, l0, c0⟩] := by
  obtain ⟨e0, e1, e2, s1, s2⟩ := o
  intro i q hq
  match i, hq with
  | 0, hq => cases hq; rw [eqT, dF (neq' e2)]; refine ⟨rfl, ?_⟩; rw [List.find?_cons, geT', dF (irr e2), List.find?_cons, geT', dT (nx1 s2)]; rfl
  | 1, hq => cases hq; rw [eqT, dF (neq' e1)]; refine ⟨rfl, ?_⟩; rw [List.find?_cons, geT', dF (mt (up s2 e2) (irr e1)), List.find?_cons, geT', dF (irr e1), List.find?_cons, geT', dT (nx1 s1)]; rfl
  | 2, hq => cases hq; rw [eqT, dF (neq' e0)]; refine ⟨rfl, ?_⟩; rw [List.find?_cons, geT', dF (mt (fun k => up s1 e1 (up s2 e2 k)) (irr e0)), List.find?_cons, geT', dF (mt (up s1 e1) (irr e0)), List.find?_cons, geT', dF (irr e0)]; rfl
  | n + 3, hq => cases hq
theorem leD (a b c d : Int) : leB a b c d = decide (a < c ∨ (a = c ∧ b ≤ d)) := by
  unfold leB; rw [Bool.eq_iff_iff]; split <;> simp only [decide_eq_true_eq] <;> omega
noncomputable def Told (v : Value) (hs : List HitD) (xs : Array Value) : Prop := (v = .none ∧ xs = #[]) ∨ ∃ q ∈ hs, v = .ref q.hit ∧ xs = #[.ref q.z]
theorem lawOn (h0 h1 h2 x0 y0 x1 y1 x2 y2 p0 p1 p2 : Addr) {l0 l1 l2 c0 c1 c2 b0 b1 b2 : Int} (o : Ord3 l0 l1 l2 c0 c1 c2 b0 b1 b2) (l c : Int) :
    Told (revS ordI l c [⟨h0, x0, y0, p0, l0, c0, l0, b0⟩, ⟨h1, x1, y1, p1, l1, c1, l1, b1⟩, ⟨h2, x2, y2, p2, l2, c2, l2, b2⟩] .none) [⟨h0, x0, y0, p0, l0, c0, l0, b0⟩, ⟨h1, x1, y1, p1, l1, c1, l1, b1⟩, ⟨h2, x2, y2, p2, l2, c2, l2, b2⟩]
      (slicePick (flt (leB l0 b0 l c) (leB l1 b1 l c) (leB l2 b2 l c) p0 p1 p2) (some (-1)) none none) := by
  obtain ⟨e0, e1, e2, s1, s2⟩ := o
  rw [fltL]; simp only [revS, condI, leD, pickL]
  by_cases k0 : l0 < l ∨ (l0 = l ∧ b0 ≤ c)
  · rw [dT (ltL e0 k0), dT k0]
    by_cases k1 : l1 < l ∨ (l1 = l ∧ b1 ≤ c)
    · rw [dT (ltL e1 k1), dT k1]
      by_cases k2 : l2 < l ∨ (l2 = l ∧ b2 ≤ c)
      · rw [dT (ltL e2 k2), dT k2]
        exact .inr ⟨_, .tail _ (.tail _ (.head _)), rfl, rfl⟩
      · rw [dF k2, Bool.and_false]
        exact .inr ⟨_, .tail _ (.head _), rfl, rfl⟩
    · rw [dF k1, Bool.and_false, dF (mt (up s2 e2) k1)]
      exact .inr ⟨_, .head _, rfl, rfl⟩
  · rw [dF k0, Bool.and_false, dF (mt (up s1 e1) k0), dF (mt (fun k => up s1 e1 (up s2 e2 k)) k0)]
    exact .inl ⟨rfl, rfl⟩
theorem lawUp (h0 h1 h2 x0 y0 x1 y1 x2 y2 p0 p1 p2 : Addr) {l0 l1 l2 c0 c1 c2 b0 b1 b2 : Int} (o : Ord3 l0 l1 l2 c0 c1 c2 b0 b1 b2) (l c : Int) :
    Told (revS (fun a b c d => -ordI a b c d) l c [⟨h2, x2, y2, p2, l2, b2, l2, c2⟩, ⟨h1, x1, y1, p1, l1, b1, l1, c1⟩, ⟨h0, x0, y0, p0, l0, b0, l0, c0⟩] .none) [⟨h2, x2, y2, p2, l2, b2, l2, c2⟩, ⟨h1, x1, y1, p1, l1, b1, l1, c1⟩, ⟨h0, x0, y0, p0, l0, b0, l0, c0⟩]
      (slicePick (flt (leB l c l0 c0) (leB l c l1 c1) (leB l c l2 c2) p0 p1 p2) none (some 1) none) := by
  obtain ⟨e0, e1, e2, s1, s2⟩ := o
  rw [fltF]; simp only [revS, condT, leD, pickF]
  by_cases k2 : l < l2 ∨ (l2 = l ∧ c ≤ c2)
  · rw [dT (ltR e2 k2), dT k2, dT (sw.mp k2)]
    by_cases k1 : l < l1 ∨ (l1 = l ∧ c ≤ c1)
    · rw [dT (ltR e1 k1), dT k1, dT (sw.mp k1)]
      by_cases k0 : l < l0 ∨ (l0 = l ∧ c ≤ c0)
      · rw [dT (ltR e0 k0), dT k0, dT (sw.mp k0)]
        exact .inr ⟨_, .tail _ (.tail _ (.head _)), rfl, rfl⟩
      · rw [dF k0, Bool.and_false, dF (mt sw.mpr k0)]
        exact .inr ⟨_, .tail _ (.head _), rfl, rfl⟩
    · rw [dF k1, Bool.and_false, dF (mt sw.mpr k1), dF (mt (fun k => dn s1 e0 (sw.mpr k)) k1)]
      exact .inr ⟨_, .head _, rfl, rfl⟩
  · rw [dF k2, Bool.and_false, dF (mt sw.mpr k2), dF (mt (fun k => dn s2 e1 (sw.mpr k)) k2), dF (mt (fun k => dn s2 e1 (dn s1 e0 (sw.mpr k))) k2)]
    exact .inl ⟨rfl, rfl⟩

end Mine
namespace Mine
theorem neC {n : List (Addr × Obj)} {o : Obj} (h : (n.all fun p => p.2.cls != o.cls) = true) : ∀ p ∈ n, p.2 ≠ o := fun p hp e => by
  have := List.all_eq_true.mp h p hp
  rw [e, bne_self_eq_false] at this
  cases this
theorem IsK.c {P : Params} {h : Heap} {C : Addr} {fv : Value} (x : IsK P h C fv) : ∃ N bt t1 t2, h.get? C = some (kclsObj C N bt t1 t2) := by
  obtain ⟨N, bt, _, _, _, _, _, _, _, _, _, _, _, _, t1, t2, _, _, a1, _⟩ := x
  exact ⟨N, bt, t1, t2, a1⟩
theorem PlP.l {h : Heap} {P : Addr} {l0 l1 l2 c0 c1 c2 b0 b1 b2 : Int} (H : PlP h P l0 l1 l2 c0 c1 c2 b0 b1 b2) : ∃ xs n, h.get? P = some (lsO xs n) := by
  obtain ⟨z, n, s, q, _⟩ := H
  exact ⟨_, n, q⟩
theorem lsN {xs : Array Value} {n : Nat} : (lsO xs n).cls ≠ .none := by simp [lsO]
theorem t3N {l c b : Int} {u v x : Tok} : (tup3 l c b u v x).cls ≠ .none := by simp [tup3]
theorem pkAll {N : Nat} {n : List (Addr × Obj)} (h : (n.all fun p => hasCls p.2) = true) : ∀ p ∈ n, PK N p.1 p.2 := fun p hp => .inl (List.all_eq_true.mp h p hp)
/-- the objects that hits, keys and programs are made of -/
noncomputable def Kd (x y : Addr) (o : Obj) : Prop := o.cls = .type "function" ∨ o.cls = .type "code" ∨ o.cls = .type "tuple" ∨ (∃ C, o.cls = .ref C) ∨ o.cls = .none ∨ (∃ e es n k t, o = dcO ⟨e :: es⟩ n ∧ e.key = .str k t ∧ k ≠ Str.ofString "find") ∨ o = celO (some (.ref x)) ∨ o = celO (some (.ref y))
/-- the objects of law's own ledger -/
noncomputable def Ro (h : Heap) (o : Obj) : Prop := o.cls = .type "frame" ∨ o.cls = .type "list_iterator" ∨ o.cls = .type "list" ∨ o = dcO #[] 0 ∨ (∃ e n t, o = dcO #[e] n ∧ e.key = .str (Str.ofString "find") t) ∨ o = celO none ∨ ∃ C o', o = celO (some (.ref C)) ∧ h.get? C = some o' ∧ o'.cls = .type "type"
theorem kdRo {h h' : Heap} {x y K K' dx dy ax ay : Addr} {o p : Obj} (ro : Ro h p) (kd : Kd x y o) (hk : ∀ b o, h.get? b = some o → o.cls ≠ .none → h'.get? b = some o) (hx : h'.get? x = some (inst K dx ax)) (hy : h'.get? y = some (inst K' dy ay)) : p ≠ o := by
  rintro rfl
  have no : ∀ C o' z dz az K, h.get? C = some o' → o'.cls = .type "type" → h'.get? z = some (inst K dz az) → C = z → False := fun C o' z dz az K e c ez q => by
    subst q
    rw [hk _ _ e (by rw [c]; simp)] at ez
    cases ez; cases c
  rcases ro with a | a | a | rfl | ⟨e, n, t, rfl, ek⟩ | rfl | ⟨C, o', rfl, eC, cC⟩ <;>
  rcases kd with b | b | b | ⟨c, b⟩ | b | ⟨e', es', n', k', t', b, b2, b3⟩ | b | b <;>
  first
  | (rw [a] at b; simp at b; done)
  | (rw [b] at a; simp [celO, dcO] at a; done)
  | (simp [celO, dcO] at b; done)
  | skip
  · injection b with _ _ d; injection d with d1 d2; injection d1 with d3; injection d3 with d4 d5; subst d4; rw [ek] at b2; injection b2 with b4; exact b3 b4.symm
  · injection b with _ _ d; injection d with d1; injection d1 with d2; injection d2 with d3; exact no C o' x dx ax K eC cC hx d3
  · injection b with _ _ d; injection d with d1; injection d1 with d2; injection d2 with d3; exact no C o' y dy ay K' eC cC hy d3
theorem HO.kd {x y : Addr} {o : Obj} (c : HO x y o) : Kd x y o := by
  rcases c with (a | a) | a | a | a
  · exact .inl a
  · exact .inr (.inl a)
  · exact .inr (.inr (.inr (.inr (.inr (.inl a)))))
  · exact .inr (.inr (.inr (.inr (.inr (.inr (.inl a))))))
  · exact .inr (.inr (.inr (.inr (.inr (.inr (.inr a))))))
theorem HitP.kd {h h' : Heap} {hit x y z : Addr} (H : HitP h hit x y z) (k : ∀ b o, h.get? b = some o → Kd x y o → h'.get? b = some o) : HitP h' hit x y z := H.kq fun b o e c => k b o e c.kd
theorem HitT.kd {h h' : Heap} (H : HitT h) (x y : Addr) (k : ∀ b o, h.get? b = some o → Kd x y o → h'.get? b = some o) : HitT h' := JT.kd H fun b o e c => k b o e (c.elim (fun a => .inr (.inl a)) fun a => .inr (.inr (.inr (.inr (.inl a)))))
theorem Key.kd {h h' : Heap} {C x : Addr} {l c : Int} (H : Key h C x l c) (u v : Addr) (k : ∀ b o, h.get? b = some o → Kd u v o → h'.get? b = some o) : Key h' C x l c := by
  obtain ⟨dx, a, t1, t2, e1, e2⟩ := H
  exact ⟨dx, a, t1, t2, k _ _ e1 (.inr (.inr (.inr (.inl ⟨_, rfl⟩)))), k _ _ e2 (.inr (.inr (.inl rfl)))⟩
/-- all objects that have a class are kept -/
noncomputable def Kc (h h' : Heap) : Prop := ∀ b o, h.get? b = some o → o.cls ≠ .none → h'.get? b = some o
theorem Key.kc {h h' : Heap} {C x : Addr} {l c : Int} (H : Key h C x l c) (k : Kc h h') : Key h' C x l c := by
  obtain ⟨dx, a, t1, t2, e1, e2⟩ := H
  exact ⟨dx, a, t1, t2, k _ _ e1 (by simp [inst]), k _ _ e2 (by simp [tup])⟩
theorem HitP.kc {h h' : Heap} {hit x y z : Addr} (H : HitP h hit x y z) (k : Kc h h') : HitP h' hit x y z := H.kq fun b o e c => k b o e c.cls
theorem isKc {P : Params} {h h' : Heap} {C : Addr} {fv : Value} (x : IsK P h C fv) (k : Kc h h') : IsK P h' C fv := by
  obtain ⟨N, bt, md, cell, sl, st, f, cd, ct, od, vs, os', tq, tm, t1, t2, t4, t20, a1, a2, a3, a4, a5, a6⟩ := x
  refine ⟨N, bt, md, cell, sl, st, f, cd, ct, od, vs, os', tq, tm, t1, t2, t4, t20, k _ _ a1 ?_, k _ _ a2 ?_, k _ _ a3 ?_, k _ _ a4 ?_, a5, fun p hp => k _ _ (a6 p hp) ?_⟩
  · simp [kclsObj]
  · simp [knsObj]
  · simp [mdObj]
  · simp
  · simp only [kfs, List.mem_cons, List.not_mem_nil, or_false] at hp
    rcases hp with rfl | rfl | rfl | rfl | rfl | rfl | rfl | rfl | rfl | rfl | rfl | rfl | rfl | rfl | rfl | rfl | rfl | rfl | rfl <;> simp [kfun]
theorem T79.ne {h : Heap} (T : T79 h) {b : Addr} {o : Obj} (e : h.get? b = some o) (c : o.cls ≠ .none) : b ≠ 79 := by
  rintro rfl
  obtain ⟨_, e2⟩ := JT.tab T
  rw [e] at e2; cases e2; exact c rfl
theorem PlP.kd {h h' : Heap} {P : Addr} {l0 l1 l2 c0 c1 c2 b0 b1 b2 : Int} (H : PlP h P l0 l1 l2 c0 c1 c2 b0 b1 b2) (k : ∀ b o, h.get? b = some o → (o.cls = .type "list" ∨ o.cls = .type "tuple") → h'.get? b = some o) : PlP h' P l0 l1 l2 c0 c1 c2 b0 b1 b2 := by
  obtain ⟨z, n, s, q, r⟩ := H
  exact ⟨z, n, s, k _ _ q (.inl rfl), fun i hi => k _ _ (r i hi) (.inr rfl)⟩
/-- what is left of the first heap -/
structure OZ (h B : Heap) : Prop where
  keep : ∀ b o, h.get? b = some o → b ≠ 30 → b ≠ 79 → b ≠ 86 → B.get? b = some o
  t30 : ∃ vs, B.get? 30 = some (tableObj vs)
  t79 : ∃ vs, B.get? 79 = some (tableObj vs)
  t86 : ∃ vs, B.get? 86 = some (tableObj vs)
theorem OZ.kp {h B B' : Heap} (z : OZ h B) (k : Kp B B') : OZ h B' := ⟨fun b o e n1 n2 n3 => k b o (z.keep b o e n1 n2 n3), z.t30.imp fun _ => k _ _, z.t79.imp fun _ => k _ _, z.t86.imp fun _ => k _ _⟩
theorem OZ.old {P : Params} {h B : Heap} (X : (KX P).In h) (z : OZ h B) (t30 : h.TableAt 34 30 #[]) (t79 : h.get? 79 = some (tableObj #[])) (t86 : h.get? 86 = some (tableObj #[])) : OldK h B := by
  have a79 : h.TableAt 83 79 #[] := ⟨⟨_, _, kc83 X, rfl, rfl, rfl⟩, t79⟩
  have a86 : h.TableAt 90 86 #[] := ⟨⟨_, _, kc90 X, rfl, rfl, rfl⟩, t86⟩
  have one : ∀ b o, h.get? b = some o → (B.get? b = some o ∨ (isCodeTable h b ∧ o = tableObj #[] ∧ ∃ vs, B.get? b = some (tableObj vs))) := by
    intro b o e
    by_cases n1 : b = 30
    · subst n1
      exact .inr ⟨t30.isCodeTable, Option.some.inj (e.symm.trans t30.2), z.t30⟩
    · by_cases n2 : b = 79
      · subst n2
        exact .inr ⟨a79.isCodeTable, Option.some.inj (e.symm.trans t79), z.t79⟩
      · by_cases n3 : b = 86
        · subst n3
          exact .inr ⟨a86.isCodeTable, Option.some.inj (e.symm.trans t86), z.t86⟩
        · exact .inl (z.keep b o e n1 n2 n3)
  refine ⟨fun b o e => ?_, fun b o e => ?_⟩
  · rcases one b o e with q | ⟨q, rfl, vs, r⟩
    · exact .inl q
    · exact .inr (.inl ⟨q, rfl, #[], vs, rfl, by rw [r]; simp [tableObj]⟩)
  · rcases one b o e with q | ⟨_, _, vs, r⟩
    · exact ⟨_, q⟩
    · exact ⟨_, r⟩
theorem topN (h : Heap) (X : ∃ o, h.get? 103 = some o) : ∃ N, (∃ o, h.get? (103 + N) = some o) ∧ ∀ b o, h.get? b = some o → b ≤ 103 + N := by
  have : ∀ m : Nat, (∀ b o, h.get? b = some o → b ≤ 103 + m) → ∃ N, (∃ o, h.get? (103 + N) = some o) ∧ ∀ b o, h.get? b = some o → b ≤ 103 + N := by
    intro m
    induction m with
    | zero => intro q; exact ⟨0, X, q⟩
    | succ m ih =>
      intro q
      by_cases e : ∃ o, h.get? (103 + (m + 1)) = some o
      · exact ⟨m + 1, e, q⟩
      · refine ih fun b o eb => ?_
        have := q b o eb
        rcases Nat.lt_or_ge (103 + m) b with l | l
        · exfalso
          have : b = 103 + (m + 1) := Nat.le_antisymm this l
          exact e ⟨o, this ▸ eb⟩
        · exact l
  exact this h.objs.size fun b o e => Nat.le_trans (Nat.le_of_lt (Heap.lt_size e)) (Nat.le_add_left _ _)
theorem HitT.tab {h : Heap} (H : HitT h) : ∃ vs, h.get? 79 = some (tableObj vs) := JT.tab H
theorem tlG3 {l c b : Int} {u v x : Tok} : typeLookup (tup3 l c b u v x).cls (Str.ofString "__getitem__") = pure (some (.builtin "tuple.__getitem__")) := PySem.F.slot_tuple_getitem.lookup
theorem tlG2 {l c : Int} {u v : Tok} : typeLookup (tup l c u v).cls (Str.ofString "__getitem__") = pure (some (.builtin "tuple.__getitem__")) := PySem.F.slot_tuple_getitem.lookup
theorem tlKC {C nsd bt : Addr} {t1 t2 : Tok} : typeLookup (kclsObj C nsd bt t1 t2).cls (Str.ofString "__call__") = pure (some (.builtin "type.__call__")) := by show typeLookup (.type "type") _ = _; rw [typeLookup_type, builtinLookup_eq_fast]; kernel_rfl
theorem tlGL {xs : Array Value} {n : Nat} : typeLookup (lsO xs n).cls (Str.ofString "__getitem__") = pure (some (.builtin "list.__getitem__")) := slot_list_getitem.lookup
structure Fb (P : Params) (h : Heap) (F K1 K2 : Addr) (nF : Nat) (p0 p1 p2 : Addr) (l0 l1 l2 c0 c1 c2 b0 b1 b2 : Int) (e : Nat → Tok) : Prop where
  IK : IsK P h K1 (.ref 63)
  JK : IsK P h K2 (.ref 70)
  qF : h.get? F = some (lsO #[.ref p0, .ref p1, .ref p2] nF)
  q0 : h.get? p0 = some (tup3 l0 c0 b0 (e 0) (e 1) (e 2))
  q1 : h.get? p1 = some (tup3 l1 c1 b1 (e 3) (e 4) (e 5))
  q2 : h.get? p2 = some (tup3 l2 c2 b2 (e 6) (e 7) (e 8))
theorem Fb.kc {P : Params} {h h' : Heap} {F K1 K2 : Addr} {nF : Nat} {p0 p1 p2 : Addr} {l0 l1 l2 c0 c1 c2 b0 b1 b2 : Int} {e : Nat → Tok} (x : Fb P h F K1 K2 nF p0 p1 p2 l0 l1 l2 c0 c1 c2 b0 b1 b2 e) (k : Kc h h') : Fb P h' F K1 K2 nF p0 p1 p2 l0 l1 l2 c0 c1 c2 b0 b1 b2 e :=
  ⟨isKc x.IK k, isKc x.JK k, k _ _ x.qF lsN, k _ _ x.q0 t3N, k _ _ x.q1 t3N, k _ _ x.q2 t3N⟩
structure R3 (h : Heap) (C a0 a1 a2 x0 x1 x2 y0 y1 y2 p0 p1 p2 : Addr) (l0 l1 l2 c0 c1 c2 b0 b1 b2 : Int) : Prop where
  h0 : HitP h a0 x0 y0 p0
  kx0 : Key h C x0 l0 c0
  ky0 : Key h C y0 l0 b0
  h1 : HitP h a1 x1 y1 p1
  kx1 : Key h C x1 l1 c1
  ky1 : Key h C y1 l1 b1
  h2 : HitP h a2 x2 y2 p2
  kx2 : Key h C x2 l2 c2
  ky2 : Key h C y2 l2 b2
theorem R3.kc {h h' : Heap} {C a0 a1 a2 x0 x1 x2 y0 y1 y2 p0 p1 p2 : Addr} {l0 l1 l2 c0 c1 c2 b0 b1 b2 : Int} (x : R3 h C a0 a1 a2 x0 x1 x2 y0 y1 y2 p0 p1 p2 l0 l1 l2 c0 c1 c2 b0 b1 b2) (k : Kc h h') : R3 h' C a0 a1 a2 x0 x1 x2 y0 y1 y2 p0 p1 p2 l0 l1 l2 c0 c1 c2 b0 b1 b2 :=
  ⟨x.h0.kc k, x.kx0.kc k, x.ky0.kc k, x.h1.kc k, x.kx1.kc k, x.ky1.kc k, x.h2.kc k, x.kx2.kc k, x.ky2.kc k⟩
theorem ro5 {P : Params} {h : Heap} {f1 f2 : Value} {yc yl yt yk L K1 K2 : Addr} {es : Array DictEntry} {n : Nat} (IK : IsK P h K1 f1) (JK : IsK P h K2 f2) : ∀ p ∈ [(yc, celO none), (yl, celO none), (yt, celO (some (.ref K2))), (yk, celO (some (.ref K1))), (L, frO es n)], Ro h p.2 := by
  intro p hp
  simp only [List.mem_cons, List.not_mem_nil, or_false] at hp
  obtain ⟨_, _, _, _, a1⟩ := IK.c
  obtain ⟨_, _, _, _, a2⟩ := JK.c
  rcases hp with rfl | rfl | rfl | rfl | rfl
  · exact .inr (.inr (.inr (.inr (.inr (.inl rfl)))))
  · exact .inr (.inr (.inr (.inr (.inr (.inl rfl)))))
  · exact .inr (.inr (.inr (.inr (.inr (.inr ⟨_, _, rfl, a2, rfl⟩)))))
  · exact .inr (.inr (.inr (.inr (.inr (.inr ⟨_, _, rfl, a1, rfl⟩)))))
  · exact .inl rfl
theorem rgStep {l b l' c' b' N M : Int} (l0 : 0 ≤ l) (l1 : l ≤ N) (b0 : 0 ≤ b) (b1 : b ≤ M) (m : 0 ≤ M) (r : (l' = l ∧ b ≤ c' ∧ c' ≤ b + 99) ∨ (l < l' ∧ l' ≤ l + 100 ∧ 0 ≤ c' ∧ c' ≤ 99)) (r' : c' < b' ∧ b' ≤ c' + 3) :
    0 ≤ l' ∧ l' ≤ N + 100 ∧ 0 ≤ c' ∧ 0 ≤ b' ∧ c' ≤ M + 99 ∧ b' ≤ M + 102 ∧ ((l' = l ∧ b ≤ c') ∨ l < l') := by
  rcases r with ⟨rfl, a, b⟩ | ⟨a, b, c, d⟩
  · exact ⟨l0, by omega, by omega, by omega, by omega, by omega, .inl ⟨rfl, a⟩⟩
  · exact ⟨by omega, by omega, c, by omega, by omega, by omega, .inr a⟩
theorem b9 {x N : Int} (h : x ≤ N) (e : N < 10 ^ 9) : x < 10 ^ 9 := Int.lt_of_le_of_lt h e
theorem rgs {l0 l1 l2 c0 c1 c2 b0 b1 b2 : Int} (r0 : (l0 = 1 ∧ 0 ≤ c0 ∧ c0 ≤ 99) ∨ (1 < l0 ∧ l0 ≤ 101 ∧ 0 ≤ c0 ∧ c0 ≤ 99)) (r0' : c0 < b0 ∧ b0 ≤ c0 + 3) (r1 : (l1 = l0 ∧ b0 ≤ c1 ∧ c1 ≤ b0 + 99) ∨ (l0 < l1 ∧ l1 ≤ l0 + 100 ∧ 0 ≤ c1 ∧ c1 ≤ 99)) (r1' : c1 < b1 ∧ b1 ≤ c1 + 3)
  (r2 : (l2 = l1 ∧ b1 ≤ c2 ∧ c2 ≤ b1 + 99) ∨ (l1 < l2 ∧ l2 ≤ l1 + 100 ∧ 0 ≤ c2 ∧ c2 ≤ 99)) (r2' : c2 < b2 ∧ b2 ≤ c2 + 3) :
  (0 ≤ l0 ∧ l0 < 10 ^ 9 ∧ 0 ≤ c0 ∧ c0 < 10 ^ 9 ∧ 0 ≤ b0 ∧ b0 < 10 ^ 9) ∧ (0 ≤ l1 ∧ l1 < 10 ^ 9 ∧ 0 ≤ c1 ∧ c1 < 10 ^ 9 ∧ 0 ≤ b1 ∧ b1 < 10 ^ 9) ∧ (0 ≤ l2 ∧ l2 < 10 ^ 9 ∧ 0 ≤ c2 ∧ c2 < 10 ^ 9 ∧ 0 ≤ b2 ∧ b2 < 10 ^ 9) ∧ Ord3 l0 l1 l2 c0 c1 c2 b0 b1 b2 := by
  have q0 : 0 ≤ l0 ∧ l0 ≤ 101 ∧ 0 ≤ c0 ∧ 0 ≤ b0 ∧ c0 ≤ 99 ∧ b0 ≤ 102 := by clear r1 r1' r2 r2'; omega
  obtain ⟨t1, t2, t3, t4, t5, t6⟩ := q0
  obtain ⟨u1, u2, u3, u4, u5, u6, u7⟩ := rgStep t1 t2 t4 t6 (by decide) r1 r1'
  obtain ⟨v1, v2, v3, v4, v5, v6, v7⟩ := rgStep u1 u2 u4 u6 (by decide) r2 r2'
  exact ⟨⟨t1, b9 t2 (by decide), t3, b9 t5 (by decide), t4, b9 t6 (by decide)⟩, ⟨u1, b9 u2 (by decide), u3, b9 u5 (by decide), u4, b9 u6 (by decide)⟩, ⟨v1, b9 v2 (by decide), v3, b9 v5 (by decide), v4, b9 v6 (by decide)⟩, r0'.1, r1'.1, r2'.1, u7, v7⟩
theorem b10 {x : Int} (h : x < 10 ^ 9) : x < 10 ^ 10 := Int.lt_trans h (by decide)
theorem r9 {l c b : Int} (x : 0 ≤ l ∧ l < 10 ^ 9 ∧ 0 ≤ c ∧ c < 10 ^ 9 ∧ 0 ≤ b ∧ b < 10 ^ 9) : 0 ≤ l ∧ l < 10 ^ 10 ∧ 0 ≤ c ∧ c < 10 ^ 10 ∧ 0 ≤ b ∧ b < 10 ^ 10 := ⟨x.1, b10 x.2.1, x.2.2.1, b10 x.2.2.2.1, x.2.2.2.2.1, b10 x.2.2.2.2.2⟩

end Mine
namespace Mine
variable {w : World} {A : Around} {Q : Value → Shared → Prop} {E : Value → Shared → Prop}
set_option tactic.hygienic false

theorem rowA (hh : A.handled = none) (hd : A.depth ≤ 400) (hu : A.units ≤ 3000) (hb h : Heap) (g : Array GenState) (d : Drawn) (t : Nat) (os : OsState) {R' : Result → Shared → Prop} (X : (KX w.params).In hb) (T : T79 hb)
  (yk L Lc it ac Fl K : Addr) (fv : Value) (IK : IsK w.params hb K fv) (fs : Array Value) (nF : Nat) (j : Nat) (p : Addr) (l c b : Int) (u1 u2 u3 : Tok) (hF : hb.get? Fl = some (lsO fs nF)) (hj : fs[j]? = some (.ref p)) (hp : hb.get? p = some (tup3 l c b u1 u2 u3))
  (l1 : 0 ≤ l) (l2 : l < 10 ^ 10) (c1 : 0 ≤ c) (c2 : c < 10 ^ 10) (b1 : 0 ≤ b) (b2 : b < 10 ^ 10)
  (acs : Array Value) (hac : acs.size ≤ 9) (na : Nat) (es : Array DictEntry) (n : Nat) (rest : List (Addr × Obj)) (hyk : (yk, celO (some (.ref K))) ∈ rest) (hr : ∀ p ∈ rest, Ro hb p.2) (dd : Option Addr) (sl : Array (Option Value))
  {t6 : Nat → Tok} (a1 : aRefKeyMayBeTheName (Str.ofString "find") es = false)
  (a2 : ∀ tk v, Obj.putName (Str.ofString "find") (PyData.keyHash w.params (Str.ofString "find")) (.str (Str.ofString "find") tk) v (dcO es n) = dcO #[en w.params "find" (t6 tk) v] 1)
  (Dm : Mem hb h [] ((Lc, dcO es n) :: (ac, lsO acs na) :: (it, itO Fl j dd sl) :: rest))
  (k : ∀ hb' h' tk na' tf hit x y dd' sl', (∀ b o, hb.get? b = some o → b ≠ 79 → hb'.get? b = some o) → HitT hb' → HitP hb' hit x y p → Key hb' K x l c → Key hb' K y l b →
    Mem hb' h' [] ((Lc, dcO #[en w.params "find" tf (.ref p)] 1) :: (ac, lsO (acs.push (.ref hit)) na') :: (it, itO Fl (j + 1) dd' sl') :: rest) → codeAny (MM w) A (cpL 3 "key" yk L Lc it ac) R' ⟨h', g, d, tk, os⟩) :
  codeAny (MM w) A (cpL 3 "key" yk L Lc it ac) R' ⟨h, g, d, t, os⟩ := by
  have f3 := k3 X
  have f56 := kf56 X
  have f84 := kf84 X
  obtain ⟨N, bt, t1, t2, fK⟩ := IK.c
  refine codeAny_of_tree ?_
  obtain ⟨A1, hA⟩ : ∃ A1, A1 = A.under (cpL 3 "key" yk L Lc it ac) := ⟨_, rfl⟩
  rw [← hA]
  show wpAny _ A1 ((compTurn (compE 3) 0 (.ref it) (.ref ac) (qenv 3 "key" yk L Lc)).onRaise _) _ _ _
  refine noE ?_
  refine (?_ : Ar (A1.handled = none) _) (by rw [hA]; exact hh); intro hh1
  refine (?_ : Ar (A1.depth ≤ 420) _) (by rw [hA]; first | (show A.depth + 0 ≤ 420; exact lbk 0 hd rfl) | (show A.depth + 1 ≤ 420; exact lbk 1 hd rfl)); intro hd1
  refine (?_ : Ar (A1.units ≤ 3200) _) (by rw [hA]; first | (show A.units + 0 ≤ 3200; exact lbk 0 hu rfl) | (show A.units + 1 ≤ 3200; exact lbk 1 hu rfl) | (show A.units + 2 ≤ 3200; exact lbk 2 hu rfl)); intro hu1
  refine (?_ : Ar (A1.units < cLine) _) (Nat.lt_of_le_of_lt hu1 (by decide)); intro hroom
  clear hA
  repeat walk_at "#3;tlG3 tlKC;Set Get PN GI"
  refine wpAny_pyNext_list_item (of_itO (Mem.at Dm 2 _ _ rfl)) ⟨_, kp_mem Dm _ _ hF, rfl, _, rfl⟩ hj ?_
  intro h1 hit1 sb1
  obtain ⟨dd1, sl1, hit2⟩ := itO_of hit1
  replace Dm := memSet Dm 2 rfl sb1.extBut hit2
  dsimp only [List.set] at Dm
  repeat walk_at "#3;tlG3 tlKC;Set Get PN GI"
  refine nsSetB rfl Dm 0 rfl a1 ((?_ : Au _ _ _ _ _ _ _) _ (nsPutD (o' := fun tk => dcO #[en w.params "find" (t6 tk) (.ref p)] 1) Dm 0 rfl (fun tk => a2 tk _) (fun _ => rfl)))
  clear Dm; intro h2 Dm; dsimp only [List.set] at Dm
  repeat walk_at "#3;tlG3 tlKC;Set Get PN GI"
  refine nsGetO (r := some (.ref 84)) Dm f3 (by kernel_rfl!) ?_
  repeat walk_at "#3;tlG3 tlKC;Set Get PN GI"
  refine wpAny_load (Dm.nw _ (.tail _ (.tail _ (.tail _ hyk)))).1 ?_
  repeat walk_at "#3;tlG3 tlKC;Set Get PN GI"
  refine nsGetO (r := some (.ref 56)) Dm f3 (by kernel_rfl!) ?_
  repeat walk_at "#3;tlG3 tlKC;Set Get PN GI"
  refine nsGetM (r := some (.ref p)) Dm 0 rfl (by kernel_rfl!) ?_
  repeat walk_at "#3;tlG3 tlKC;Set Get PN GI"
  refine getItem_tuple (j := 0) (x := .int l u1) ⟨_, kp_mem Dm _ _ hp, rfl, _, rfl⟩ (by decide) (by decide) rfl rfl ?_
  repeat walk_at "#3;tlG3 tlKC;Set Get PN GI"
  refine nsGetM (r := some (.ref p)) Dm 0 rfl (by kernel_rfl!) ?_
  repeat walk_at "#3;tlG3 tlKC;Set Get PN GI"
  refine getItem_tuple (j := 1) (x := .int c u2) ⟨_, kp_mem Dm _ _ hp, rfl, _, rfl⟩ (by decide) (by decide) rfl rfl ?_
  repeat walk_at "#3;tlG3 tlKC;Set Get PN GI"
  refine rdC hh1 (by first | (refine lb (by assumption) ?_; rfl) | omega) (by first | (refine lb (by assumption) ?_; rfl) | omega) _ g d _ os (X.keeps (kp_mem Dm)) l c _ _ l1 l2 c1 c2 ?_
  intro r1 h10 tk10 v1 w1 kp10 hr1
  replace Dm := memKp Dm kp10
  repeat walk_at "#3;tlG3 tlKC;Set Get PN GI"
  refine mkK hh1 (by first | (refine lb (by assumption) ?_; rfl) | omega) (by first | (refine lb (by assumption) ?_; rfl) | omega) (X.keeps (kp_mem Dm)) (IK.kl (.of_kp (kp_mem Dm))) ?_
  intro x1 h11 tk11 kp11 hx1
  replace Dm := memKp Dm kp11
  have hk1 : Key h11 K x1 l c := hx1.elim fun dx e => ⟨dx, r1, v1, w1, e, kp11 _ _ hr1⟩
  repeat walk_at "#3;tlG3 tlKC;Set Get PN GI"
  refine wpAny_load (Dm.nw _ (.tail _ (.tail _ (.tail _ hyk)))).1 ?_
  repeat walk_at "#3;tlG3 tlKC;Set Get PN GI"
  refine nsGetO (r := some (.ref 56)) Dm f3 (by kernel_rfl!) ?_
  repeat walk_at "#3;tlG3 tlKC;Set Get PN GI"
  refine nsGetM (r := some (.ref p)) Dm 0 rfl (by kernel_rfl!) ?_
  repeat walk_at "#3;tlG3 tlKC;Set Get PN GI"
  refine getItem_tuple (j := 0) (x := .int l u1) ⟨_, kp_mem Dm _ _ hp, rfl, _, rfl⟩ (by decide) (by decide) rfl rfl ?_
  repeat walk_at "#3;tlG3 tlKC;Set Get PN GI"
  refine nsGetM (r := some (.ref p)) Dm 0 rfl (by kernel_rfl!) ?_
  repeat walk_at "#3;tlG3 tlKC;Set Get PN GI"
  refine getItem_tuple (j := 2) (x := .int b u3) ⟨_, kp_mem Dm _ _ hp, rfl, _, rfl⟩ (by decide) (by decide) rfl rfl ?_
  repeat walk_at "#3;tlG3 tlKC;Set Get PN GI"
  refine rdC hh1 (by first | (refine lb (by assumption) ?_; rfl) | omega) (by first | (refine lb (by assumption) ?_; rfl) | omega) _ g d _ os (X.keeps (kp_mem Dm)) l b _ _ l1 l2 b1 b2 ?_
  intro r2 h20 tk20 v2 w2 kp20 hr2
  replace Dm := memKp Dm kp20
  repeat walk_at "#3;tlG3 tlKC;Set Get PN GI"
  refine mkK hh1 (by first | (refine lb (by assumption) ?_; rfl) | omega) (by first | (refine lb (by assumption) ?_; rfl) | omega) (X.keeps (kp_mem Dm)) (IK.kl (.of_kp (kp_mem Dm))) ?_
  intro x2 h21 tk21 kp21 hx2
  replace Dm := memKp Dm kp21
  have hk2 : Key h21 K x2 l b := hx2.elim fun dx e => ⟨dx, r2, v2, w2, e, kp21 _ _ hr2⟩
  repeat walk_at "#3;tlG3 tlKC;Set Get PN GI"
  refine nsGetM (r := some (.ref p)) Dm 0 rfl (by kernel_rfl!) ?_
  repeat walk_at "#3;tlG3 tlKC;Set Get PN GI"
  refine hitU hh1 (by first | (refine lb (by assumption) ?_; rfl) | omega) (by first | (refine lb (by assumption) ?_; rfl) | omega) (X.keeps (kp_mem Dm)) (T.kp (kp_mem Dm)) ?_
  intro hit h3 tk3 eb3 hp3 ht3
  have T21 : T79 h21 := T.kp (kp_mem Dm)
  have k3c : Kc h21 h3 := fun b o e c => eb3 b o (T21.ne e c) e
  have kb3 : ∀ b o, hb.get? b = some o → o.cls ≠ .none → h3.get? b = some o := fun b o e c => k3c b o (kp_mem Dm _ _ e) c
  have n79 : ∀ q ∈ ((Lc, dcO #[en w.params "find" (t6 t) (.ref p)] 1) :: (ac, lsO acs na) :: (it, itO Fl (j + 1) dd1 sl1) :: rest), q.1 ≠ 79 := by
    intro q hq e
    have e1 := (Dm.nw q hq).2
    rw [e] at e1
    obtain ⟨_, e2⟩ := JT.tab T
    rw [e1] at e2; cases e2
  have hro : ∀ q ∈ ((Lc, dcO #[en w.params "find" (t6 t) (.ref p)] 1) :: (ac, lsO acs na) :: (it, itO Fl (j + 1) dd1 sl1) :: rest), Ro hb q.2 := by
    intro q hq
    cases hq with
    | head => exact .inr (.inr (.inr (.inr (.inl ⟨_, _, _, rfl, rfl⟩))))
    | tail _ hq => cases hq with
      | head => exact .inr (.inr (.inl rfl))
      | tail _ hq => cases hq with
        | head => exact .inr (.inl rfl)
        | tail _ hq => exact hr q hq
  have hk1' := ((hk1.kp kp20).kp kp21).kc k3c
  have hk2' := hk2.kc k3c
  obtain ⟨B1, D1, m1, o1, z1⟩ := reb Dm (fun b _ => b ≠ 79) (fun b o e c => eb3 b o c e) n79
  have md : ∀ b o, h3.get? b = some o → Kd x1 x2 o → B1.get? b = some o := fun b o e kd => m1 b o e (fun q hq => by
    obtain ⟨dx, a, _, _, e1, _⟩ := hk1'
    obtain ⟨dy, ay, _, _, e2, _⟩ := hk2'
    exact kdRo (hro q hq) kd kb3 e1 e2)
  refine (?_ : Ar _ _) (hk1'.kd x1 x2 md); intro hk1
  refine (?_ : Ar _ _) (hk2'.kd x1 x2 md); intro hk2
  refine (?_ : Ar _ _) (hp3.kd md); intro hp3
  refine (?_ : Ar _ _) (ht3.kd x1 x2 md); intro ht3
  clear Dm m1 md hro n79 kb3 k3c T21 kp10 kp11 kp20 kp21 hk1' hk2' f3 f56 f84 hyk
  refine (?_ : Ar _ _) (D1); intro Dm
  repeat walk_at "#3;tlG3 tlKC;Set Get PN GI"
  refine appendM Dm 1 rfl (Nat.le_trans hac (by decide)) ?_
  clear Dm; intro h4 n4 Dm; dsimp only [List.set] at Dm
  repeat walk_at "#3;tlG3 tlKC;Set Get PN GI"
  exact ⟨rfl, k B1 h4 _ n4 (t6 t) hit x1 x2 _ _ o1 ht3 hp3 hk1 hk2 Dm⟩

theorem rowB (hh : A.handled = none) (hd : A.depth ≤ 400) (hu : A.units ≤ 3000) (hb h : Heap) (g : Array GenState) (d : Drawn) (t : Nat) (os : OsState) {R' : Result → Shared → Prop} (X : (KX w.params).In hb) (T : T79 hb)
  (yk L Lc it ac Fl K : Addr) (fv : Value) (IK : IsK w.params hb K fv) (fs : Array Value) (nF : Nat) (j : Nat) (p : Addr) (l c b : Int) (u1 u2 u3 : Tok) (hF : hb.get? Fl = some (lsO fs nF)) (hj : fs[j]? = some (.ref p)) (hp : hb.get? p = some (tup3 l c b u1 u2 u3))
  (l1 : 0 ≤ l) (l2 : l < 10 ^ 10) (c1 : 0 ≤ c) (c2 : c < 10 ^ 10) (b1 : 0 ≤ b) (b2 : b < 10 ^ 10)
  (acs : Array Value) (hac : acs.size ≤ 9) (na : Nat) (es : Array DictEntry) (n : Nat) (rest : List (Addr × Obj)) (hyk : (yk, celO (some (.ref K))) ∈ rest) (hr : ∀ p ∈ rest, Ro hb p.2) (dd : Option Addr) (sl : Array (Option Value))
  {t6 : Nat → Tok} (a1 : aRefKeyMayBeTheName (Str.ofString "find") es = false)
  (a2 : ∀ tk v, Obj.putName (Str.ofString "find") (PyData.keyHash w.params (Str.ofString "find")) (.str (Str.ofString "find") tk) v (dcO es n) = dcO #[en w.params "find" (t6 tk) v] 1)
  (Dm : Mem hb h [] ((Lc, dcO es n) :: (ac, lsO acs na) :: (it, itO Fl j dd sl) :: rest))
  (k : ∀ hb' h' tk na' tf hit x y dd' sl', (∀ b o, hb.get? b = some o → b ≠ 79 → hb'.get? b = some o) → HitT hb' → HitP hb' hit x y p → Key hb' K x l b → Key hb' K y l c →
    Mem hb' h' [] ((Lc, dcO #[en w.params "find" tf (.ref p)] 1) :: (ac, lsO (acs.push (.ref hit)) na') :: (it, itO Fl (j + 1) dd' sl') :: rest) → codeAny (MM w) A (cpL 4 "turned" yk L Lc it ac) R' ⟨h', g, d, tk, os⟩) :
  codeAny (MM w) A (cpL 4 "turned" yk L Lc it ac) R' ⟨h, g, d, t, os⟩ := by
  have f3 := k3 X
  have f56 := kf56 X
  have f84 := kf84 X
  obtain ⟨N, bt, t1, t2, fK⟩ := IK.c
  refine codeAny_of_tree ?_
  obtain ⟨A1, hA⟩ : ∃ A1, A1 = A.under (cpL 4 "turned" yk L Lc it ac) := ⟨_, rfl⟩
  rw [← hA]
  show wpAny _ A1 ((compTurn (compE 4) 0 (.ref it) (.ref ac) (qenv 4 "turned" yk L Lc)).onRaise _) _ _ _
  refine noE ?_
  refine (?_ : Ar (A1.handled = none) _) (by rw [hA]; exact hh); intro hh1
  refine (?_ : Ar (A1.depth ≤ 420) _) (by rw [hA]; first | (show A.depth + 0 ≤ 420; exact lbk 0 hd rfl) | (show A.depth + 1 ≤ 420; exact lbk 1 hd rfl)); intro hd1
  refine (?_ : Ar (A1.units ≤ 3200) _) (by rw [hA]; first | (show A.units + 0 ≤ 3200; exact lbk 0 hu rfl) | (show A.units + 1 ≤ 3200; exact lbk 1 hu rfl) | (show A.units + 2 ≤ 3200; exact lbk 2 hu rfl)); intro hu1
  refine (?_ : Ar (A1.units < cLine) _) (Nat.lt_of_le_of_lt hu1 (by decide)); intro hroom
  clear hA
  repeat walk_at "#3;tlG3 tlKC;Set Get PN GI"
  refine wpAny_pyNext_list_item (of_itO (Mem.at Dm 2 _ _ rfl)) ⟨_, kp_mem Dm _ _ hF, rfl, _, rfl⟩ hj ?_
  intro h1 hit1 sb1
  obtain ⟨dd1, sl1, hit2⟩ := itO_of hit1
  replace Dm := memSet Dm 2 rfl sb1.extBut hit2
  dsimp only [List.set] at Dm
  repeat walk_at "#3;tlG3 tlKC;Set Get PN GI"
  refine nsSetB rfl Dm 0 rfl a1 ((?_ : Au _ _ _ _ _ _ _) _ (nsPutD (o' := fun tk => dcO #[en w.params "find" (t6 tk) (.ref p)] 1) Dm 0 rfl (fun tk => a2 tk _) (fun _ => rfl)))
  clear Dm; intro h2 Dm; dsimp only [List.set] at Dm
  repeat walk_at "#3;tlG3 tlKC;Set Get PN GI"
  refine nsGetO (r := some (.ref 84)) Dm f3 (by kernel_rfl!) ?_
  repeat walk_at "#3;tlG3 tlKC;Set Get PN GI"
  refine wpAny_load (Dm.nw _ (.tail _ (.tail _ (.tail _ hyk)))).1 ?_
  repeat walk_at "#3;tlG3 tlKC;Set Get PN GI"
  refine nsGetO (r := some (.ref 56)) Dm f3 (by kernel_rfl!) ?_
  repeat walk_at "#3;tlG3 tlKC;Set Get PN GI"
  refine nsGetM (r := some (.ref p)) Dm 0 rfl (by kernel_rfl!) ?_
  repeat walk_at "#3;tlG3 tlKC;Set Get PN GI"
  refine getItem_tuple (j := 0) (x := .int l u1) ⟨_, kp_mem Dm _ _ hp, rfl, _, rfl⟩ (by decide) (by decide) rfl rfl ?_
  repeat walk_at "#3;tlG3 tlKC;Set Get PN GI"
  refine nsGetM (r := some (.ref p)) Dm 0 rfl (by kernel_rfl!) ?_
  repeat walk_at "#3;tlG3 tlKC;Set Get PN GI"
  refine getItem_tuple (j := 2) (x := .int b u3) ⟨_, kp_mem Dm _ _ hp, rfl, _, rfl⟩ (by decide) (by decide) rfl rfl ?_
  repeat walk_at "#3;tlG3 tlKC;Set Get PN GI"
  refine rdC hh1 (by first | (refine lb (by assumption) ?_; rfl) | omega) (by first | (refine lb (by assumption) ?_; rfl) | omega) _ g d _ os (X.keeps (kp_mem Dm)) l b _ _ l1 l2 b1 b2 ?_
  intro r1 h10 tk10 v1 w1 kp10 hr1
  replace Dm := memKp Dm kp10
  repeat walk_at "#3;tlG3 tlKC;Set Get PN GI"
  refine mkK hh1 (by first | (refine lb (by assumption) ?_; rfl) | omega) (by first | (refine lb (by assumption) ?_; rfl) | omega) (X.keeps (kp_mem Dm)) (IK.kl (.of_kp (kp_mem Dm))) ?_
  intro x1 h11 tk11 kp11 hx1
  replace Dm := memKp Dm kp11
  have hk1 : Key h11 K x1 l b := hx1.elim fun dx e => ⟨dx, r1, v1, w1, e, kp11 _ _ hr1⟩
  repeat walk_at "#3;tlG3 tlKC;Set Get PN GI"
  refine wpAny_load (Dm.nw _ (.tail _ (.tail _ (.tail _ hyk)))).1 ?_
  repeat walk_at "#3;tlG3 tlKC;Set Get PN GI"
  refine nsGetO (r := some (.ref 56)) Dm f3 (by kernel_rfl!) ?_
  repeat walk_at "#3;tlG3 tlKC;Set Get PN GI"
  refine nsGetM (r := some (.ref p)) Dm 0 rfl (by kernel_rfl!) ?_
  repeat walk_at "#3;tlG3 tlKC;Set Get PN GI"
  refine getItem_tuple (j := 0) (x := .int l u1) ⟨_, kp_mem Dm _ _ hp, rfl, _, rfl⟩ (by decide) (by decide) rfl rfl ?_
  repeat walk_at "#3;tlG3 tlKC;Set Get PN GI"
  refine nsGetM (r := some (.ref p)) Dm 0 rfl (by kernel_rfl!) ?_
  repeat walk_at "#3;tlG3 tlKC;Set Get PN GI"
  refine getItem_tuple (j := 1) (x := .int c u2) ⟨_, kp_mem Dm _ _ hp, rfl, _, rfl⟩ (by decide) (by decide) rfl rfl ?_
  repeat walk_at "#3;tlG3 tlKC;Set Get PN GI"
  refine rdC hh1 (by first | (refine lb (by assumption) ?_; rfl) | omega) (by first | (refine lb (by assumption) ?_; rfl) | omega) _ g d _ os (X.keeps (kp_mem Dm)) l c _ _ l1 l2 c1 c2 ?_
  intro r2 h20 tk20 v2 w2 kp20 hr2
  replace Dm := memKp Dm kp20
  repeat walk_at "#3;tlG3 tlKC;Set Get PN GI"
  refine mkK hh1 (by first | (refine lb (by assumption) ?_; rfl) | omega) (by first | (refine lb (by assumption) ?_; rfl) | omega) (X.keeps (kp_mem Dm)) (IK.kl (.of_kp (kp_mem Dm))) ?_
  intro x2 h21 tk21 kp21 hx2
  replace Dm := memKp Dm kp21
  have hk2 : Key h21 K x2 l c := hx2.elim fun dx e => ⟨dx, r2, v2, w2, e, kp21 _ _ hr2⟩
  repeat walk_at "#3;tlG3 tlKC;Set Get PN GI"
  refine nsGetM (r := some (.ref p)) Dm 0 rfl (by kernel_rfl!) ?_
  repeat walk_at "#3;tlG3 tlKC;Set Get PN GI"
  refine hitU hh1 (by first | (refine lb (by assumption) ?_; rfl) | omega) (by first | (refine lb (by assumption) ?_; rfl) | omega) (X.keeps (kp_mem Dm)) (T.kp (kp_mem Dm)) ?_
  intro hit h3 tk3 eb3 hp3 ht3
  have T21 : T79 h21 := T.kp (kp_mem Dm)
  have k3c : Kc h21 h3 := fun b o e c => eb3 b o (T21.ne e c) e
  have kb3 : ∀ b o, hb.get? b = some o → o.cls ≠ .none → h3.get? b = some o := fun b o e c => k3c b o (kp_mem Dm _ _ e) c
  have n79 : ∀ q ∈ ((Lc, dcO #[en w.params "find" (t6 t) (.ref p)] 1) :: (ac, lsO acs na) :: (it, itO Fl (j + 1) dd1 sl1) :: rest), q.1 ≠ 79 := by
    intro q hq e
    have e1 := (Dm.nw q hq).2
    rw [e] at e1
    obtain ⟨_, e2⟩ := JT.tab T
    rw [e1] at e2; cases e2
  have hro : ∀ q ∈ ((Lc, dcO #[en w.params "find" (t6 t) (.ref p)] 1) :: (ac, lsO acs na) :: (it, itO Fl (j + 1) dd1 sl1) :: rest), Ro hb q.2 := by
    intro q hq
    cases hq with
    | head => exact .inr (.inr (.inr (.inr (.inl ⟨_, _, _, rfl, rfl⟩))))
    | tail _ hq => cases hq with
      | head => exact .inr (.inr (.inl rfl))
      | tail _ hq => cases hq with
        | head => exact .inr (.inl rfl)
        | tail _ hq => exact hr q hq
  have hk1' := ((hk1.kp kp20).kp kp21).kc k3c
  have hk2' := hk2.kc k3c
  obtain ⟨B1, D1, m1, o1, z1⟩ := reb Dm (fun b _ => b ≠ 79) (fun b o e c => eb3 b o c e) n79
  have md : ∀ b o, h3.get? b = some o → Kd x1 x2 o → B1.get? b = some o := fun b o e kd => m1 b o e (fun q hq => by
    obtain ⟨dx, a, _, _, e1, _⟩ := hk1'
    obtain ⟨dy, ay, _, _, e2, _⟩ := hk2'
    exact kdRo (hro q hq) kd kb3 e1 e2)
  refine (?_ : Ar _ _) (hk1'.kd x1 x2 md); intro hk1
  refine (?_ : Ar _ _) (hk2'.kd x1 x2 md); intro hk2
  refine (?_ : Ar _ _) (hp3.kd md); intro hp3
  refine (?_ : Ar _ _) (ht3.kd x1 x2 md); intro ht3
  clear Dm m1 md hro n79 kb3 k3c T21 kp10 kp11 kp20 kp21 hk1' hk2' f3 f56 f84 hyk
  refine (?_ : Ar _ _) (D1); intro Dm
  repeat walk_at "#3;tlG3 tlKC;Set Get PN GI"
  refine appendM Dm 1 rfl (Nat.le_trans hac (by decide)) ?_
  clear Dm; intro h4 n4 Dm; dsimp only [List.set] at Dm
  repeat walk_at "#3;tlG3 tlKC;Set Get PN GI"
  exact ⟨rfl, k B1 h4 _ n4 (t6 t) hit x1 x2 _ _ o1 ht3 hp3 hk1 hk2 Dm⟩

end Mine
namespace Mine
variable {w : World} {A : Around} {Q : Value → Shared → Prop} {E : Value → Shared → Prop}
set_option tactic.hygienic false
theorem memErase {h₀ h h' : Heap} {news : List (Addr × Obj)} {a : Addr} {o : Obj} (D : Mem h₀ h [] news) (i : Nat) (hi : news[i]? = some (a, o)) (eb : Heap.ExtBut a h h') : Mem h₀ h' [] (news.eraseIdx i) := by
  refine (?_ : Ar ((a, o) ∈ news) _) (List.mem_of_getElem? hi); intro hm
  refine ⟨fun b ob e c => eb b ob ?_ (D.keep b ob e c), fun _ hp => (nomatch hp), List.nodup_nil, fun p hp => ?_, List.Pairwise.sublist ((List.eraseIdx_sublist news i).map _) D.ord⟩
  · rintro rfl
    have := (D.nw _ hm).2
    rw [e] at this; cases this
  · have hp' := List.mem_of_mem_eraseIdx hp
    refine ⟨eb _ _ ?_ (D.nw p hp').1, (D.nw p hp').2⟩
    intro ea
    obtain ⟨j, hj, ej⟩ := List.mem_eraseIdx_iff_getElem?.mp hp
    refine (?_ : Ar ((news.map (·.1)).Nodup) _) (D.ord.imp fun h => Nat.ne_of_gt h); intro nd
    refine (?_ : Ar ((news.map (·.1))[i]? = some a) _) (by rw [List.getElem?_map, hi]; rfl); intro e1
    refine (?_ : Ar ((news.map (·.1))[j]? = some a) _) (by rw [List.getElem?_map, ej]; exact congrArg some ea); intro e2
    have li : i < (news.map (·.1)).length := by
      rcases Nat.lt_or_ge i (news.map (·.1)).length with q | q
      · exact q
      · rw [List.getElem?_eq_none q] at e1; cases e1
    exact hj ((List.getElem?_inj li nd).mp (e1.trans e2.symm)).symm
theorem memForget {h₀ h : Heap} {news : List (Addr × Obj)} (D : Mem h₀ h [] news) (i : Nat) : Mem h₀ h [] (news.eraseIdx i) :=
  ⟨D.keep, D.ch, D.cd, fun p hp => D.nw p (List.mem_of_mem_eraseIdx hp), List.Pairwise.sublist ((List.eraseIdx_sublist news i).map _) D.ord⟩
theorem Ro.kc {h h' : Heap} {o : Obj} (r : Ro h o) (k : Kc h h') : Ro h' o := by
  rcases r with a | a | a | a | a | a | ⟨C, o', e, eC, cC⟩
  · exact .inl a
  · exact .inr (.inl a)
  · exact .inr (.inr (.inl a))
  · exact .inr (.inr (.inr (.inl a)))
  · exact .inr (.inr (.inr (.inr (.inl a))))
  · exact .inr (.inr (.inr (.inr (.inr (.inl a)))))
  · exact .inr (.inr (.inr (.inr (.inr (.inr ⟨C, o', e, k _ _ eC (by rw [cC]; simp), cC⟩)))))
theorem onwC (hh : A.handled = none) (hd : A.depth ≤ 400) (hu : A.units ≤ 3000) (hb h : Heap) (g : Array GenState) (d : Drawn) (t : Nat) (os : OsState) {R' : Result → Shared → Prop} (X : (KX w.params).In hb) (T : T79 hb)
  (yk L Lc it ac Fl K : Addr) (fv : Value) (IK : IsK w.params hb K fv) (nF : Nat) (p0 p1 p2 : Addr) (l0 l1 l2 c0 c1 c2 b0 b1 b2 : Int) (e0 e1 e2 e3 e4 e5 e6 e7 e8 : Tok) (hF : hb.get? Fl = some (lsO #[.ref p0, .ref p1, .ref p2] nF)) (hp0 : hb.get? p0 = some (tup3 l0 c0 b0 e0 e1 e2)) (hp1 : hb.get? p1 = some (tup3 l1 c1 b1 e3 e4 e5)) (hp2 : hb.get? p2 = some (tup3 l2 c2 b2 e6 e7 e8))
  (r0 : 0 ≤ l0 ∧ l0 < 10 ^ 10 ∧ 0 ≤ c0 ∧ c0 < 10 ^ 10 ∧ 0 ≤ b0 ∧ b0 < 10 ^ 10) (r1 : 0 ≤ l1 ∧ l1 < 10 ^ 10 ∧ 0 ≤ c1 ∧ c1 < 10 ^ 10 ∧ 0 ≤ b1 ∧ b1 < 10 ^ 10) (r2 : 0 ≤ l2 ∧ l2 < 10 ^ 10 ∧ 0 ≤ c2 ∧ c2 < 10 ^ 10 ∧ 0 ≤ b2 ∧ b2 < 10 ^ 10)
  (rest : List (Addr × Obj)) (hyk : (yk, celO (some (.ref K))) ∈ rest) (hr : ∀ p ∈ rest, Ro hb p.2)
  (Dm : Mem hb h [] ((Lc, dcO #[] 0) :: (ac, lsO #[] 0) :: (it, itO Fl 0 none #[]) :: rest))
  (k : ∀ hb' h' tk na tf h0 h1 h2 x0 y0 x1 y1 x2 y2, (∀ b o, hb.get? b = some o → b ≠ 79 → hb'.get? b = some o) → HitT hb' → R3 hb' K h0 h1 h2 x0 x1 x2 y0 y1 y2 p0 p1 p2 l0 l1 l2 c0 c1 c2 b0 b1 b2 →
    Mem hb' h' [] ((Lc, dcO #[en w.params "find" tf (.ref p2)] 1) :: (ac, lsO #[.ref h0, .ref h1, .ref h2] na) :: rest) → R' (.ok .next) ⟨h', g, d, tk, os⟩) :
  codeAny (MM w) A (cpS 3 "key" yk L Lc it ac) R' ⟨h, g, d, t, os⟩ := by
  refine (?_ : Ar (codeAny (MM w) A (cpL 3 "key" yk L Lc it ac) R' ⟨h, g, d, t, os⟩) _) (?_); intro fin
  · refine codeAny_of_tree ?_
    obtain ⟨A1, hA⟩ : ∃ A1, A1 = A.under (cpS 3 "key" yk L Lc it ac) := ⟨_, rfl⟩
    rw [← hA]
    show wpAny _ A1 ((compStart (compE 3) 0 (.ref it) (.ref ac) (qenv 3 "key" yk L Lc)).onRaise _) _ _ _
    refine noE ?_
    clear hA
    repeat walk_at "#3;;PN PI"
    split
    · repeat walk_at "#3;;PN PI"
      exact ⟨rfl, fin⟩
    · repeat walk_at "#3;;PN PI"
      refine wpAny_pyIter_listiter (of_itO (Mem.at Dm 2 _ _ rfl)) ?_
      repeat walk_at "#3;;PN PI"
      exact ⟨rfl, fin⟩
  refine rowA hh hd hu hb _ g d _ os X T yk L Lc it ac Fl K fv IK _ nF 0 p0 l0 c0 b0 _ _ _ hF rfl hp0 r0.1 r0.2.1 r0.2.2.1 r0.2.2.2.1 r0.2.2.2.2.1 r0.2.2.2.2.2 _ (Nat.le_of_ble_eq_true rfl) _ _ _ rest hyk hr _ _ (t6 := fun tk => tk) (by kernel_rfl!) (by intro tk v; kernel_rfl!) Dm ?_
  clear Dm; intro g1 m1 tk0 na0 tf0 h0 x0 y0 dd0 sl0 o0 ht0 hq0 kx0 ky0 Dm
  refine (?_ : Ar (Kc hb g1) _) (fun b o e c => o0 b o e (T.ne e c)); intro kc0
  refine (?_ : Ar _ _) (kc0 _ _ hF lsN); clear hF; intro hF
  refine (?_ : Ar _ _) (kc0 _ _ hp1 t3N); clear hp1; intro hp1
  refine (?_ : Ar _ _) (kc0 _ _ hp2 t3N); clear hp2; intro hp2
  refine (?_ : Ar _ _) (isKc IK kc0); clear IK; intro IK
  refine (?_ : Ar _ _) (kxBut X (kx79 _) o0); clear X; intro X
  refine (?_ : Ar _ _) (fun p hp => (hr p hp).kc kc0); clear hr; intro hr
  replace T : T79 g1 := ht0
  refine rowA hh hd hu g1 _ g d _ os X T yk L Lc it ac Fl K fv IK _ nF 1 p1 l1 c1 b1 _ _ _ hF rfl hp1 r1.1 r1.2.1 r1.2.2.1 r1.2.2.2.1 r1.2.2.2.2.1 r1.2.2.2.2.2 _ (Nat.le_of_ble_eq_true rfl) _ _ _ rest hyk hr _ _ (t6 := fun _ => tf0) (by kernel_rfl!) (by intro tk v; kernel_rfl!) Dm ?_
  clear Dm; intro g2 m2 tk1 na1 tf1 h1 x1 y1 dd1 sl1 o1 ht1 hq1 kx1 ky1 Dm
  refine (?_ : Ar (Kc g1 g2) _) (fun b o e c => o1 b o e (T.ne e c)); intro kc1
  refine (?_ : Ar _ _) (kc1 _ _ hF lsN); clear hF; intro hF
  refine (?_ : Ar _ _) (kc1 _ _ hp2 t3N); clear hp2; intro hp2
  refine (?_ : Ar _ _) (isKc IK kc1); clear IK; intro IK
  refine (?_ : Ar _ _) (kxBut X (kx79 _) o1); clear X; intro X
  refine (?_ : Ar _ _) (fun p hp => (hr p hp).kc kc1); clear hr; intro hr
  replace T : T79 g2 := ht1
  refine (?_ : Ar _ _) (hq0.kc kc1); clear hq0; intro hq0
  refine (?_ : Ar _ _) (kx0.kc kc1); clear kx0; intro kx0
  refine (?_ : Ar _ _) (ky0.kc kc1); clear ky0; intro ky0
  refine rowA hh hd hu g2 _ g d _ os X T yk L Lc it ac Fl K fv IK _ nF 2 p2 l2 c2 b2 _ _ _ hF rfl hp2 r2.1 r2.2.1 r2.2.2.1 r2.2.2.2.1 r2.2.2.2.2.1 r2.2.2.2.2.2 _ (Nat.le_of_ble_eq_true rfl) _ _ _ rest hyk hr _ _ (t6 := fun _ => tf1) (by kernel_rfl!) (by intro tk v; kernel_rfl!) Dm ?_
  clear Dm; intro g3 m3 tk2 na2 tf2 h2 x2 y2 dd2 sl2 o2 ht2 hq2 kx2 ky2 Dm
  refine (?_ : Ar (Kc g2 g3) _) (fun b o e c => o2 b o e (T.ne e c)); intro kc2
  refine (?_ : Ar _ _) (kc2 _ _ hF lsN); clear hF; intro hF
  refine (?_ : Ar _ _) (isKc IK kc2); clear IK; intro IK
  refine (?_ : Ar _ _) (kxBut X (kx79 _) o2); clear X; intro X
  refine (?_ : Ar _ _) (fun p hp => (hr p hp).kc kc2); clear hr; intro hr
  replace T : T79 g3 := ht2
  refine (?_ : Ar _ _) (hq0.kc kc2); clear hq0; intro hq0
  refine (?_ : Ar _ _) (kx0.kc kc2); clear kx0; intro kx0
  refine (?_ : Ar _ _) (ky0.kc kc2); clear ky0; intro ky0
  refine (?_ : Ar _ _) (hq1.kc kc2); clear hq1; intro hq1
  refine (?_ : Ar _ _) (kx1.kc kc2); clear kx1; intro kx1
  refine (?_ : Ar _ _) (ky1.kc kc2); clear ky1; intro ky1
  refine codeAny_of_tree ?_
  obtain ⟨A1, hA⟩ : ∃ A1, A1 = A.under (cpL 3 "key" yk L Lc it ac) := ⟨_, rfl⟩
  rw [← hA]
  show wpAny _ A1 ((compTurn (compE 3) 0 (.ref it) (.ref ac) (qenv 3 "key" yk L Lc)).onRaise _) _ _ _
  refine noE ?_
  refine (?_ : Ar (A1.handled = none) _) (by rw [hA]; exact hh); intro hh1
  clear hA
  repeat walk_at "#3;;PN PI"
  refine wpAny_pyNext_list_end hh1 (of_itO (Mem.at Dm 2 _ _ rfl)) ⟨_, kp_mem Dm _ _ hF, rfl, _, rfl⟩ rfl ?_
  intro h9 eb9
  refine (?_ : Ar _ _) (memErase Dm 2 rfl eb9); clear Dm; intro Dm
  dsimp only [List.eraseIdx] at Dm
  repeat walk_at "#3;;PN PI"
  refine k g3 h9 _ na2 _ h0 h1 h2 x0 y0 x1 y1 x2 y2 (fun b o e n => o2 b o (o1 b o (o0 b o e n) n) n) ht2 ⟨hq0, kx0, ky0, hq1, kx1, ky1, hq2, kx2, ky2⟩ Dm
theorem upwC (hh : A.handled = none) (hd : A.depth ≤ 400) (hu : A.units ≤ 3000) (hb h : Heap) (g : Array GenState) (d : Drawn) (t : Nat) (os : OsState) {R' : Result → Shared → Prop} (X : (KX w.params).In hb) (T : T79 hb)
  (yk L Lc it ac Fl K : Addr) (fv : Value) (IK : IsK w.params hb K fv) (nF : Nat) (p0 p1 p2 : Addr) (l0 l1 l2 c0 c1 c2 b0 b1 b2 : Int) (e0 e1 e2 e3 e4 e5 e6 e7 e8 : Tok) (hF : hb.get? Fl = some (lsO #[.ref p0, .ref p1, .ref p2] nF)) (hp0 : hb.get? p0 = some (tup3 l0 c0 b0 e0 e1 e2)) (hp1 : hb.get? p1 = some (tup3 l1 c1 b1 e3 e4 e5)) (hp2 : hb.get? p2 = some (tup3 l2 c2 b2 e6 e7 e8))
  (r0 : 0 ≤ l0 ∧ l0 < 10 ^ 10 ∧ 0 ≤ c0 ∧ c0 < 10 ^ 10 ∧ 0 ≤ b0 ∧ b0 < 10 ^ 10) (r1 : 0 ≤ l1 ∧ l1 < 10 ^ 10 ∧ 0 ≤ c1 ∧ c1 < 10 ^ 10 ∧ 0 ≤ b1 ∧ b1 < 10 ^ 10) (r2 : 0 ≤ l2 ∧ l2 < 10 ^ 10 ∧ 0 ≤ c2 ∧ c2 < 10 ^ 10 ∧ 0 ≤ b2 ∧ b2 < 10 ^ 10)
  (rest : List (Addr × Obj)) (hyk : (yk, celO (some (.ref K))) ∈ rest) (hr : ∀ p ∈ rest, Ro hb p.2)
  (Dm : Mem hb h [] ((Lc, dcO #[] 0) :: (ac, lsO #[] 0) :: (it, itO Fl 0 none #[]) :: rest))
  (k : ∀ hb' h' tk na tf h0 h1 h2 x0 y0 x1 y1 x2 y2, (∀ b o, hb.get? b = some o → b ≠ 79 → hb'.get? b = some o) → HitT hb' → R3 hb' K h0 h1 h2 x0 x1 x2 y0 y1 y2 p0 p1 p2 l0 l1 l2 b0 b1 b2 c0 c1 c2 →
    Mem hb' h' [] ((Lc, dcO #[en w.params "find" tf (.ref p2)] 1) :: (ac, lsO #[.ref h0, .ref h1, .ref h2] na) :: rest) → R' (.ok .next) ⟨h', g, d, tk, os⟩) :
  codeAny (MM w) A (cpS 4 "turned" yk L Lc it ac) R' ⟨h, g, d, t, os⟩ := by
  refine (?_ : Ar (codeAny (MM w) A (cpL 4 "turned" yk L Lc it ac) R' ⟨h, g, d, t, os⟩) _) (?_); intro fin
  · refine codeAny_of_tree ?_
    obtain ⟨A1, hA⟩ : ∃ A1, A1 = A.under (cpS 4 "turned" yk L Lc it ac) := ⟨_, rfl⟩
    rw [← hA]
    show wpAny _ A1 ((compStart (compE 4) 0 (.ref it) (.ref ac) (qenv 4 "turned" yk L Lc)).onRaise _) _ _ _
    refine noE ?_
    clear hA
    repeat walk_at "#3;;PN PI"
    split
    · repeat walk_at "#3;;PN PI"
      exact ⟨rfl, fin⟩
    · repeat walk_at "#3;;PN PI"
      refine wpAny_pyIter_listiter (of_itO (Mem.at Dm 2 _ _ rfl)) ?_
      repeat walk_at "#3;;PN PI"
      exact ⟨rfl, fin⟩
  refine rowB hh hd hu hb _ g d _ os X T yk L Lc it ac Fl K fv IK _ nF 0 p0 l0 c0 b0 _ _ _ hF rfl hp0 r0.1 r0.2.1 r0.2.2.1 r0.2.2.2.1 r0.2.2.2.2.1 r0.2.2.2.2.2 _ (Nat.le_of_ble_eq_true rfl) _ _ _ rest hyk hr _ _ (t6 := fun tk => tk) (by kernel_rfl!) (by intro tk v; kernel_rfl!) Dm ?_
  clear Dm; intro g1 m1 tk0 na0 tf0 h0 x0 y0 dd0 sl0 o0 ht0 hq0 kx0 ky0 Dm
  refine (?_ : Ar (Kc hb g1) _) (fun b o e c => o0 b o e (T.ne e c)); intro kc0
  refine (?_ : Ar _ _) (kc0 _ _ hF lsN); clear hF; intro hF
  refine (?_ : Ar _ _) (kc0 _ _ hp1 t3N); clear hp1; intro hp1
  refine (?_ : Ar _ _) (kc0 _ _ hp2 t3N); clear hp2; intro hp2
  refine (?_ : Ar _ _) (isKc IK kc0); clear IK; intro IK
  refine (?_ : Ar _ _) (kxBut X (kx79 _) o0); clear X; intro X
  refine (?_ : Ar _ _) (fun p hp => (hr p hp).kc kc0); clear hr; intro hr
  replace T : T79 g1 := ht0
  refine rowB hh hd hu g1 _ g d _ os X T yk L Lc it ac Fl K fv IK _ nF 1 p1 l1 c1 b1 _ _ _ hF rfl hp1 r1.1 r1.2.1 r1.2.2.1 r1.2.2.2.1 r1.2.2.2.2.1 r1.2.2.2.2.2 _ (Nat.le_of_ble_eq_true rfl) _ _ _ rest hyk hr _ _ (t6 := fun _ => tf0) (by kernel_rfl!) (by intro tk v; kernel_rfl!) Dm ?_
  clear Dm; intro g2 m2 tk1 na1 tf1 h1 x1 y1 dd1 sl1 o1 ht1 hq1 kx1 ky1 Dm
  refine (?_ : Ar (Kc g1 g2) _) (fun b o e c => o1 b o e (T.ne e c)); intro kc1
  refine (?_ : Ar _ _) (kc1 _ _ hF lsN); clear hF; intro hF
  refine (?_ : Ar _ _) (kc1 _ _ hp2 t3N); clear hp2; intro hp2
  refine (?_ : Ar _ _) (isKc IK kc1); clear IK; intro IK
  refine (?_ : Ar _ _) (kxBut X (kx79 _) o1); clear X; intro X
  refine (?_ : Ar _ _) (fun p hp => (hr p hp).kc kc1); clear hr; intro hr
  replace T : T79 g2 := ht1
  refine (?_ : Ar _ _) (hq0.kc kc1); clear hq0; intro hq0
  refine (?_ : Ar _ _) (kx0.kc kc1); clear kx0; intro kx0
  refine (?_ : Ar _ _) (ky0.kc kc1); clear ky0; intro ky0
  refine rowB hh hd hu g2 _ g d _ os X T yk L Lc it ac Fl K fv IK _ nF 2 p2 l2 c2 b2 _ _ _ hF rfl hp2 r2.1 r2.2.1 r2.2.2.1 r2.2.2.2.1 r2.2.2.2.2.1 r2.2.2.2.2.2 _ (Nat.le_of_ble_eq_true rfl) _ _ _ rest hyk hr _ _ (t6 := fun _ => tf1) (by kernel_rfl!) (by intro tk v; kernel_rfl!) Dm ?_
  clear Dm; intro g3 m3 tk2 na2 tf2 h2 x2 y2 dd2 sl2 o2 ht2 hq2 kx2 ky2 Dm
  refine (?_ : Ar (Kc g2 g3) _) (fun b o e c => o2 b o e (T.ne e c)); intro kc2
  refine (?_ : Ar _ _) (kc2 _ _ hF lsN); clear hF; intro hF
  refine (?_ : Ar _ _) (isKc IK kc2); clear IK; intro IK
  refine (?_ : Ar _ _) (kxBut X (kx79 _) o2); clear X; intro X
  refine (?_ : Ar _ _) (fun p hp => (hr p hp).kc kc2); clear hr; intro hr
  replace T : T79 g3 := ht2
  refine (?_ : Ar _ _) (hq0.kc kc2); clear hq0; intro hq0
  refine (?_ : Ar _ _) (kx0.kc kc2); clear kx0; intro kx0
  refine (?_ : Ar _ _) (ky0.kc kc2); clear ky0; intro ky0
  refine (?_ : Ar _ _) (hq1.kc kc2); clear hq1; intro hq1
  refine (?_ : Ar _ _) (kx1.kc kc2); clear kx1; intro kx1
  refine (?_ : Ar _ _) (ky1.kc kc2); clear ky1; intro ky1
  refine codeAny_of_tree ?_
  obtain ⟨A1, hA⟩ : ∃ A1, A1 = A.under (cpL 4 "turned" yk L Lc it ac) := ⟨_, rfl⟩
  rw [← hA]
  show wpAny _ A1 ((compTurn (compE 4) 0 (.ref it) (.ref ac) (qenv 4 "turned" yk L Lc)).onRaise _) _ _ _
  refine noE ?_
  refine (?_ : Ar (A1.handled = none) _) (by rw [hA]; exact hh); intro hh1
  clear hA
  repeat walk_at "#3;;PN PI"
  refine wpAny_pyNext_list_end hh1 (of_itO (Mem.at Dm 2 _ _ rfl)) ⟨_, kp_mem Dm _ _ hF, rfl, _, rfl⟩ rfl ?_
  intro h9 eb9
  refine (?_ : Ar _ _) (memErase Dm 2 rfl eb9); clear Dm; intro Dm
  dsimp only [List.eraseIdx] at Dm
  repeat walk_at "#3;;PN PI"
  refine k g3 h9 _ na2 _ h0 h1 h2 x0 y0 x1 y1 x2 y2 (fun b o e n => o2 b o (o1 b o (o0 b o e n) n) n) ht2 ⟨hq0, kx0, ky0, hq1, kx1, ky1, hq2, kx2, ky2⟩ Dm

end Mine
namespace Mine
structure LwD where
  F : Addr
  ac : Addr
  ad : Addr
  pr : Addr
  K1 : Addr
  K2 : Addr
  p0 : Addr
  p1 : Addr
  p2 : Addr
  l0 : Int
  l1 : Int
  l2 : Int
  c0 : Int
  c1 : Int
  c2 : Int
  b0 : Int
  b1 : Int
  b2 : Int
  nF : Nat
  na : Nat
  nd : Nat
  e : Nat → Tok
  a0 : Addr
  a1 : Addr
  a2 : Addr
  x0 : Addr
  x1 : Addr
  x2 : Addr
  y0 : Addr
  y1 : Addr
  y2 : Addr
  d0 : Addr
  d1 : Addr
  d2 : Addr
  u0 : Addr
  u1 : Addr
  u2 : Addr
  v0 : Addr
  v1 : Addr
  v2 : Addr
noncomputable def LwD.on (D : LwD) : List HitD := [⟨D.a0, D.x0, D.y0, D.p0, D.l0, D.c0, D.l0, D.b0⟩, ⟨D.a1, D.x1, D.y1, D.p1, D.l1, D.c1, D.l1, D.b1⟩, ⟨D.a2, D.x2, D.y2, D.p2, D.l2, D.c2, D.l2, D.b2⟩]
noncomputable def LwD.up (D : LwD) : List HitD := [⟨D.d2, D.u2, D.v2, D.p2, D.l2, D.b2, D.l2, D.c2⟩, ⟨D.d1, D.u1, D.v1, D.p1, D.l1, D.b1, D.l1, D.c1⟩, ⟨D.d0, D.u0, D.v0, D.p0, D.l0, D.b0, D.l0, D.c0⟩]
structure Lw (P : Params) (h : Heap) (D : LwD) : Prop where
  X : (KX P).In h
  IK : IsK P h D.K1 (.ref 63)
  JK : IsK P h D.K2 (.ref 70)
  pp : ProgP h D.pr
  qF : h.get? D.F = some (lsO #[.ref D.p0, .ref D.p1, .ref D.p2] D.nF)
  q0 : h.get? D.p0 = some (tup3 D.l0 D.c0 D.b0 (D.e 0) (D.e 1) (D.e 2))
  q1 : h.get? D.p1 = some (tup3 D.l1 D.c1 D.b1 (D.e 3) (D.e 4) (D.e 5))
  q2 : h.get? D.p2 = some (tup3 D.l2 D.c2 D.b2 (D.e 6) (D.e 7) (D.e 8))
  on : RowH h D.ac D.K1 D.on
  up : RowH h D.ad D.K2 D.up
  or3 : Ord3 D.l0 D.l1 D.l2 D.c0 D.c1 D.c2 D.b0 D.b1 D.b2
theorem RowH.kp {h h' : Heap} {l C : Addr} {hs : List HitD} (H : RowH h l C hs) (k : Kp h h') : RowH h' l C hs := by
  obtain ⟨⟨nx, hl⟩, hD⟩ := H
  exact ⟨⟨nx, k _ _ hl⟩, fun d hd => ⟨(hD d hd).1.kp k, (hD d hd).2.1.kp k, (hD d hd).2.2.kp k⟩⟩
theorem rowO {h : Heap} {ac K a0 a1 a2 x0 x1 x2 y0 y1 y2 p0 p1 p2 : Addr} {l0 l1 l2 c0 c1 c2 b0 b1 b2 : Int} {n : Nat} (q : h.get? ac = some (lsO #[.ref a0, .ref a1, .ref a2] n)) (r : R3 h K a0 a1 a2 x0 x1 x2 y0 y1 y2 p0 p1 p2 l0 l1 l2 c0 c1 c2 b0 b1 b2) :
    RowH h ac K [⟨a0, x0, y0, p0, l0, c0, l0, b0⟩, ⟨a1, x1, y1, p1, l1, c1, l1, b1⟩, ⟨a2, x2, y2, p2, l2, c2, l2, b2⟩] := ⟨⟨_, q⟩, by
  intro d hd
  simp only [List.mem_cons, List.not_mem_nil, or_false] at hd
  rcases hd with rfl | rfl | rfl
  · exact ⟨r.h0, r.kx0, r.ky0⟩
  · exact ⟨r.h1, r.kx1, r.ky1⟩
  · exact ⟨r.h2, r.kx2, r.ky2⟩⟩
theorem rowU {h : Heap} {ac K a0 a1 a2 x0 x1 x2 y0 y1 y2 p0 p1 p2 : Addr} {l0 l1 l2 c0 c1 c2 b0 b1 b2 : Int} {n : Nat} (q : h.get? ac = some (lsO #[.ref a0, .ref a1, .ref a2] n)) (r : R3 h K a0 a1 a2 x0 x1 x2 y0 y1 y2 p0 p1 p2 l0 l1 l2 c0 c1 c2 b0 b1 b2) :
    RowH h ac K [⟨a0, x0, y0, p0, l0, c0, l0, b0⟩, ⟨a1, x1, y1, p1, l1, c1, l1, b1⟩, ⟨a2, x2, y2, p2, l2, c2, l2, b2⟩] := rowO q r
theorem Lw.kp {P : Params} {h h' : Heap} {D : LwD} (I : Lw P h D) (k : Kp h h') : Lw P h' D :=
  ⟨I.X.keeps k, isKc I.IK fun b o e _ => k b o e, isKc I.JK fun b o e _ => k b o e, I.pp.kp k, k _ _ I.qF, k _ _ I.q0, k _ _ I.q1, k _ _ I.q2, I.on.kp k, I.up.kp k, I.or3⟩
theorem Lw.hits {P : Params} {h : Heap} {D : LwD} (I : Lw P h D) (l c : Int) : Told (revS ordI l c D.on .none) D.on (slicePick (flt (leB D.l0 D.b0 l c) (leB D.l1 D.b1 l c) (leB D.l2 D.b2 l c) D.p0 D.p1 D.p2) (some (-1)) none none) := lawOn _ _ _ _ _ _ _ _ _ _ _ _ I.or3 l c
theorem Lw.hitsU {P : Params} {h : Heap} {D : LwD} (I : Lw P h D) (l c : Int) : Told (revS (fun a b c d => -ordI a b c d) l c D.up .none) D.up (slicePick (flt (leB l c D.l0 D.c0) (leB l c D.l1 D.c1) (leB l c D.l2 D.c2) D.p0 D.p1 D.p2) none (some 1) none) := lawUp _ _ _ _ _ _ _ _ _ _ _ _ I.or3 l c
theorem Lw.chO {P : Params} {h : Heap} {D : LwD} (I : Lw P h D) : Chain ordI D.on := chOn _ _ _ _ _ _ _ _ _ _ _ _ I.or3
theorem Lw.chU {P : Params} {h : Heap} {D : LwD} (I : Lw P h D) : Chain (fun a b c d => -ordI a b c d) D.up := chUp _ _ _ _ _ _ _ _ _ _ _ _ I.or3
theorem tldU {w : World} {A : Around} {E : Value → Shared → Prop} {h : Heap} {g : Array GenState} {d : Drawn} {t : Nat} {os : OsState} {Q : Value → Shared → Prop} (hh : A.handled = none) (hd : A.depth ≤ 700) (hu : A.units ≤ 8000) (X : (KX w.params).In h) {v : Value} {hs : List HitD} {xs : Array Value} {l C : Addr} (T : Told v hs xs) (R : RowH h l C hs)
    (k : ∀ a h' tk, Kp h h' → h'.get? a = some (lsO xs 0) → Q (.ref a) ⟨h', g, d, tk, os⟩) : wpAny (MM w) A (PySem.call (.ref 98) [v] []) Q E ⟨h, g, d, t, os⟩ := by
  rcases T with ⟨rfl, rfl⟩ | ⟨q, hq, rfl, rfl⟩
  · exact tld0 hh hd hu X k
  · exact tld1 hh hd hu X (R.2 q hq).1 k
noncomputable def plC (it : Addr) (env : Env) : Code := match (fbody 15)[(6 : Nat)]? with | some (.For t _ b o _) => .forLoop t (.ref it) b o env | _ => .forLoop (.Name Str.empty ⟨0, 0, 0, 0⟩) (.ref it) [] [] env
noncomputable def cpF (j : Nat) : Expr := match (fbody 15)[(6 : Nat)]? with | some (.For _ _ b _ _) => (match b[j]? with | some (.If (.Compare _ _ (.Subscript e _ _ :: _) _) _ _ _) => e | _ => .Name Str.empty ⟨0, 0, 0, 0⟩) | _ => .Name Str.empty ⟨0, 0, 0, 0⟩

end Mine
namespace Mine
variable {w : World} {A : Around} {Q : Value → Shared → Prop} {E : Value → Shared → Prop}
set_option tactic.hygienic false
noncomputable def gsc : Scope := match cpF 2 with | .ListComp _ _ s _ => celled s | _ => default
noncomputable def genv (yl yc L Lc : Addr) : Env := { scope := gsc, locals := Lc, globals := mainGlobals, cells := [(Str.ofString "line", yl), (Str.ofString "col", yc)], qual := Str.ofString ("law" ++ ".<locals>."), func := none, code := .ref 102, frame := some L, builtins := builtinsNs }
noncomputable def cgS (j : Nat) (yl yc L Lf it fc : Addr) : Code := .compStart (cpF j) 0 (.ref it) (.ref fc) (genv yl yc L Lf)
noncomputable def cgL (j : Nat) (yl yc L Lf it fc : Addr) : Code := .compLoop (cpF j) 0 (.ref it) (.ref fc) (genv yl yc L Lf)
theorem fltA (hh : A.handled = none) (hd : A.depth ≤ 430) (hu : A.units ≤ 3300) (hb h : Heap) (g : Array GenState) (d : Drawn) (t : Nat) (os : OsState) {R' : Result → Shared → Prop} (X : (KX w.params).In hb)
  (yl yc L Lf it fc F : Addr) (fs : Array Value) (nF i : Nat) (p : Addr) (fl fc' fb l c : Int) (u1 u2 u3 s0 s1 : Tok) (hF : hb.get? F = some (lsO fs nF)) (hj : fs[i]? = some (.ref p)) (hp : hb.get? p = some (tup3 fl fc' fb u1 u2 u3))
  (acs : Array Value) (hac : acs.size ≤ 9) (na : Nat) (es : Array DictEntry) (n : Nat) (rest : List (Addr × Obj)) (hyc : (yc, celO (some (.int c s1))) ∈ rest) (hyl : (yl, celO (some (.int l s0))) ∈ rest) (dd : Option Addr) (sl : Array (Option Value))
  {t6 : Nat → Tok} (a1 : aRefKeyMayBeTheName (Str.ofString "find") es = false)
  (a2 : ∀ tk v, Obj.putName (Str.ofString "find") (PyData.keyHash w.params (Str.ofString "find")) (.str (Str.ofString "find") tk) v (dcO es n) = dcO #[en w.params "find" (t6 tk) v] 1)
  (Dm : Mem hb h [] ((Lf, dcO es n) :: (fc, lsO acs na) :: (it, itO F i dd sl) :: rest))
  (k : ∀ h' tk na' tf dd' sl', Mem hb h' [] ((Lf, dcO #[en w.params "find" tf (.ref p)] 1) :: (fc, lsO (pif (leB fl fb l c) acs p) na') :: (it, itO F (i + 1) dd' sl') :: rest) → codeAny (MM w) A (cgL 2 yl yc L Lf it fc) R' ⟨h', g, d, tk, os⟩) :
  codeAny (MM w) A (cgL 2 yl yc L Lf it fc) R' ⟨h, g, d, t, os⟩ := by
  refine codeAny_of_tree ?_
  obtain ⟨A1, hA⟩ : ∃ A1, A1 = A.under (cgL 2 yl yc L Lf it fc) := ⟨_, rfl⟩
  rw [← hA]
  show wpAny _ A1 ((compTurn (cpF 2) 0 (.ref it) (.ref fc) (genv yl yc L Lf)).onRaise _) _ _ _
  refine noE ?_
  refine (?_ : Ar (A1.handled = none) _) (by rw [hA]; exact hh); intro hh1
  refine (?_ : Ar (A1.depth ≤ 440) _) (by rw [hA]; first | (show A.depth + 0 ≤ 440; exact lbk 0 hd rfl) | (show A.depth + 1 ≤ 440; exact lbk 1 hd rfl)); intro hd1
  refine (?_ : Ar (A1.units ≤ 3400) _) (by rw [hA]; first | (show A.units + 0 ≤ 3400; exact lbk 0 hu rfl) | (show A.units + 1 ≤ 3400; exact lbk 1 hu rfl) | (show A.units + 2 ≤ 3400; exact lbk 2 hu rfl)); intro hu1
  refine (?_ : Ar (A1.units < cLine) _) (Nat.lt_of_le_of_lt hu1 (by decide)); intro hroom
  clear hA
  repeat walk_at "#5;tlG3;Set Get CO PN PI GI"
  refine wpAny_pyNext_list_item (of_itO (Mem.at Dm 2 _ _ rfl)) ⟨_, kp_mem Dm _ _ hF, rfl, _, rfl⟩ hj ?_
  intro h1 hit1 sb1
  obtain ⟨dd1, sl1, hit2⟩ := itO_of hit1
  refine (?_ : Ar _ _) (memSet Dm 2 rfl sb1.extBut hit2); clear Dm; intro Dm
  dsimp only [List.set] at Dm
  clear hit1 sb1 hit2
  repeat walk_at "#5;tlG3;Set Get CO PN PI GI"
  refine nsSetB rfl Dm 0 rfl a1 ((?_ : Au _ _ _ _ _ _ _) _ (nsPutD (o' := fun tk => dcO #[en w.params "find" (t6 tk) (.ref p)] 1) Dm 0 rfl (fun tk => a2 tk _) (fun _ => rfl)))
  clear Dm; intro h2 Dm; dsimp only [List.set] at Dm
  repeat walk_at "#5;tlG3;Set Get CO PN PI GI"
  refine nsGetM (r := some (.ref p)) Dm 0 rfl (by kernel_rfl!) ?_
  repeat walk_at "#5;tlG3;Set Get CO PN PI GI"
  refine getItem_tuple (j := 0) (x := .int fl u1) ⟨_, kp_mem Dm _ _ hp, rfl, _, rfl⟩ (by decide) (by decide) rfl rfl ?_
  repeat walk_at "#5;tlG3;Set Get CO PN PI GI"
  refine nsGetM (r := some (.ref p)) Dm 0 rfl (by kernel_rfl!) ?_
  repeat walk_at "#5;tlG3;Set Get CO PN PI GI"
  refine getItem_tuple (j := 2) (x := .int fb u3) ⟨_, kp_mem Dm _ _ hp, rfl, _, rfl⟩ (by decide) (by decide) rfl rfl ?_
  repeat walk_at "#5;tlG3;Set Get CO PN PI GI"
  refine allocB ((?_ : Aa _ _ _ _ _ _ (tup fl fb u1 u3) _) _ _ (Mem.alloc Dm rfl))
  clear Dm; intro y1 h3 Dm
  repeat walk_at "#5;tlG3;Set Get CO PN PI GI"
  refine wpAny_load (Dm.nw _ (.tail _ (.tail _ (.tail _ (.tail _ hyl))))).1 ?_
  repeat walk_at "#5;tlG3;Set Get CO PN PI GI"
  refine wpAny_load (Dm.nw _ (.tail _ (.tail _ (.tail _ (.tail _ hyc))))).1 ?_
  repeat walk_at "#5;tlG3;Set Get CO PN PI GI"
  refine allocB ((?_ : Aa _ _ _ _ _ _ (tup l c s0 s1) _) _ _ (Mem.alloc Dm rfl))
  clear Dm; intro y2 h4 Dm
  repeat walk_at "#5;tlG3;Set Get CO PN PI GI"
  refine leTup hh1 (by first | (refine lb (by assumption) ?_; rfl) | omega) (by first | (refine lb (by assumption) ?_; rfl) | omega) (X.keeps (kp_mem Dm)) (Mem.at Dm 1 _ _ rfl) (Mem.at Dm 0 _ _ rfl) ?_
  intro h5 tk5 kp5
  refine (?_ : Ar _ _) (memForget (memForget (memKp Dm kp5) 0) 0); clear Dm; intro Dm
  dsimp only [List.eraseIdx] at Dm
  clear kp5
  obtain ⟨q, hq⟩ : ∃ q, q = leB fl fb l c := ⟨_, rfl⟩
  rw [← hq] at k ⊢
  cases q
  · repeat walk_at "#5;tlG3;Set Get CO PN PI GI"
    exact ⟨rfl, k _ _ _ _ _ _ Dm⟩
  · repeat walk_at "#5;tlG3;Set Get CO PN PI GI"
    refine nsGetM (r := some (.ref p)) Dm 0 rfl (by kernel_rfl!) ?_
    repeat walk_at "#5;tlG3;Set Get CO PN PI GI"
    refine appendM Dm 1 rfl (Nat.le_trans hac (by decide)) ?_
    clear Dm; intro h6 n6 Dm; dsimp only [List.set] at Dm
    repeat walk_at "#5;tlG3;Set Get CO PN PI GI"
    exact ⟨rfl, k _ _ _ _ _ _ Dm⟩
theorem fltB (hh : A.handled = none) (hd : A.depth ≤ 430) (hu : A.units ≤ 3300) (hb h : Heap) (g : Array GenState) (d : Drawn) (t : Nat) (os : OsState) {R' : Result → Shared → Prop} (X : (KX w.params).In hb)
  (yl yc L Lf it fc F : Addr) (fs : Array Value) (nF i : Nat) (p : Addr) (fl fc' fb l c : Int) (u1 u2 u3 s0 s1 : Tok) (hF : hb.get? F = some (lsO fs nF)) (hj : fs[i]? = some (.ref p)) (hp : hb.get? p = some (tup3 fl fc' fb u1 u2 u3))
  (acs : Array Value) (hac : acs.size ≤ 9) (na : Nat) (es : Array DictEntry) (n : Nat) (rest : List (Addr × Obj)) (hyc : (yc, celO (some (.int c s1))) ∈ rest) (hyl : (yl, celO (some (.int l s0))) ∈ rest) (dd : Option Addr) (sl : Array (Option Value))
  {t6 : Nat → Tok} (a1 : aRefKeyMayBeTheName (Str.ofString "find") es = false)
  (a2 : ∀ tk v, Obj.putName (Str.ofString "find") (PyData.keyHash w.params (Str.ofString "find")) (.str (Str.ofString "find") tk) v (dcO es n) = dcO #[en w.params "find" (t6 tk) v] 1)
  (Dm : Mem hb h [] ((Lf, dcO es n) :: (fc, lsO acs na) :: (it, itO F i dd sl) :: rest))
  (k : ∀ h' tk na' tf dd' sl', Mem hb h' [] ((Lf, dcO #[en w.params "find" tf (.ref p)] 1) :: (fc, lsO (pif (leB l c fl fc') acs p) na') :: (it, itO F (i + 1) dd' sl') :: rest) → codeAny (MM w) A (cgL 3 yl yc L Lf it fc) R' ⟨h', g, d, tk, os⟩) :
  codeAny (MM w) A (cgL 3 yl yc L Lf it fc) R' ⟨h, g, d, t, os⟩ := by
  refine codeAny_of_tree ?_
  obtain ⟨A1, hA⟩ : ∃ A1, A1 = A.under (cgL 3 yl yc L Lf it fc) := ⟨_, rfl⟩
  rw [← hA]
  show wpAny _ A1 ((compTurn (cpF 3) 0 (.ref it) (.ref fc) (genv yl yc L Lf)).onRaise _) _ _ _
  refine noE ?_
  refine (?_ : Ar (A1.handled = none) _) (by rw [hA]; exact hh); intro hh1
  refine (?_ : Ar (A1.depth ≤ 440) _) (by rw [hA]; first | (show A.depth + 0 ≤ 440; exact lbk 0 hd rfl) | (show A.depth + 1 ≤ 440; exact lbk 1 hd rfl)); intro hd1
  refine (?_ : Ar (A1.units ≤ 3400) _) (by rw [hA]; first | (show A.units + 0 ≤ 3400; exact lbk 0 hu rfl) | (show A.units + 1 ≤ 3400; exact lbk 1 hu rfl) | (show A.units + 2 ≤ 3400; exact lbk 2 hu rfl)); intro hu1
  refine (?_ : Ar (A1.units < cLine) _) (Nat.lt_of_le_of_lt hu1 (by decide)); intro hroom
  clear hA
  repeat walk_at "#5;tlG3;Set Get CO PN PI GI"
  refine wpAny_pyNext_list_item (of_itO (Mem.at Dm 2 _ _ rfl)) ⟨_, kp_mem Dm _ _ hF, rfl, _, rfl⟩ hj ?_
  intro h1 hit1 sb1
  obtain ⟨dd1, sl1, hit2⟩ := itO_of hit1
  refine (?_ : Ar _ _) (memSet Dm 2 rfl sb1.extBut hit2); clear Dm; intro Dm
  dsimp only [List.set] at Dm
  clear hit1 sb1 hit2
  repeat walk_at "#5;tlG3;Set Get CO PN PI GI"
  refine nsSetB rfl Dm 0 rfl a1 ((?_ : Au _ _ _ _ _ _ _) _ (nsPutD (o' := fun tk => dcO #[en w.params "find" (t6 tk) (.ref p)] 1) Dm 0 rfl (fun tk => a2 tk _) (fun _ => rfl)))
  clear Dm; intro h2 Dm; dsimp only [List.set] at Dm
  repeat walk_at "#5;tlG3;Set Get CO PN PI GI"
  refine nsGetM (r := some (.ref p)) Dm 0 rfl (by kernel_rfl!) ?_
  repeat walk_at "#5;tlG3;Set Get CO PN PI GI"
  refine getItem_tuple (j := 0) (x := .int fl u1) ⟨_, kp_mem Dm _ _ hp, rfl, _, rfl⟩ (by decide) (by decide) rfl rfl ?_
  repeat walk_at "#5;tlG3;Set Get CO PN PI GI"
  refine nsGetM (r := some (.ref p)) Dm 0 rfl (by kernel_rfl!) ?_
  repeat walk_at "#5;tlG3;Set Get CO PN PI GI"
  refine getItem_tuple (j := 1) (x := .int fc' u2) ⟨_, kp_mem Dm _ _ hp, rfl, _, rfl⟩ (by decide) (by decide) rfl rfl ?_
  repeat walk_at "#5;tlG3;Set Get CO PN PI GI"
  refine allocB ((?_ : Aa _ _ _ _ _ _ (tup fl fc' u1 u2) _) _ _ (Mem.alloc Dm rfl))
  clear Dm; intro y1 h3 Dm
  repeat walk_at "#5;tlG3;Set Get CO PN PI GI"
  refine wpAny_load (Dm.nw _ (.tail _ (.tail _ (.tail _ (.tail _ hyl))))).1 ?_
  repeat walk_at "#5;tlG3;Set Get CO PN PI GI"
  refine wpAny_load (Dm.nw _ (.tail _ (.tail _ (.tail _ (.tail _ hyc))))).1 ?_
  repeat walk_at "#5;tlG3;Set Get CO PN PI GI"
  refine allocB ((?_ : Aa _ _ _ _ _ _ (tup l c s0 s1) _) _ _ (Mem.alloc Dm rfl))
  clear Dm; intro y2 h4 Dm
  repeat walk_at "#5;tlG3;Set Get CO PN PI GI"
  refine geTup hh1 (by first | (refine lb (by assumption) ?_; rfl) | omega) (by first | (refine lb (by assumption) ?_; rfl) | omega) (X.keeps (kp_mem Dm)) (Mem.at Dm 1 _ _ rfl) (Mem.at Dm 0 _ _ rfl) ?_
  intro h5 tk5 kp5
  refine (?_ : Ar _ _) (memForget (memForget (memKp Dm kp5) 0) 0); clear Dm; intro Dm
  dsimp only [List.eraseIdx] at Dm
  clear kp5
  obtain ⟨q, hq⟩ : ∃ q, q = leB l c fl fc' := ⟨_, rfl⟩
  rw [← hq] at k ⊢
  cases q
  · repeat walk_at "#5;tlG3;Set Get CO PN PI GI"
    exact ⟨rfl, k _ _ _ _ _ _ Dm⟩
  · repeat walk_at "#5;tlG3;Set Get CO PN PI GI"
    refine nsGetM (r := some (.ref p)) Dm 0 rfl (by kernel_rfl!) ?_
    repeat walk_at "#5;tlG3;Set Get CO PN PI GI"
    refine appendM Dm 1 rfl (Nat.le_trans hac (by decide)) ?_
    clear Dm; intro h6 n6 Dm; dsimp only [List.set] at Dm
    repeat walk_at "#5;tlG3;Set Get CO PN PI GI"
    exact ⟨rfl, k _ _ _ _ _ _ Dm⟩
theorem pifs {b : Bool} {a : Array Value} {v : Addr} {n : Nat} (h : a.size ≤ n) : (pif b a v).size ≤ n + 1 := by
  unfold pif; split
  · rw [Array.size_push]; omega
  · omega
theorem fltOn (hh : A.handled = none) (hd : A.depth ≤ 430) (hu : A.units ≤ 3300) (hb h : Heap) (g : Array GenState) (d : Drawn) (t : Nat) (os : OsState) {R' : Result → Shared → Prop} {D : LwD} (I : Lw w.params hb D)
  (yl yc L Lf it fc : Addr) (l c : Int) (s0 s1 : Tok) (rest : List (Addr × Obj)) (hyc : (yc, celO (some (.int c s1))) ∈ rest) (hyl : (yl, celO (some (.int l s0))) ∈ rest)
  (Dm : Mem hb h [] ((Lf, dcO #[] 0) :: (fc, lsO #[] 0) :: (it, itO D.F 0 none #[]) :: rest))
  (k : ∀ h' tk na tf, Mem hb h' [] ((Lf, dcO #[en w.params "find" tf (.ref D.p2)] 1) :: (fc, lsO (flt (leB D.l0 D.b0 l c) (leB D.l1 D.b1 l c) (leB D.l2 D.b2 l c) D.p0 D.p1 D.p2) na) :: rest) → R' (.ok .next) ⟨h', g, d, tk, os⟩) :
  codeAny (MM w) A (cgS 2 yl yc L Lf it fc) R' ⟨h, g, d, t, os⟩ := by
  refine (?_ : Ar _ _) (I.qF); intro hF
  refine (?_ : Ar (codeAny (MM w) A (cgL 2 yl yc L Lf it fc) R' ⟨h, g, d, t, os⟩) _) (?_); intro fin
  · refine codeAny_of_tree ?_
    obtain ⟨A1, hA⟩ : ∃ A1, A1 = A.under (cgS 2 yl yc L Lf it fc) := ⟨_, rfl⟩
    rw [← hA]
    show wpAny _ A1 ((compStart (cpF 2) 0 (.ref it) (.ref fc) (genv yl yc L Lf)).onRaise _) _ _ _
    refine noE ?_
    clear hA
    repeat walk_at "#5;tlG3;Set Get CO PN PI GI"
    split
    · repeat walk_at "#5;tlG3;Set Get CO PN PI GI"
      exact ⟨rfl, fin⟩
    · repeat walk_at "#5;tlG3;Set Get CO PN PI GI"
      refine wpAny_pyIter_listiter (of_itO (Mem.at Dm 2 _ _ rfl)) ?_
      repeat walk_at "#5;tlG3;Set Get CO PN PI GI"
      exact ⟨rfl, fin⟩
  refine fltA hh hd hu hb _ g d _ os I.X yl yc L Lf it fc D.F _ _ 0 D.p0 D.l0 D.c0 D.b0 l c _ _ _ s0 s1 hF rfl I.q0 _ (Nat.le_of_ble_eq_true rfl) _ _ _ rest hyc hyl _ _ (t6 := fun tk => tk) (by kernel_rfl!) (by intro tk v; kernel_rfl!) Dm ?_
  clear Dm; intro m1 tk0 na0 tf0 dd0 sl0 Dm
  refine fltA hh hd hu hb _ g d _ os I.X yl yc L Lf it fc D.F _ _ 1 D.p1 D.l1 D.c1 D.b1 l c _ _ _ s0 s1 hF rfl I.q1 _ (Nat.le_trans (pifs (n := 0) (Nat.le_of_ble_eq_true rfl)) (by decide)) _ _ _ rest hyc hyl _ _ (t6 := fun _ => tf0) (by kernel_rfl!) (by intro tk v; kernel_rfl!) Dm ?_
  clear Dm; intro m2 tk1 na1 tf1 dd1 sl1 Dm
  refine fltA hh hd hu hb _ g d _ os I.X yl yc L Lf it fc D.F _ _ 2 D.p2 D.l2 D.c2 D.b2 l c _ _ _ s0 s1 hF rfl I.q2 _ (Nat.le_trans (pifs (n := 1) (pifs (n := 0) (Nat.le_of_ble_eq_true rfl))) (by decide)) _ _ _ rest hyc hyl _ _ (t6 := fun _ => tf1) (by kernel_rfl!) (by intro tk v; kernel_rfl!) Dm ?_
  clear Dm; intro m3 tk2 na2 tf2 dd2 sl2 Dm
  refine codeAny_of_tree ?_
  obtain ⟨A1, hA⟩ : ∃ A1, A1 = A.under (cgL 2 yl yc L Lf it fc) := ⟨_, rfl⟩
  rw [← hA]
  show wpAny _ A1 ((compTurn (cpF 2) 0 (.ref it) (.ref fc) (genv yl yc L Lf)).onRaise _) _ _ _
  refine noE ?_
  refine (?_ : Ar (A1.handled = none) _) (by rw [hA]; exact hh); intro hh1
  clear hA
  repeat walk_at "#5;tlG3;Set Get CO PN PI GI"
  refine wpAny_pyNext_list_end hh1 (of_itO (Mem.at Dm 2 _ _ rfl)) ⟨_, kp_mem Dm _ _ hF, rfl, _, rfl⟩ rfl ?_
  intro h9 eb9
  refine (?_ : Ar _ _) (memErase Dm 2 rfl eb9); clear Dm; intro Dm
  dsimp only [List.eraseIdx] at Dm
  repeat walk_at "#5;tlG3;Set Get CO PN PI GI"
  exact k h9 _ na2 _ Dm
theorem fltUp (hh : A.handled = none) (hd : A.depth ≤ 430) (hu : A.units ≤ 3300) (hb h : Heap) (g : Array GenState) (d : Drawn) (t : Nat) (os : OsState) {R' : Result → Shared → Prop} {D : LwD} (I : Lw w.params hb D)
  (yl yc L Lf it fc : Addr) (l c : Int) (s0 s1 : Tok) (rest : List (Addr × Obj)) (hyc : (yc, celO (some (.int c s1))) ∈ rest) (hyl : (yl, celO (some (.int l s0))) ∈ rest)
  (Dm : Mem hb h [] ((Lf, dcO #[] 0) :: (fc, lsO #[] 0) :: (it, itO D.F 0 none #[]) :: rest))
  (k : ∀ h' tk na tf, Mem hb h' [] ((Lf, dcO #[en w.params "find" tf (.ref D.p2)] 1) :: (fc, lsO (flt (leB l c D.l0 D.c0) (leB l c D.l1 D.c1) (leB l c D.l2 D.c2) D.p0 D.p1 D.p2) na) :: rest) → R' (.ok .next) ⟨h', g, d, tk, os⟩) :
  codeAny (MM w) A (cgS 3 yl yc L Lf it fc) R' ⟨h, g, d, t, os⟩ := by
  refine (?_ : Ar _ _) (I.qF); intro hF
  refine (?_ : Ar (codeAny (MM w) A (cgL 3 yl yc L Lf it fc) R' ⟨h, g, d, t, os⟩) _) (?_); intro fin
  · refine codeAny_of_tree ?_
    obtain ⟨A1, hA⟩ : ∃ A1, A1 = A.under (cgS 3 yl yc L Lf it fc) := ⟨_, rfl⟩
    rw [← hA]
    show wpAny _ A1 ((compStart (cpF 3) 0 (.ref it) (.ref fc) (genv yl yc L Lf)).onRaise _) _ _ _
    refine noE ?_
    clear hA
    repeat walk_at "#5;tlG3;Set Get CO PN PI GI"
    split
    · repeat walk_at "#5;tlG3;Set Get CO PN PI GI"
      exact ⟨rfl, fin⟩
    · repeat walk_at "#5;tlG3;Set Get CO PN PI GI"
      refine wpAny_pyIter_listiter (of_itO (Mem.at Dm 2 _ _ rfl)) ?_
      repeat walk_at "#5;tlG3;Set Get CO PN PI GI"
      exact ⟨rfl, fin⟩
  refine fltB hh hd hu hb _ g d _ os I.X yl yc L Lf it fc D.F _ _ 0 D.p0 D.l0 D.c0 D.b0 l c _ _ _ s0 s1 hF rfl I.q0 _ (Nat.le_of_ble_eq_true rfl) _ _ _ rest hyc hyl _ _ (t6 := fun tk => tk) (by kernel_rfl!) (by intro tk v; kernel_rfl!) Dm ?_
  clear Dm; intro m1 tk0 na0 tf0 dd0 sl0 Dm
  refine fltB hh hd hu hb _ g d _ os I.X yl yc L Lf it fc D.F _ _ 1 D.p1 D.l1 D.c1 D.b1 l c _ _ _ s0 s1 hF rfl I.q1 _ (Nat.le_trans (pifs (n := 0) (Nat.le_of_ble_eq_true rfl)) (by decide)) _ _ _ rest hyc hyl _ _ (t6 := fun _ => tf0) (by kernel_rfl!) (by intro tk v; kernel_rfl!) Dm ?_
  clear Dm; intro m2 tk1 na1 tf1 dd1 sl1 Dm
  refine fltB hh hd hu hb _ g d _ os I.X yl yc L Lf it fc D.F _ _ 2 D.p2 D.l2 D.c2 D.b2 l c _ _ _ s0 s1 hF rfl I.q2 _ (Nat.le_trans (pifs (n := 1) (pifs (n := 0) (Nat.le_of_ble_eq_true rfl))) (by decide)) _ _ _ rest hyc hyl _ _ (t6 := fun _ => tf1) (by kernel_rfl!) (by intro tk v; kernel_rfl!) Dm ?_
  clear Dm; intro m3 tk2 na2 tf2 dd2 sl2 Dm
  refine codeAny_of_tree ?_
  obtain ⟨A1, hA⟩ : ∃ A1, A1 = A.under (cgL 3 yl yc L Lf it fc) := ⟨_, rfl⟩
  rw [← hA]
  show wpAny _ A1 ((compTurn (cpF 3) 0 (.ref it) (.ref fc) (genv yl yc L Lf)).onRaise _) _ _ _
  refine noE ?_
  refine (?_ : Ar (A1.handled = none) _) (by rw [hA]; exact hh); intro hh1
  clear hA
  repeat walk_at "#5;tlG3;Set Get CO PN PI GI"
  refine wpAny_pyNext_list_end hh1 (of_itO (Mem.at Dm 2 _ _ rfl)) ⟨_, kp_mem Dm _ _ hF, rfl, _, rfl⟩ rfl ?_
  intro h9 eb9
  refine (?_ : Ar _ _) (memErase Dm 2 rfl eb9); clear Dm; intro Dm
  dsimp only [List.eraseIdx] at Dm
  repeat walk_at "#5;tlG3;Set Get CO PN PI GI"
  exact k h9 _ na2 _ Dm

end Mine
namespace Mine
variable {w : World} {A : Around} {Q : Value → Shared → Prop} {E : Value → Shared → Prop}
set_option tactic.hygienic false
noncomputable def fvC (it : Addr) (env : Env) : Code := match (fbody 15)[(7 : Nat)]? with | some (.For t _ b o _) => .forLoop t (.ref it) b o env | _ => .forLoop (.Name Str.empty ⟨0, 0, 0, 0⟩) (.ref it) [] [] env
theorem fvT (hh : A.handled = none) (hd : A.depth ≤ 400) (hu : A.units ≤ 3000) (hb h : Heap) (g : Array GenState) (d : Drawn) (t : Nat) (os : OsState) {R' : Result → Shared → Prop} (X : (KX w.params).In hb)
  (fa : Addr) (ffd : FuncData) (R : Int → Int → Int → Int → Int) (hcmp : CmpC w (.ref fa) R) (K : Addr) (IK : IsK w.params hb K (.ref fa)) (hfa : hb.get? fa = some ⟨.type "function", none, .func ffd, #[]⟩)
  (yk yt yl yc L it P : Addr) (ps : Array Value) (nP j : Nat) (hP : hb.get? P = some (lsO ps nP)) (hit x y z : Addr) (la ca lb cb : Int) (hj : ps[j]? = some (.ref hit)) (H : HitP hb hit x y z) (kx : Key hb K x la ca) (ky : Key hb K y lb cb)
  (e1 : fiv (R la ca lb cb) = #[.bool true, .bool true, .bool false, .bool false, .bool false]) (e2 : fiv (R lb cb la ca) = #[.bool false, .bool false, .bool false, .bool true, .bool true])
  (es : Array DictEntry) (n : Nat) (dd : Option Addr) (sl : Array (Option Value)) (m1 m2 m3 m4 : Option Value) (v1 v2 v3 v4 v5 v6 : Value) (t1 t2 t3 t4 t5 t6 : Tok)
  {es1 : Tok → Array DictEntry} {es2 : Tok → Tok → Array DictEntry} {n1 n2 : Nat} {ta tb tc : Tok → Tok → Tok → Tok} (a1 : aRefKeyMayBeTheName (Str.ofString "hit") es = false) (a2 : ∀ tk, aRefKeyMayBeTheName (Str.ofString "begin") (es1 tk) = false) (a3 : ∀ tk tk', aRefKeyMayBeTheName (Str.ofString "end") (es2 tk tk') = false)
  (b1 : ∀ tk, Obj.putName (Str.ofString "hit") (PyData.keyHash w.params (Str.ofString "hit")) (.str (Str.ofString "hit") tk) (.ref hit) (frO es n) = frO (es1 tk) n1)
  (b2 : ∀ tk tk', Obj.putName (Str.ofString "begin") (PyData.keyHash w.params (Str.ofString "begin")) (.str (Str.ofString "begin") tk') (.ref x) (frO (es1 tk) n1) = frO (es2 tk tk') n2)
  (b3 : ∀ tk tk' tk'', Obj.putName (Str.ofString "end") (PyData.keyHash w.params (Str.ofString "end")) (.str (Str.ofString "end") tk'') (.ref y) (frO (es2 tk tk') n2) = frO #[en w.params "script" t1 v1, en w.params "finds" t2 v2, en w.params "onward" t3 v3, en w.params "upward" t4 v4, en w.params "prog" t5 v5, en w.params "here" t6 v6, en w.params "hit" (ta tk tk' tk'') (.ref hit), en w.params "begin" (tb tk tk' tk'') (.ref x), en w.params "end" (tc tk tk' tk'') (.ref y)] 9)
  (c1 : ∀ tk, nsLook (Str.ofString "hit") (frO (es1 tk) n1) = pure (some (.ref hit)))
  (Dm : Mem hb h [] [(it, itO P j dd sl), (yc, celO m1), (yl, celO m2), (yt, celO m3), (yk, celO m4), (L, frO es n)])
  (k : ∀ hb' h' tk dd' sl' ua ub uc, Kp hb hb' → Mem hb' h' [] [(it, itO P (j + 1) dd' sl'), (yc, celO m1), (yl, celO m2), (yt, celO m3), (yk, celO m4), (L, frO #[en w.params "script" t1 v1, en w.params "finds" t2 v2, en w.params "onward" t3 v3, en w.params "upward" t4 v4, en w.params "prog" t5 v5, en w.params "here" t6 v6, en w.params "hit" ua (.ref hit), en w.params "begin" ub (.ref x), en w.params "end" uc (.ref y)] 9)] → codeAny (MM w) A (fvC it (lenv yk yt yl yc L)) R' ⟨h', g, d, tk, os⟩) :
  codeAny (MM w) A (fvC it (lenv yk yt yl yc L)) R' ⟨h, g, d, t, os⟩ := by
  refine (?_ : Ar _ _) (k3 X); intro f3
  refine (?_ : Ar _ _) (kf77 X); intro f77
  refine codeAny_of_tree ?_
  obtain ⟨A1, hA⟩ : ∃ A1, A1 = A.under (fvC it (lenv yk yt yl yc L)) := ⟨_, rfl⟩
  rw [← hA]
  show wpAny _ _ ((forTurn _ _ _ _ _).onRaise _) _ _ _
  refine noE ?_
  refine (?_ : Ar (A1.handled = none) _) (by rw [hA]; exact hh); intro hh1
  refine (?_ : Ar (A1.depth ≤ 420) _) (by rw [hA]; first | (show A.depth + 0 ≤ 420; exact lbk 0 hd rfl) | (show A.depth + 1 ≤ 420; exact lbk 1 hd rfl)); intro hd1
  refine (?_ : Ar (A1.units ≤ 3200) _) (by rw [hA]; first | (show A.units + 0 ≤ 3200; exact lbk 0 hu rfl) | (show A.units + 1 ≤ 3200; exact lbk 1 hu rfl) | (show A.units + 2 ≤ 3200; exact lbk 2 hu rfl)); intro hu1
  refine (?_ : Ar (A1.units < cLine) _) (Nat.lt_of_le_of_lt hu1 (by decide)); intro hroom
  clear hA
  repeat walk_at "#7;;Set Get CO PN UI GM"
  refine wpAny_pyNext_list_item (of_itO (Mem.at Dm 0 _ _ rfl)) ⟨_, kp_mem Dm _ _ hP, rfl, _, rfl⟩ hj ?_
  intro h1 hit1 sb1
  obtain ⟨dd1, sl1, hit2⟩ := itO_of hit1
  refine (?_ : Ar _ _) (memSet Dm 0 rfl sb1.extBut hit2); clear Dm; intro Dm
  dsimp only [List.set] at Dm
  clear hit1 sb1 hit2
  repeat walk_at "#7;;Set Get CO PN UI GM"
  refine nsSetB rfl Dm 5 rfl a1 ((?_ : Au _ _ _ _ _ _ _) _ (nsPutD (o' := fun tk => frO (es1 tk) n1) Dm 5 rfl b1 (fun _ => rfl)))
  clear Dm; intro h2 Dm; dsimp only [List.set] at Dm
  repeat walk_at "#7;;Set Get CO PN UI GM"
  refine nsGetM (r := some (.ref hit)) Dm 5 rfl (c1 _) ?_
  repeat walk_at "#7;;Set Get CO PN UI GM"
  refine gmSpan hh1 (by first | (refine lb (by assumption) ?_; rfl) | omega) (by first | (refine lb (by assumption) ?_; rfl) | omega) (X.keeps (kp_mem Dm)) (H.kp (kp_mem Dm)) ?_
  intro sp8 h8 tk8 kp8 hsp
  refine (?_ : Ar _ _) (memKp Dm kp8); clear Dm; intro Dm
  obtain ⟨_, z1⟩ := hsp.f
  repeat walk_at "#7;;Set Get CO PN UI GM"
  refine wpAny_load z1 ?_
  repeat walk_at "#7;;Set Get CO PN UI GM"
  refine spanC hh1 (by first | (refine lb (by assumption) ?_; rfl) | omega) (by first | (refine lb (by assumption) ?_; rfl) | omega) (X.keeps (kp_mem Dm)) hsp ?_
  intro tp h9 tk9 kp9 htp
  refine (?_ : Ar _ _) (memKp Dm kp9); clear Dm; intro Dm
  try dsimp only at htp
  try dsimp -zeta only
  repeat walk_at "#7;;Set Get CO PN UI GM"
  refine unpK hh1 htp rfl ?_
  intro h10 kp10
  refine (?_ : Ar _ _) (memKp Dm kp10); clear Dm; intro Dm
  clear z1 hsp htp kp8 kp9 kp10
  repeat walk_at "#7;;Set Get CO PN UI GM"
  refine nsSetB rfl Dm 5 rfl (a2 _) ((?_ : Au _ _ _ _ _ _ _) _ (nsPutD (o' := fun tk => frO (es2 _ tk) n2) Dm 5 rfl (b2 _) (fun _ => rfl)))
  clear Dm; intro h11 Dm; dsimp only [List.set] at Dm
  repeat walk_at "#7;;Set Get CO PN UI GM"
  refine nsSetB rfl Dm 5 rfl (a3 _ _) ((?_ : Au _ _ _ _ _ _ _) _ (nsPutD (o' := fun tk => frO #[en w.params "script" t1 v1, en w.params "finds" t2 v2, en w.params "onward" t3 v3, en w.params "upward" t4 v4, en w.params "prog" t5 v5, en w.params "here" t6 v6, en w.params "hit" (ta _ _ tk) (.ref hit), en w.params "begin" (tb _ _ tk) (.ref x), en w.params "end" (tc _ _ tk) (.ref y)] 9) Dm 5 rfl (b3 _ _) (fun _ => rfl)))
  clear Dm; intro h12 Dm; dsimp only [List.set] at Dm
  repeat walk_at "#7;;Set Get CO PN UI GM"
  refine nsGetO (r := some (.ref 77)) Dm f3 (by kernel_rfl!) ?_
  repeat walk_at "#7;;Set Get CO PN UI GM"
  refine nsGetM (r := some (.ref x)) Dm 5 rfl (by kernel_rfl!) ?_
  repeat walk_at "#7;;Set Get CO PN UI GM"
  refine nsGetM (r := some (.ref y)) Dm 5 rfl (by kernel_rfl!) ?_
  repeat walk_at "#7;;Set Get CO PN UI GM"
  refine five hh1 (by first | (refine lb (by assumption) ?_; rfl) | omega) (by first | (refine lb (by assumption) ?_; rfl) | omega) _ g d _ os (X.keeps (kp_mem Dm)) fa ffd R hcmp K x y _ _ _ _ (IK.kl (.of_kp (kp_mem Dm))) (kp_mem Dm _ _ hfa) (kx.kp (kp_mem Dm)) (ky.kp (kp_mem Dm)) ?_
  intro r1 h10 tk10 kp10 hr1
  refine (?_ : Ar _ _) (memKp Dm kp10); clear Dm; intro Dm
  rw [e1] at hr1
  obtain ⟨B1, D1, w1, o1, g1⟩ := reb Dm (fun _ _ => True) (fun b o e _ => e) (fun _ _ => trivial)
  refine (?_ : Ar _ _) (w1 _ _ hr1 (by first | exact neC (by kernel_rfl!) | simp [celO, frO, itO, lsO])); clear hr1; intro hr1
  refine (?_ : Ar _ _) (X.keeps fun b o e => o1 b o e trivial); clear X; intro X
  refine (?_ : Ar _ _) (isKc IK fun b o e _ => o1 b o e trivial); clear IK; intro IK
  refine (?_ : Ar _ _) (o1 _ _ hfa trivial); clear hfa; intro hfa
  refine (?_ : Ar _ _) (o1 _ _ hP trivial); clear hP; intro hP
  refine (?_ : Ar _ _) (kx.kp fun b o e => o1 b o e trivial); clear kx; intro kx
  refine (?_ : Ar _ _) (ky.kp fun b o e => o1 b o e trivial); clear ky; intro ky
  refine (?_ : Ar _ _) (o1); intro kb1
  clear Dm w1 o1 g1 f3 f77 kp10
  refine (?_ : Ar _ _) (D1); intro Dm
  clear D1
  refine (?_ : Ar _ _) (k3 X); intro f3
  refine (?_ : Ar _ _) (kf77 X); intro f77
  repeat walk_at "#7;;Set Get CO PN UI GM"
  refine allocB ((?_ : Aa _ _ _ _ _ _ (lsO #[.bool true, .bool true, .bool false, .bool false, .bool false] 0) _) _ _ (Mem.alloc Dm rfl))
  clear Dm; intro q1 h11 Dm
  repeat walk_at "#7;;Set Get CO PN UI GM"
  refine neLst (Nat.le_trans hu1 (by decide)) (kp_mem Dm _ _ hr1) (Mem.at Dm 0 _ _ rfl) ?_
  refine (?_ : Ar _ _) (memForget Dm 0); clear Dm; intro Dm
  dsimp only [List.eraseIdx] at Dm
  repeat walk_at "#7;;Set Get CO PN UI GM"
  refine nsGetO (r := some (.ref 77)) Dm f3 (by kernel_rfl!) ?_
  repeat walk_at "#7;;Set Get CO PN UI GM"
  refine nsGetM (r := some (.ref y)) Dm 5 rfl (by kernel_rfl!) ?_
  repeat walk_at "#7;;Set Get CO PN UI GM"
  refine nsGetM (r := some (.ref x)) Dm 5 rfl (by kernel_rfl!) ?_
  repeat walk_at "#7;;Set Get CO PN UI GM"
  refine five hh1 (by first | (refine lb (by assumption) ?_; rfl) | omega) (by first | (refine lb (by assumption) ?_; rfl) | omega) _ g d _ os (X.keeps (kp_mem Dm)) fa ffd R hcmp K y x _ _ _ _ (IK.kl (.of_kp (kp_mem Dm))) (kp_mem Dm _ _ hfa) (ky.kp (kp_mem Dm)) (kx.kp (kp_mem Dm)) ?_
  intro r2 h20 tk20 kp20 hr2
  refine (?_ : Ar _ _) (memKp Dm kp20); clear Dm; intro Dm
  rw [e2] at hr2
  obtain ⟨B2, D2, w2, o2, g2⟩ := reb Dm (fun _ _ => True) (fun b o e _ => e) (fun _ _ => trivial)
  refine (?_ : Ar _ _) (w2 _ _ hr2 (by first | exact neC (by kernel_rfl!) | simp [celO, frO, itO, lsO])); clear hr2; intro hr2
  refine (?_ : Ar _ _) (X.keeps fun b o e => o2 b o e trivial); clear X; intro X
  refine (?_ : Ar _ _) (isKc IK fun b o e _ => o2 b o e trivial); clear IK; intro IK
  refine (?_ : Ar _ _) (o2 _ _ hfa trivial); clear hfa; intro hfa
  refine (?_ : Ar _ _) (o2 _ _ hP trivial); clear hP; intro hP
  refine (?_ : Ar _ _) (kx.kp fun b o e => o2 b o e trivial); clear kx; intro kx
  refine (?_ : Ar _ _) (ky.kp fun b o e => o2 b o e trivial); clear ky; intro ky
  refine (?_ : Ar _ _) (o2); intro kb2
  clear Dm w2 o2 g2 f3 f77 kp20
  refine (?_ : Ar _ _) (D2); intro Dm
  clear D2
  refine (?_ : Ar _ _) (k3 X); intro f3
  refine (?_ : Ar _ _) (kf77 X); intro f77
  repeat walk_at "#7;;Set Get CO PN UI GM"
  refine allocB ((?_ : Aa _ _ _ _ _ _ (lsO #[.bool false, .bool false, .bool false, .bool true, .bool true] 0) _) _ _ (Mem.alloc Dm rfl))
  clear Dm; intro q2 h21 Dm
  repeat walk_at "#7;;Set Get CO PN UI GM"
  refine neLst (Nat.le_trans hu1 (by decide)) (kp_mem Dm _ _ hr2) (Mem.at Dm 0 _ _ rfl) ?_
  refine (?_ : Ar _ _) (memForget Dm 0); clear Dm; intro Dm
  dsimp only [List.eraseIdx] at Dm
  repeat walk_at "#7;;Set Get CO PN UI GM"
  exact ⟨rfl, k _ _ _ _ _ _ _ _ (fun b o e => kb2 b o (kb1 b o e trivial) trivial) Dm⟩
theorem ordLt {l c b : Int} (h : c < b) : ordI l c l b = -1 := by unfold ordI; rw [if_neg (by first | (refine lb (by assumption) ?_; rfl) | omega), if_pos (by first | (refine lb (by assumption) ?_; rfl) | omega)]
theorem ordGt {l c b : Int} (h : c < b) : ordI l b l c = 3 := by unfold ordI; rw [if_neg (by first | (refine lb (by assumption) ?_; rfl) | omega), if_neg (by first | (refine lb (by assumption) ?_; rfl) | omega)]
theorem fvW (hh : A.handled = none) (hd : A.depth ≤ 400) (hu : A.units ≤ 3000) (hb h : Heap) (g : Array GenState) (d : Drawn) (t : Nat) (os : OsState) {R' : Result → Shared → Prop} {D : LwD} (I : Lw w.params hb D)
  (yk yt yl yc L it P : Addr) (nP : Nat) (hP : hb.get? P = some (lsO #[.ref D.a0, .ref D.d0] nP)) (m1 m2 m3 m4 : Option Value) (v1 v2 v3 v4 v5 v6 : Value) (t1 t2 t3 t4 t5 t6 : Tok)
  (Dm : Mem hb h [] [(it, itO P 0 none #[]), (yc, celO m1), (yl, celO m2), (yt, celO m3), (yk, celO m4), (L, frO #[en w.params "script" t1 v1, en w.params "finds" t2 v2, en w.params "onward" t3 v3, en w.params "upward" t4 v4, en w.params "prog" t5 v5, en w.params "here" t6 v6] 6)])
  (k : ∀ hb' h' tk ua ub uc, Kp hb hb' → Mem hb' h' [] [(yc, celO m1), (yl, celO m2), (yt, celO m3), (yk, celO m4), (L, frO #[en w.params "script" t1 v1, en w.params "finds" t2 v2, en w.params "onward" t3 v3, en w.params "upward" t4 v4, en w.params "prog" t5 v5, en w.params "here" t6 v6, en w.params "hit" ua (.ref D.d0), en w.params "begin" ub (.ref D.u0), en w.params "end" uc (.ref D.v0)] 9)] → R' (.ok .next) ⟨h', g, d, tk, os⟩) :
  codeAny (MM w) A (fvC it (lenv yk yt yl yc L)) R' ⟨h, g, d, t, os⟩ := by
  obtain ⟨o1, o2, o3, _⟩ := I.or3
  refine (?_ : Ar _ _) (I.on.2 _ (.head _)); intro z0
  refine (?_ : Ar _ _) (I.up.2 _ (.tail _ (.tail _ (.head _)))); intro zu
  refine fvT hh hd hu hb _ g d _ os I.X 63 _ ordI (cmp63 w) D.K1 I.IK (kf63 I.X) yk yt yl yc L it P _ nP 0 hP D.a0 D.x0 D.y0 D.p0 _ _ _ _ rfl z0.1 z0.2.1 z0.2.2 (by rw [ordLt o1]; kernel_rfl!) (by rw [ordGt o1]; kernel_rfl!) _ _ _ _ m1 m2 m3 m4 v1 v2 v3 v4 v5 v6 t1 t2 t3 t4 t5 t6
    (es1 := fun tk => #[en w.params "script" t1 v1, en w.params "finds" t2 v2, en w.params "onward" t3 v3, en w.params "upward" t4 v4, en w.params "prog" t5 v5, en w.params "here" t6 v6, en w.params "hit" tk (.ref D.a0)])
    (es2 := fun tk tk' => #[en w.params "script" t1 v1, en w.params "finds" t2 v2, en w.params "onward" t3 v3, en w.params "upward" t4 v4, en w.params "prog" t5 v5, en w.params "here" t6 v6, en w.params "hit" tk (.ref D.a0), en w.params "begin" tk' (.ref D.x0)])
    (n1 := 7) (n2 := 8) (ta := fun tk _ _ => tk) (tb := fun _ tk _ => tk) (tc := fun _ _ tk => tk) (by kernel_rfl!) (by intro tk; kernel_rfl!) (by intro tk tk'; kernel_rfl!) (by intro tk; kernel_rfl!) (by intro tk tk'; kernel_rfl!) (by intro tk tk' tk''; kernel_rfl!) (by intro tk; kernel_rfl!) Dm ?_
  clear Dm; intro g1 m5 tk1 dd1 sl1 ua ub uc kp1 Dm
  refine (?_ : Ar _ _) (I.kp kp1); clear I; intro I
  refine (?_ : Ar _ _) (kp1 _ _ hP); clear hP; intro hP
  refine (?_ : Ar _ _) (I.up.2 _ (.tail _ (.tail _ (.head _)))); clear zu; intro zu
  refine fvT hh hd hu g1 _ g d _ os I.X 70 _ (fun a b c d => -ordI a b c d) (cmp70 w) D.K2 I.JK (kf70 I.X) yk yt yl yc L it P _ nP 1 hP D.d0 D.u0 D.v0 D.p0 _ _ _ _ rfl zu.1 zu.2.1 zu.2.2 (by dsimp only; rw [ordGt o1]; kernel_rfl!) (by dsimp only; rw [ordLt o1]; kernel_rfl!) _ _ _ _ m1 m2 m3 m4 v1 v2 v3 v4 v5 v6 t1 t2 t3 t4 t5 t6
    (es1 := fun tk => #[en w.params "script" t1 v1, en w.params "finds" t2 v2, en w.params "onward" t3 v3, en w.params "upward" t4 v4, en w.params "prog" t5 v5, en w.params "here" t6 v6, en w.params "hit" ua (.ref D.d0), en w.params "begin" ub (.ref D.x0), en w.params "end" uc (.ref D.y0)])
    (es2 := fun tk tk' => #[en w.params "script" t1 v1, en w.params "finds" t2 v2, en w.params "onward" t3 v3, en w.params "upward" t4 v4, en w.params "prog" t5 v5, en w.params "here" t6 v6, en w.params "hit" ua (.ref D.d0), en w.params "begin" ub (.ref D.u0), en w.params "end" uc (.ref D.y0)])
    (n1 := 9) (n2 := 9) (ta := fun _ _ _ => ua) (tb := fun _ _ _ => ub) (tc := fun _ _ _ => uc) (by kernel_rfl!) (by intro tk; kernel_rfl!) (by intro tk tk'; kernel_rfl!) (by intro tk; kernel_rfl!) (by intro tk tk'; kernel_rfl!) (by intro tk tk' tk''; kernel_rfl!) (by intro tk; kernel_rfl!) Dm ?_
  clear Dm; intro g2 m6 tk2 dd2 sl2 ua ub uc kp2 Dm
  refine (?_ : Ar _ _) (kp2 _ _ hP); clear hP; intro hP
  refine codeAny_of_tree ?_
  obtain ⟨A1, hA⟩ : ∃ A1, A1 = A.under (fvC it (lenv yk yt yl yc L)) := ⟨_, rfl⟩
  rw [← hA]
  show wpAny _ _ ((forTurn _ _ _ _ _).onRaise _) _ _ _
  refine noE ?_
  refine (?_ : Ar (A1.handled = none) _) (by rw [hA]; exact hh); intro hh1
  clear hA
  repeat walk_at "#7;;Set Get CO PN UI GM"
  refine wpAny_pyNext_list_end hh1 (of_itO (Mem.at Dm 0 _ _ rfl)) ⟨_, kp_mem Dm _ _ hP, rfl, _, rfl⟩ rfl ?_
  intro h9 eb9
  refine (?_ : Ar _ _) (memErase Dm 0 rfl eb9); clear Dm; intro Dm
  dsimp only [List.eraseIdx] at Dm
  repeat walk_at "#7;;Set Get CO PN UI GM"
  refine ⟨rfl, codeAny_of_tree ?_⟩
  show wpAny _ _ (do return Fin.done (← (execs [] (lenv yk yt yl yc L)).onRaise _)) _ _ _
  repeat walk_at "#7;;Set Get CO PN UI GM"
  exact k g2 h9 _ _ _ _ (fun b o e => kp2 b o (kp1 b o e)) Dm

end Mine
namespace Mine
variable {w : World} {A : Around} {Q : Value → Shared → Prop} {E : Value → Shared → Prop}
set_option tactic.hygienic false
theorem plcT (hh : A.handled = none) (hd : A.depth ≤ 400) (hu : A.units ≤ 3000) (hb h : Heap) (g : Array GenState) (d : Drawn) (t : Nat) (os : OsState) {R' : Result → Shared → Prop} {D : LwD} (I : Lw w.params hb D)
  (yk yt yl yc L it P : Addr) (ps : Array Value) (nP j : Nat) (hP : hb.get? P = some (lsO ps nP)) (z : Addr) (l c : Int) (s0 s1 : Tok) (hj : ps[j]? = some (.ref z)) (hz : hb.get? z = some (tup l c s0 s1))
  (l1 : 0 ≤ l) (l2 : l < 10 ^ 10) (c1 : 0 ≤ c) (c2 : c < 10 ^ 10)
  (es : Array DictEntry) (n : Nat) (dd : Option Addr) (sl : Array (Option Value)) (vl vc : Option Value) (l3 : Addr) (t1 t2 t3 t4 t5 : Tok)
  {t6 : Nat → Tok} (a1 : aRefKeyMayBeTheName (Str.ofString "here") es = false)
  (a2 : ∀ tk v, Obj.putName (Str.ofString "here") (PyData.keyHash w.params (Str.ofString "here")) (.str (Str.ofString "here") tk) v (frO es n) = frO #[en w.params "script" t1 (.ref l3), en w.params "finds" t2 (.ref D.F), en w.params "onward" t3 (.ref D.ac), en w.params "upward" t4 (.ref D.ad), en w.params "prog" t5 (.ref D.pr), en w.params "here" (t6 tk) v] 6)
  (Dm : Mem hb h [] [(it, itO P j dd sl), (yc, celO vc), (yl, celO vl), (yt, celO (some (.ref D.K2))), (yk, celO (some (.ref D.K1))), (L, frO es n)])
  (k : ∀ hb' h' tk dd' sl' vl' vc' t6 r, Kp hb hb' →
    Mem hb' h' [] [(it, itO P (j + 1) dd' sl'), (yc, celO vc'), (yl, celO vl'), (yt, celO (some (.ref D.K2))), (yk, celO (some (.ref D.K1))), (L, frO #[en w.params "script" t1 (.ref l3), en w.params "finds" t2 (.ref D.F), en w.params "onward" t3 (.ref D.ac), en w.params "upward" t4 (.ref D.ad), en w.params "prog" t5 (.ref D.pr), en w.params "here" t6 (.ref r)] 6)] → codeAny (MM w) A (plC it (lenv yk yt yl yc L)) R' ⟨h', g, d, tk, os⟩) :
  codeAny (MM w) A (plC it (lenv yk yt yl yc L)) R' ⟨h, g, d, t, os⟩ := by
  refine (?_ : Ar _ _) (I.X); intro X
  refine (?_ : Ar _ _) (k3 X); intro f3
  refine (?_ : Ar _ _) (k0 X); intro f0
  refine (?_ : Ar _ _) (kf56 X); intro f56
  refine (?_ : Ar _ _) (kf98 X); intro f98
  refine (?_ : Ar _ _) (k21 X); intro f21
  refine codeAny_of_tree ?_
  obtain ⟨A1, hA⟩ : ∃ A1, A1 = A.under (plC it (lenv yk yt yl yc L)) := ⟨_, rfl⟩
  rw [← hA]
  show wpAny _ _ ((forTurn _ _ _ _ _).onRaise _) _ _ _
  refine noE ?_
  refine (?_ : Ar (A1.handled = none) _) (by rw [hA]; exact hh); intro hh1
  refine (?_ : Ar (A1.depth ≤ 420) _) (by rw [hA]; first | (show A.depth + 0 ≤ 420; exact lbk 0 hd rfl) | (show A.depth + 1 ≤ 420; exact lbk 1 hd rfl)); intro hd1
  refine (?_ : Ar (A1.units ≤ 3200) _) (by rw [hA]; first | (show A.units + 0 ≤ 3200; exact lbk 0 hu rfl) | (show A.units + 1 ≤ 3200; exact lbk 1 hu rfl) | (show A.units + 2 ≤ 3200; exact lbk 2 hu rfl)); intro hu1
  refine (?_ : Ar (A1.units < cLine) _) (Nat.lt_of_le_of_lt hu1 (by decide)); intro hroom
  clear hA
  repeat walk_at "#9;tlG2;Set Get CO PN GI UI"
  refine wpAny_pyNext_list_item (of_itO (Mem.at Dm 0 _ _ rfl)) ⟨_, kp_mem Dm _ _ hP, rfl, _, rfl⟩ hj ?_
  intro h1 hit1 sb1
  obtain ⟨dd1, sl1, hit2⟩ := itO_of hit1
  refine (?_ : Ar _ _) (memSet Dm 0 rfl sb1.extBut hit2); clear Dm; intro Dm
  dsimp only [List.set] at Dm
  clear hit1 sb1 hit2
  repeat walk_at "#9;tlG2;Set Get CO PN GI UI"
  refine unpK hh1 (kp_mem Dm _ _ hz) rfl ?_
  intro h2 kp2
  refine (?_ : Ar _ _) (memKp Dm kp2); clear Dm; intro Dm
  repeat walk_at "#9;tlG2;Set Get CO PN GI UI"
  refine updB' Dm 2 rfl ((?_ : Au _ _ _ _ _ _ _) _ (updD (o' := celO (some (.int l s0))) Dm 2 rfl rfl rfl))
  clear Dm; intro h3 Dm; dsimp only [List.set] at Dm
  repeat walk_at "#9;tlG2;Set Get CO PN GI UI"
  refine updB' Dm 1 rfl ((?_ : Au _ _ _ _ _ _ _) _ (updD (o' := celO (some (.int c s1))) Dm 1 rfl rfl rfl))
  clear Dm; intro h4 Dm; dsimp only [List.set] at Dm
  repeat walk_at "#9;tlG2;Set Get CO PN GI UI"
  refine nsGetO (r := some (.ref 56)) Dm f3 (by kernel_rfl!) ?_
  repeat walk_at "#9;tlG2;Set Get CO PN GI UI"
  refine rdC hh1 (by first | (refine lb (by assumption) ?_; rfl) | omega) (by first | (refine lb (by assumption) ?_; rfl) | omega) _ g d _ os (X.keeps (kp_mem Dm)) l c _ _ l1 l2 c1 c2 ?_
  intro r h5 tk5 w1 w2 kp5 hr
  obtain ⟨B1, D1, m1, o1, z1⟩ := reb Dm (fun _ _ => True) (fun b o e _ => kp5 b o e) (fun _ _ => trivial)
  refine (?_ : Ar (Kp hb B1) _) (fun b o e => o1 b o e trivial); intro kq1
  refine (?_ : Ar _ _) (I.kp kq1); clear I; intro I
  refine (?_ : Ar _ _) (m1 _ _ hr (by first | exact neC (by kernel_rfl!) | simp [celO, frO, itO, tup])); clear hr; intro hr
  refine (?_ : Ar _ _) (I.X); clear X; intro X
  clear Dm o1 m1 z1 kp5 f3 f0 f56 f98 f21 kp2
  refine (?_ : Ar _ _) (D1); intro Dm
  clear D1
  refine (?_ : Ar _ _) (k3 X); intro f3
  refine (?_ : Ar _ _) (k0 X); intro f0
  refine (?_ : Ar _ _) (kf98 X); intro f98
  refine (?_ : Ar _ _) (k21 X); intro f21
  repeat walk_at "#9;tlG2;Set Get CO PN GI UI"
  refine nsSetB rfl Dm 5 rfl a1 ((?_ : Au _ _ _ _ _ _ _) _ (nsPutD (o' := fun tk => frO #[en w.params "script" t1 (.ref l3), en w.params "finds" t2 (.ref D.F), en w.params "onward" t3 (.ref D.ac), en w.params "upward" t4 (.ref D.ad), en w.params "prog" t5 (.ref D.pr), en w.params "here" (t6 tk) (.ref r)] 6) Dm 5 rfl (fun tk => a2 tk _) (fun _ => rfl)))
  clear Dm; intro h6 Dm; dsimp only [List.set] at Dm
  repeat walk_at "#9;tlG2;Set Get CO PN GI UI"
  refine nsGetM (r := some (.ref r)) Dm 5 rfl (by kernel_rfl!) ?_
  repeat walk_at "#9;tlG2;Set Get CO PN GI UI"
  refine allocB ((?_ : Aa _ _ _ _ _ _ (tup l c s0 s1) _) _ _ (Mem.alloc Dm rfl))
  clear Dm; intro y1 h7 Dm
  repeat walk_at "#9;tlG2;Set Get CO PN GI UI"
  refine neTup hh1 (by first | (refine lb (by assumption) ?_; rfl) | omega) (by first | (refine lb (by assumption) ?_; rfl) | omega) (X.keeps (kp_mem Dm)) (kp_mem Dm _ _ hr) (Mem.at Dm 0 _ _ rfl) ?_
  intro h8 tk8 kp8
  refine (?_ : Ar _ _) (memForget (memKp Dm kp8) 0); clear Dm; intro Dm
  dsimp only [List.eraseIdx] at Dm
  clear kp8
  repeat walk_at "#9;tlG2;Set Get CO PN GI UI"
  refine nsGetO (r := none) Dm f3 (by kernel_rfl!) ?_
  repeat walk_at "#9;tlG2;Set Get CO PN GI UI"
  refine nsGetO (r := some (.builtin "isinstance")) Dm f0 (by kernel_rfl!) ?_
  repeat walk_at "#9;tlG2;Set Get CO PN GI UI"
  refine nsGetM (r := some (.ref r)) Dm 5 rfl (by kernel_rfl!) ?_
  repeat walk_at "#9;tlG2;Set Get CO PN GI UI"
  refine getItem_tuple (j := 0) (x := .int l w1) ⟨_, kp_mem Dm _ _ hr, rfl, _, rfl⟩ (by decide) (by decide) rfl rfl ?_
  repeat walk_at "#9;tlG2;Set Get CO PN GI UI"
  refine nsGetO (r := none) Dm f3 (by kernel_rfl!) ?_
  repeat walk_at "#9;tlG2;Set Get CO PN GI UI"
  refine nsGetO (r := some (.type "int")) Dm f0 (by kernel_rfl!) ?_
  repeat walk_at "#9;tlG2;Set Get CO PN GI UI"
  refine isiI hh1 (by first | (refine lb (by assumption) ?_; rfl) | omega) (by first | (refine lb (by assumption) ?_; rfl) | omega) (X.keeps (kp_mem Dm)) ?_
  intro h9 tk9 kp9
  refine (?_ : Ar _ _) (memKp Dm kp9); clear Dm; intro Dm
  clear kp9
  repeat walk_at "#9;tlG2;Set Get CO PN GI UI"
  refine nsGetO (r := none) Dm f3 (by kernel_rfl!) ?_
  repeat walk_at "#9;tlG2;Set Get CO PN GI UI"
  refine nsGetO (r := some (.builtin "isinstance")) Dm f0 (by kernel_rfl!) ?_
  repeat walk_at "#9;tlG2;Set Get CO PN GI UI"
  refine nsGetM (r := some (.ref r)) Dm 5 rfl (by kernel_rfl!) ?_
  repeat walk_at "#9;tlG2;Set Get CO PN GI UI"
  refine getItem_tuple (j := 1) (x := .int c w2) ⟨_, kp_mem Dm _ _ hr, rfl, _, rfl⟩ (by decide) (by decide) rfl rfl ?_
  repeat walk_at "#9;tlG2;Set Get CO PN GI UI"
  refine nsGetO (r := none) Dm f3 (by kernel_rfl!) ?_
  repeat walk_at "#9;tlG2;Set Get CO PN GI UI"
  refine nsGetO (r := some (.type "int")) Dm f0 (by kernel_rfl!) ?_
  repeat walk_at "#9;tlG2;Set Get CO PN GI UI"
  refine isiI hh1 (by first | (refine lb (by assumption) ?_; rfl) | omega) (by first | (refine lb (by assumption) ?_; rfl) | omega) (X.keeps (kp_mem Dm)) ?_
  intro h10 tk10 kp10
  refine (?_ : Ar _ _) (memKp Dm kp10); clear Dm; intro Dm
  clear kp10
  repeat walk_at "#9;tlG2;Set Get CO PN GI UI"
  refine nsGetO (r := some (.ref 98)) Dm f3 (by kernel_rfl!) ?_
  repeat walk_at "#9;tlKC tlGL tl_neg slot_neg.bind*;Get CO PI GI Del"
  refine nsGetO (r := some (.ref 21)) Dm f3 (by kernel_rfl!) ?_
  repeat walk_at "#9;tlKC tlGL tl_neg slot_neg.bind*;Get CO PI GI Del"
  refine nsGetM (r := some (.ref D.pr)) Dm 5 rfl (by kernel_rfl!) ?_
  repeat walk_at "#9;tlKC tlGL tl_neg slot_neg.bind*;Get CO PI GI Del"
  refine nsGetM (r := some (.ref D.ac)) Dm 5 rfl (by kernel_rfl!) ?_
  repeat walk_at "#9;tlKC tlGL tl_neg slot_neg.bind*;Get CO PI GI Del"
  refine nsGetM (r := some (.ref r)) Dm 5 rfl (by kernel_rfl!) ?_
  obtain ⟨N, bt, tq1, tq2, fK⟩ := I.IK.c
  repeat walk_at "#9;tlKC tlGL tl_neg slot_neg.bind*;Get CO PI GI Del"
  refine mkK hh1 (by first | (refine lb (by assumption) ?_; rfl) | omega) (by first | (refine lb (by assumption) ?_; rfl) | omega) (X.keeps (kp_mem Dm)) (I.IK.kl (.of_kp (kp_mem Dm))) ?_
  intro x h11 tk11 kp11 hx
  refine (?_ : Ar (Key h11 D.K1 x l c) _) (hx.elim fun dx e => ⟨dx, r, _, _, e, kp11 _ _ (kp_mem Dm _ _ hr)⟩); intro hk
  refine (?_ : Ar _ _) (memKp Dm kp11); clear Dm; intro Dm
  repeat walk_at "#9;tlKC tlGL tl_neg slot_neg.bind*;Get CO PI GI Del"
  refine sr hh1 (by first | (refine lb (by assumption) ?_; rfl) | omega) (by first | (refine lb (by assumption) ?_; rfl) | omega) _ g d _ os D.ac D.pr x D.K1 63 D.on _ ordI (cmp63 w) l c (X.keeps (kp_mem Dm)) (I.on.kp (kp_mem Dm)) I.chO (I.pp.kp (kp_mem Dm)) (I.IK.kl (.of_kp (kp_mem Dm))) (kf63 (X.keeps (kp_mem Dm))) hk ?_
  intro h12 tk12 kp12
  refine (?_ : Ar _ _) (memKp Dm kp12); clear Dm; intro Dm
  repeat walk_at "#9;tlKC tlGL tl_neg slot_neg.bind*;Get CO PI GI Del"
  refine tldU hh1 (by first | (refine lb (by assumption) ?_; rfl) | omega) (by first | (refine lb (by assumption) ?_; rfl) | omega) (X.keeps (kp_mem Dm)) (I.hits l c) (I.on.kp (kp_mem Dm)) ?_
  intro tl h13 tk13 kp13 htl
  obtain ⟨B2, D2, m2, o2, z2⟩ := reb Dm (fun _ _ => True) (fun b o e _ => kp13 b o e) (fun _ _ => trivial)
  refine (?_ : Ar (Kp hb B2) _) (fun b o e => o2 b o (kq1 b o e) trivial); intro kq2
  refine (?_ : Ar _ _) (I.kp fun b o e => o2 b o e trivial); clear I; intro I
  refine (?_ : Ar _ _) (o2 _ _ hr trivial); clear hr; intro hr
  refine (?_ : Ar _ _) (m2 _ _ htl (by first | exact neC (by kernel_rfl!) | simp [celO, frO, itO, lsO])); clear htl; intro htl
  refine (?_ : Ar _ _) (I.X); clear X; intro X
  clear Dm o2 m2 z2 kp11 kp12 kp13 f3 f0 f98 f21 hk hx kq1 fK
  refine (?_ : Ar _ _) (D2); intro Dm
  refine (?_ : Ar _ _) (kq2); intro kq1
  clear D2 kq2
  refine (?_ : Ar _ _) (k3 X); intro f3
  refine (?_ : Ar _ _) (k0 X); intro f0
  refine (?_ : Ar _ _) (kf98 X); intro f98
  refine (?_ : Ar _ _) (k21 X); intro f21
  refine (?_ : Ar _ _) (I.qF); intro qF
  repeat walk_at "#9;tlKC tlGL tl_neg slot_neg.bind*;Get CO PI GI Del"
  refine nsGetM (r := some (.ref D.F)) Dm 5 rfl (by kernel_rfl!) ?_
  repeat walk_at "#9;tlKC tlGL tl_neg slot_neg.bind*;Get CO PI GI Del"
  refine pyIterM Dm (kp_mem Dm _ _ qF) ?_
  clear Dm; intro it2 h14 Dm
  repeat walk_at "#9;tlKC tlGL tl_neg slot_neg.bind*;Get CO PI GI Del"
  refine allocB ((?_ : Aa _ _ _ _ _ _ (lsO #[] 0) _) _ _ (Mem.alloc Dm rfl))
  clear Dm; intro fc h15 Dm
  repeat walk_at "#9;tlKC tlGL tl_neg slot_neg.bind*;Get CO PI GI Del"
  refine allocB ((?_ : Aa _ _ _ _ _ _ (dcO #[] 0) _) _ _ (Mem.alloc Dm rfl))
  clear Dm; intro Lf h16 Dm
  repeat walk_at "#9;tlKC tlGL tl_neg slot_neg.bind*;Get CO PI GI Del"
  refine wpAny_run ?_
  show codeAny (MM w) _ (cgS 2 yl yc L Lf it2 fc) _ _
  refine fltOn hh1 (Nat.le_trans hd1 (by decide)) (Nat.le_trans hu1 (by decide)) _ _ g d _ os I yl yc L Lf it2 fc l c s0 s1 _ (.tail _ (.head _)) (.tail _ (.tail _ (.head _))) Dm ?_
  clear Dm; intro h17 tk17 na17 tf17 Dm
  show Then _ _ _ _ _ _ _
  repeat walk_at "#9;tlKC tlGL tl_neg slot_neg.bind*;Get CO PI GI Del"
  refine nsGetM (r := some (.ref D.p2)) Dm 0 rfl (by kernel_rfl!) ?_
  repeat walk_at "#9;tlKC tlGL tl_neg slot_neg.bind*;Get CO PI GI Del"
  refine nsDelB rfl Dm 0 rfl (by kernel_rfl!) ((?_ : Au _ _ _ _ _ _ _) _ (nsOutD (o' := dcO #[] 2) Dm 0 rfl (by kernel_rfl!) rfl))
  clear Dm; intro h18 Dm; dsimp only [List.set] at Dm
  refine (?_ : Ar _ _) (memForget Dm 0); clear Dm; intro Dm
  dsimp only [List.eraseIdx] at Dm
  repeat walk_at "#9;tlKC tlGL tl_neg slot_neg.bind*;Get CO PI GI Del"
  refine deep (negC w ⟨h18, g, d, _, os⟩ (X.keeps (kp_mem Dm)) _ _ _ ?_) hh1 (Nat.le_trans hd1 (by decide)) (Nat.le_trans hu1 (by decide))
  intro v19 h19 tk19 kp19
  refine (?_ : Ar _ _) (memKp Dm kp19); clear Dm; intro Dm
  clear kp19
  repeat walk_at "#9;tlKC tlGL tl_neg slot_neg.bind*;Get CO PI GI Del"
  refine allocB ((?_ : Aa _ _ _ _ _ _ (⟨.type "slice", none, .fields #[.int (-1) v19, .none, .none], #[]⟩) _) _ _ (Mem.alloc Dm rfl))
  clear Dm; intro sl9 h20 Dm
  repeat walk_at "#9;tlKC tlGL tl_neg slot_neg.bind*;Get CO PI GI Del"
  refine lstSlice (lo := some (-1)) (hi := none) (st := none) Dm (Mem.at Dm 1 _ _ rfl) (Mem.at Dm 0 _ _ rfl) (.int _ _) .none .none (by decide) (Nat.le_trans (pifs (n := 2) (pifs (n := 1) (pifs (n := 0) (Nat.le_of_ble_eq_true rfl)))) (by decide)) ?_
  clear Dm; intro rs h21 Dm
  repeat walk_at "#9;tlKC tlGL tl_neg slot_neg.bind*;Get CO PI GI Del"
  refine deep (letGoC w ⟨h21, g, d, _, os⟩ (X.keeps (kp_mem Dm)) _ _ ?_) hh1 (Nat.le_trans hd1 (by decide)) (Nat.le_trans hu1 (by decide))
  intro vg h22 tk22 kp22
  refine (?_ : Ar _ _) (memKp Dm kp22); clear Dm; intro Dm
  clear kp22
  repeat walk_at "#9;tlKC tlGL tl_neg slot_neg.bind*;Get CO PI GI Del"
  refine neLst (Nat.le_trans hu1 (by decide)) (kp_mem Dm _ _ htl) (Mem.at Dm 0 _ _ rfl) ?_
  refine (?_ : Ar _ _) (memForget (memForget (memForget Dm 0) 0) 0); clear Dm; intro Dm
  dsimp only [List.eraseIdx] at Dm
  clear htl qF
  repeat walk_at "#9;tlKC tlGL tl_neg slot_neg.bind*;Get CO PI GI Del"
  refine nsGetO (r := some (.ref 98)) Dm f3 (by kernel_rfl!) ?_
  repeat walk_at "#9;tlKC tlGL tl_neg slot_neg.bind*;Get CO PI GI Del"
  refine nsGetO (r := some (.ref 21)) Dm f3 (by kernel_rfl!) ?_
  repeat walk_at "#9;tlKC tlGL tl_neg slot_neg.bind*;Get CO PI GI Del"
  refine nsGetM (r := some (.ref D.pr)) Dm 5 rfl (by kernel_rfl!) ?_
  repeat walk_at "#9;tlKC tlGL tl_neg slot_neg.bind*;Get CO PI GI Del"
  refine nsGetM (r := some (.ref D.ad)) Dm 5 rfl (by kernel_rfl!) ?_
  repeat walk_at "#9;tlKC tlGL tl_neg slot_neg.bind*;Get CO PI GI Del"
  refine nsGetM (r := some (.ref r)) Dm 5 rfl (by kernel_rfl!) ?_
  obtain ⟨N, bt, tq1, tq2, fK⟩ := I.JK.c
  repeat walk_at "#9;tlKC tlGL tl_neg slot_neg.bind*;Get CO PI GI Del"
  refine mkK hh1 (by first | (refine lb (by assumption) ?_; rfl) | omega) (by first | (refine lb (by assumption) ?_; rfl) | omega) (X.keeps (kp_mem Dm)) (I.JK.kl (.of_kp (kp_mem Dm))) ?_
  intro x h11 tk11 kp11 hx
  refine (?_ : Ar (Key h11 D.K2 x l c) _) (hx.elim fun dx e => ⟨dx, r, _, _, e, kp11 _ _ (kp_mem Dm _ _ hr)⟩); intro hk
  refine (?_ : Ar _ _) (memKp Dm kp11); clear Dm; intro Dm
  repeat walk_at "#9;tlKC tlGL tl_neg slot_neg.bind*;Get CO PI GI Del"
  refine sr hh1 (by first | (refine lb (by assumption) ?_; rfl) | omega) (by first | (refine lb (by assumption) ?_; rfl) | omega) _ g d _ os D.ad D.pr x D.K2 70 D.up _ (fun a b c d => -ordI a b c d) (cmp70 w) l c (X.keeps (kp_mem Dm)) (I.up.kp (kp_mem Dm)) I.chU (I.pp.kp (kp_mem Dm)) (I.JK.kl (.of_kp (kp_mem Dm))) (kf70 (X.keeps (kp_mem Dm))) hk ?_
  intro h12 tk12 kp12
  refine (?_ : Ar _ _) (memKp Dm kp12); clear Dm; intro Dm
  repeat walk_at "#9;tlKC tlGL tl_neg slot_neg.bind*;Get CO PI GI Del"
  refine tldU hh1 (by first | (refine lb (by assumption) ?_; rfl) | omega) (by first | (refine lb (by assumption) ?_; rfl) | omega) (X.keeps (kp_mem Dm)) (I.hitsU l c) (I.up.kp (kp_mem Dm)) ?_
  intro tl h13 tk13 kp13 htl
  obtain ⟨B2, D2, m2, o2, z2⟩ := reb Dm (fun _ _ => True) (fun b o e _ => kp13 b o e) (fun _ _ => trivial)
  refine (?_ : Ar (Kp hb B2) _) (fun b o e => o2 b o (kq1 b o e) trivial); intro kq2
  refine (?_ : Ar _ _) (I.kp fun b o e => o2 b o e trivial); clear I; intro I
  refine (?_ : Ar _ _) (o2 _ _ hr trivial); clear hr; intro hr
  refine (?_ : Ar _ _) (m2 _ _ htl (by first | exact neC (by kernel_rfl!) | simp [celO, frO, itO, lsO])); clear htl; intro htl
  refine (?_ : Ar _ _) (I.X); clear X; intro X
  clear Dm o2 m2 z2 kp11 kp12 kp13 f3 f0 f98 f21 hk hx kq1 fK
  refine (?_ : Ar _ _) (D2); intro Dm
  refine (?_ : Ar _ _) (kq2); intro kq1
  clear D2 kq2
  refine (?_ : Ar _ _) (k3 X); intro f3
  refine (?_ : Ar _ _) (k0 X); intro f0
  refine (?_ : Ar _ _) (kf98 X); intro f98
  refine (?_ : Ar _ _) (k21 X); intro f21
  refine (?_ : Ar _ _) (I.qF); intro qF
  repeat walk_at "#9;tlKC tlGL tl_neg slot_neg.bind*;Get CO PI GI Del"
  refine nsGetM (r := some (.ref D.F)) Dm 5 rfl (by kernel_rfl!) ?_
  repeat walk_at "#9;tlKC tlGL tl_neg slot_neg.bind*;Get CO PI GI Del"
  refine pyIterM Dm (kp_mem Dm _ _ qF) ?_
  clear Dm; intro it2 h14 Dm
  repeat walk_at "#9;tlKC tlGL tl_neg slot_neg.bind*;Get CO PI GI Del"
  refine allocB ((?_ : Aa _ _ _ _ _ _ (lsO #[] 0) _) _ _ (Mem.alloc Dm rfl))
  clear Dm; intro fc h15 Dm
  repeat walk_at "#9;tlKC tlGL tl_neg slot_neg.bind*;Get CO PI GI Del"
  refine allocB ((?_ : Aa _ _ _ _ _ _ (dcO #[] 0) _) _ _ (Mem.alloc Dm rfl))
  clear Dm; intro Lf h16 Dm
  repeat walk_at "#9;tlKC tlGL tl_neg slot_neg.bind*;Get CO PI GI Del"
  refine wpAny_run ?_
  show codeAny (MM w) _ (cgS 3 yl yc L Lf it2 fc) _ _
  refine fltUp hh1 (Nat.le_trans hd1 (by decide)) (Nat.le_trans hu1 (by decide)) _ _ g d _ os I yl yc L Lf it2 fc l c s0 s1 _ (.tail _ (.head _)) (.tail _ (.tail _ (.head _))) Dm ?_
  clear Dm; intro h17 tk17 na17 tf17 Dm
  show Then _ _ _ _ _ _ _
  repeat walk_at "#9;tlKC tlGL tl_neg slot_neg.bind*;Get CO PI GI Del"
  refine nsGetM (r := some (.ref D.p2)) Dm 0 rfl (by kernel_rfl!) ?_
  repeat walk_at "#9;tlKC tlGL tl_neg slot_neg.bind*;Get CO PI GI Del"
  refine nsDelB rfl Dm 0 rfl (by kernel_rfl!) ((?_ : Au _ _ _ _ _ _ _) _ (nsOutD (o' := dcO #[] 2) Dm 0 rfl (by kernel_rfl!) rfl))
  clear Dm; intro h18 Dm; dsimp only [List.set] at Dm
  refine (?_ : Ar _ _) (memForget Dm 0); clear Dm; intro Dm
  dsimp only [List.eraseIdx] at Dm
  repeat walk_at "#9;tlKC tlGL tl_neg slot_neg.bind*;Get CO PI GI Del"
  refine allocB ((?_ : Aa _ _ _ _ _ _ (⟨.type "slice", none, .fields #[.none, .int 1 _, .none], #[]⟩) _) _ _ (Mem.alloc Dm rfl))
  clear Dm; intro sl9 h20 Dm
  repeat walk_at "#9;tlKC tlGL tl_neg slot_neg.bind*;Get CO PI GI Del"
  refine lstSlice (lo := none) (hi := some 1) (st := none) Dm (Mem.at Dm 1 _ _ rfl) (Mem.at Dm 0 _ _ rfl) .none (.int _ _) .none (by decide) (Nat.le_trans (pifs (n := 2) (pifs (n := 1) (pifs (n := 0) (Nat.le_of_ble_eq_true rfl)))) (by decide)) ?_
  clear Dm; intro rs h21 Dm
  repeat walk_at "#9;tlKC tlGL tl_neg slot_neg.bind*;Get CO PI GI Del"
  refine deep (letGoC w ⟨h21, g, d, _, os⟩ (X.keeps (kp_mem Dm)) _ _ ?_) hh1 (Nat.le_trans hd1 (by decide)) (Nat.le_trans hu1 (by decide))
  intro vg h22 tk22 kp22
  refine (?_ : Ar _ _) (memKp Dm kp22); clear Dm; intro Dm
  clear kp22
  repeat walk_at "#9;tlKC tlGL tl_neg slot_neg.bind*;Get CO PI GI Del"
  refine neLst (Nat.le_trans hu1 (by decide)) (kp_mem Dm _ _ htl) (Mem.at Dm 0 _ _ rfl) ?_
  refine (?_ : Ar _ _) (memForget (memForget (memForget Dm 0) 0) 0); clear Dm; intro Dm
  dsimp only [List.eraseIdx] at Dm
  clear htl qF
  repeat walk_at "#9;tlKC tlGL tl_neg slot_neg.bind*;Get CO PI GI Del"
  exact ⟨rfl, k _ _ _ _ _ _ _ _ r kq1 Dm⟩
end Mine
namespace Mine
variable {w : World} {A : Around} {Q : Value → Shared → Prop} {E : Value → Shared → Prop}
set_option tactic.hygienic false
theorem plcW (hh : A.handled = none) (hd : A.depth ≤ 400) (hu : A.units ≤ 3000) (hb h : Heap) (g : Array GenState) (d : Drawn) (t : Nat) (os : OsState) {R' : Result → Shared → Prop} {D : LwD} (I : Lw w.params hb D)
  (yk yt yl yc L it P : Addr) (H : PlP hb P D.l0 D.l1 D.l2 D.c0 D.c1 D.c2 D.b0 D.b1 D.b2)
  (r0 : 0 ≤ D.l0 ∧ D.l0 < 10 ^ 9 ∧ 0 ≤ D.c0 ∧ D.c0 < 10 ^ 9 ∧ 0 ≤ D.b0 ∧ D.b0 < 10 ^ 9) (r1 : 0 ≤ D.l1 ∧ D.l1 < 10 ^ 9 ∧ 0 ≤ D.c1 ∧ D.c1 < 10 ^ 9 ∧ 0 ≤ D.b1 ∧ D.b1 < 10 ^ 9) (r2 : 0 ≤ D.l2 ∧ D.l2 < 10 ^ 9 ∧ 0 ≤ D.c2 ∧ D.c2 < 10 ^ 9 ∧ 0 ≤ D.b2 ∧ D.b2 < 10 ^ 9)
  (vl vc : Option Value) (l3 : Addr) (t1 t2 t3 t4 t5 : Tok)
  (Dm : Mem hb h [] [(it, itO P 0 none #[]), (yc, celO vc), (yl, celO vl), (yt, celO (some (.ref D.K2))), (yk, celO (some (.ref D.K1))), (L, frO #[en w.params "script" t1 (.ref l3), en w.params "finds" t2 (.ref D.F), en w.params "onward" t3 (.ref D.ac), en w.params "upward" t4 (.ref D.ad), en w.params "prog" t5 (.ref D.pr)] 5)])
  (k : ∀ hb' h' tk vl' vc' t6 r, Kp hb hb' → Mem hb' h' [] [(yc, celO vc'), (yl, celO vl'), (yt, celO (some (.ref D.K2))), (yk, celO (some (.ref D.K1))), (L, frO #[en w.params "script" t1 (.ref l3), en w.params "finds" t2 (.ref D.F), en w.params "onward" t3 (.ref D.ac), en w.params "upward" t4 (.ref D.ad), en w.params "prog" t5 (.ref D.pr), en w.params "here" t6 (.ref r)] 6)] → R' (.ok .next) ⟨h', g, d, tk, os⟩) :
  codeAny (MM w) A (plC it (lenv yk yt yl yc L)) R' ⟨h, g, d, t, os⟩ := by
  obtain ⟨z, nP, s, qP, qz⟩ := H
  refine plcT hh hd hu hb _ g d _ os I yk yt yl yc L it P _ nP 0 qP (z 0) 1 0 _ _ rfl (qz 0 (by decide)) (by first | (refine lb (by assumption) ?_; rfl) | omega) (by first | (refine lb (by assumption) ?_; rfl) | omega) (by first | (refine lb (by assumption) ?_; rfl) | omega) (by first | (refine lb (by assumption) ?_; rfl) | omega) _ _ _ _ _ _ l3 t1 t2 t3 t4 t5 (t6 := fun tk => tk) (by kernel_rfl!) (by intro tk v; kernel_rfl!) Dm ?_
  clear Dm; intro g1 m1 tk1 dd1 sl1 vl1 vc1 tf1 r1 kp1 Dm
  replace I := I.kp kp1
  replace qP := kp1 _ _ qP
  replace qz := fun i hi => kp1 _ _ (qz i hi)
  refine plcT hh hd hu g1 _ g d _ os I yk yt yl yc L it P _ nP 1 qP (z 1) D.l0 D.c0 _ _ rfl (qz 1 (by decide)) (by first | (refine lb (by assumption) ?_; rfl) | omega) (by first | (refine lb (by assumption) ?_; rfl) | omega) (by first | (refine lb (by assumption) ?_; rfl) | omega) (by first | (refine lb (by assumption) ?_; rfl) | omega) _ _ _ _ _ _ l3 t1 t2 t3 t4 t5 (t6 := fun _ => tf1) (by kernel_rfl!) (by intro tk v; kernel_rfl!) Dm ?_
  clear Dm; intro g2 m2 tk2 dd2 sl2 vl2 vc2 tf2 r2 kp2 Dm
  replace I := I.kp kp2
  replace qP := kp2 _ _ qP
  replace qz := fun i hi => kp2 _ _ (qz i hi)
  replace kp2 : Kp hb g2 := fun b o e => kp2 b o (kp1 b o e)
  refine plcT hh hd hu g2 _ g d _ os I yk yt yl yc L it P _ nP 2 qP (z 2) D.l0 (D.c0 + 1) _ _ rfl (qz 2 (by decide)) (by first | (refine lb (by assumption) ?_; rfl) | omega) (by first | (refine lb (by assumption) ?_; rfl) | omega) (by first | (refine lb (by assumption) ?_; rfl) | omega) (by first | (refine lb (by assumption) ?_; rfl) | omega) _ _ _ _ _ _ l3 t1 t2 t3 t4 t5 (t6 := fun _ => tf2) (by kernel_rfl!) (by intro tk v; kernel_rfl!) Dm ?_
  clear Dm; intro g3 m3 tk3 dd3 sl3 vl3 vc3 tf3 r3 kp3 Dm
  replace I := I.kp kp3
  replace qP := kp3 _ _ qP
  replace qz := fun i hi => kp3 _ _ (qz i hi)
  replace kp3 : Kp hb g3 := fun b o e => kp3 b o (kp2 b o e)
  refine plcT hh hd hu g3 _ g d _ os I yk yt yl yc L it P _ nP 3 qP (z 3) D.l0 D.b0 _ _ rfl (qz 3 (by decide)) (by first | (refine lb (by assumption) ?_; rfl) | omega) (by first | (refine lb (by assumption) ?_; rfl) | omega) (by first | (refine lb (by assumption) ?_; rfl) | omega) (by first | (refine lb (by assumption) ?_; rfl) | omega) _ _ _ _ _ _ l3 t1 t2 t3 t4 t5 (t6 := fun _ => tf3) (by kernel_rfl!) (by intro tk v; kernel_rfl!) Dm ?_
  clear Dm; intro g4 m4 tk4 dd4 sl4 vl4 vc4 tf4 r4 kp4 Dm
  replace I := I.kp kp4
  replace qP := kp4 _ _ qP
  replace qz := fun i hi => kp4 _ _ (qz i hi)
  replace kp4 : Kp hb g4 := fun b o e => kp4 b o (kp3 b o e)
  refine plcT hh hd hu g4 _ g d _ os I yk yt yl yc L it P _ nP 4 qP (z 4) D.l1 D.c1 _ _ rfl (qz 4 (by decide)) (by first | (refine lb (by assumption) ?_; rfl) | omega) (by first | (refine lb (by assumption) ?_; rfl) | omega) (by first | (refine lb (by assumption) ?_; rfl) | omega) (by first | (refine lb (by assumption) ?_; rfl) | omega) _ _ _ _ _ _ l3 t1 t2 t3 t4 t5 (t6 := fun _ => tf4) (by kernel_rfl!) (by intro tk v; kernel_rfl!) Dm ?_
  clear Dm; intro g5 m5 tk5 dd5 sl5 vl5 vc5 tf5 r5 kp5 Dm
  replace I := I.kp kp5
  replace qP := kp5 _ _ qP
  replace qz := fun i hi => kp5 _ _ (qz i hi)
  replace kp5 : Kp hb g5 := fun b o e => kp5 b o (kp4 b o e)
  refine plcT hh hd hu g5 _ g d _ os I yk yt yl yc L it P _ nP 5 qP (z 5) D.l1 (D.c1 + 1) _ _ rfl (qz 5 (by decide)) (by first | (refine lb (by assumption) ?_; rfl) | omega) (by first | (refine lb (by assumption) ?_; rfl) | omega) (by first | (refine lb (by assumption) ?_; rfl) | omega) (by first | (refine lb (by assumption) ?_; rfl) | omega) _ _ _ _ _ _ l3 t1 t2 t3 t4 t5 (t6 := fun _ => tf5) (by kernel_rfl!) (by intro tk v; kernel_rfl!) Dm ?_
  clear Dm; intro g6 m6 tk6 dd6 sl6 vl6 vc6 tf6 r6 kp6 Dm
  replace I := I.kp kp6
  replace qP := kp6 _ _ qP
  replace qz := fun i hi => kp6 _ _ (qz i hi)
  replace kp6 : Kp hb g6 := fun b o e => kp6 b o (kp5 b o e)
  refine plcT hh hd hu g6 _ g d _ os I yk yt yl yc L it P _ nP 6 qP (z 6) D.l1 D.b1 _ _ rfl (qz 6 (by decide)) (by first | (refine lb (by assumption) ?_; rfl) | omega) (by first | (refine lb (by assumption) ?_; rfl) | omega) (by first | (refine lb (by assumption) ?_; rfl) | omega) (by first | (refine lb (by assumption) ?_; rfl) | omega) _ _ _ _ _ _ l3 t1 t2 t3 t4 t5 (t6 := fun _ => tf6) (by kernel_rfl!) (by intro tk v; kernel_rfl!) Dm ?_
  clear Dm; intro g7 m7 tk7 dd7 sl7 vl7 vc7 tf7 r7 kp7 Dm
  replace I := I.kp kp7
  replace qP := kp7 _ _ qP
  replace qz := fun i hi => kp7 _ _ (qz i hi)
  replace kp7 : Kp hb g7 := fun b o e => kp7 b o (kp6 b o e)
  refine plcT hh hd hu g7 _ g d _ os I yk yt yl yc L it P _ nP 7 qP (z 7) D.l2 D.c2 _ _ rfl (qz 7 (by decide)) (by first | (refine lb (by assumption) ?_; rfl) | omega) (by first | (refine lb (by assumption) ?_; rfl) | omega) (by first | (refine lb (by assumption) ?_; rfl) | omega) (by first | (refine lb (by assumption) ?_; rfl) | omega) _ _ _ _ _ _ l3 t1 t2 t3 t4 t5 (t6 := fun _ => tf7) (by kernel_rfl!) (by intro tk v; kernel_rfl!) Dm ?_
  clear Dm; intro g8 m8 tk8 dd8 sl8 vl8 vc8 tf8 r8 kp8 Dm
  replace I := I.kp kp8
  replace qP := kp8 _ _ qP
  replace qz := fun i hi => kp8 _ _ (qz i hi)
  replace kp8 : Kp hb g8 := fun b o e => kp8 b o (kp7 b o e)
  refine plcT hh hd hu g8 _ g d _ os I yk yt yl yc L it P _ nP 8 qP (z 8) D.l2 (D.c2 + 1) _ _ rfl (qz 8 (by decide)) (by first | (refine lb (by assumption) ?_; rfl) | omega) (by first | (refine lb (by assumption) ?_; rfl) | omega) (by first | (refine lb (by assumption) ?_; rfl) | omega) (by first | (refine lb (by assumption) ?_; rfl) | omega) _ _ _ _ _ _ l3 t1 t2 t3 t4 t5 (t6 := fun _ => tf8) (by kernel_rfl!) (by intro tk v; kernel_rfl!) Dm ?_
  clear Dm; intro g9 m9 tk9 dd9 sl9 vl9 vc9 tf9 r9 kp9 Dm
  replace I := I.kp kp9
  replace qP := kp9 _ _ qP
  replace qz := fun i hi => kp9 _ _ (qz i hi)
  replace kp9 : Kp hb g9 := fun b o e => kp9 b o (kp8 b o e)
  refine plcT hh hd hu g9 _ g d _ os I yk yt yl yc L it P _ nP 9 qP (z 9) D.l2 D.b2 _ _ rfl (qz 9 (by decide)) (by first | (refine lb (by assumption) ?_; rfl) | omega) (by first | (refine lb (by assumption) ?_; rfl) | omega) (by first | (refine lb (by assumption) ?_; rfl) | omega) (by first | (refine lb (by assumption) ?_; rfl) | omega) _ _ _ _ _ _ l3 t1 t2 t3 t4 t5 (t6 := fun _ => tf9) (by kernel_rfl!) (by intro tk v; kernel_rfl!) Dm ?_
  clear Dm; intro g10 m10 tk10 dd10 sl10 vl10 vc10 tf10 r10 kp10 Dm
  replace I := I.kp kp10
  replace qP := kp10 _ _ qP
  replace qz := fun i hi => kp10 _ _ (qz i hi)
  replace kp10 : Kp hb g10 := fun b o e => kp10 b o (kp9 b o e)
  refine codeAny_of_tree ?_
  obtain ⟨A1, hA⟩ : ∃ A1, A1 = A.under (plC it (lenv yk yt yl yc L)) := ⟨_, rfl⟩
  rw [← hA]
  show wpAny _ _ ((forTurn _ _ _ _ _).onRaise _) _ _ _
  refine noE ?_
  refine (?_ : Ar (A1.handled = none) _) (by rw [hA]; exact hh); intro hh1
  clear hA
  repeat walk_at "#3;;PN"
  refine wpAny_pyNext_list_end hh1 (of_itO (Mem.at Dm 0 _ _ rfl)) ⟨_, kp_mem Dm _ _ qP, rfl, _, rfl⟩ rfl ?_
  intro h9 eb9
  replace Dm := memErase Dm 0 rfl eb9
  dsimp only [List.eraseIdx] at Dm
  repeat walk_at "#3;;PN"
  refine ⟨rfl, codeAny_of_tree ?_⟩
  show wpAny _ _ (do return Fin.done (← (execs [] (lenv yk yt yl yc L)).onRaise _)) _ _ _
  repeat walk_at "#3;;PN"
  exact k g10 h9 _ _ _ _ _ kp10 Dm

end Mine
namespace Mine
variable {w : World} {A : Around} {Q : Value → Shared → Prop} {E : Value → Shared → Prop}
set_option tactic.hygienic false

theorem ordEq {l c : Int} : ordI l c l c = 0 := by unfold ordI; rw [if_pos ⟨rfl, rfl⟩]
theorem lawA (hh : A.handled = none) (hd : A.depth ≤ 390) (hu : A.units ≤ 2900) (h : Heap) (g : Array GenState) (d : Drawn) (t : Nat) (os : OsState) (X : (KX w.params).In h) (N : Nat) (hN1 : ∃ o, h.get? (103 + N) = some o) (hN2 : ∀ b o, h.get? b = some o → b ≤ 103 + N) (i30 : h.IsCode 34 30 #[]) (t30 : h.TableAt 34 30 #[]) (l : Addr) (vs : List Value) (ns : List Int) (dl : Option Addr) (nl : Nat) (sll : Array (Option Value))
  (hl : h.get? l = some ⟨.type "list", dl, .seq vs.toArray nl, sll⟩) (hi : IntsAre vs ns) (hsz : vs.toArray.size ≤ sizeLine) (h79 : h.get? 79 = some (tableObj #[])) (h86 : h.get? 86 = some (tableObj #[]))
  (k : ∀ h' tk, OZ h h' → Q (.bool true) ⟨h', g, d, tk, os⟩) :
  wpAny (MM w) A (call (.ref 103) [.ref l] []) Q E ⟨h, g, d, t, os⟩ := by
  have J : J34 N qK h := ⟨hN1, .inl ⟨i30, t30⟩⟩
  have f1 := kf103 X
  have f2 := kc102 X
  have f3 := k3 X
  have f42 := kf42 X
  have f35 := k35 X
  unfold code102 at f2
  refine wpAny_call (codeAny_of_tree ?_)
  show wpAny _ _ (callAny (.ref 103) _) _ _ _
  refine noE ?_
  refine (?_ : Ar _ _) (Mem.start h); intro Dm
  repeat walk_at "#6;;Set Get EF PI"
  refine allocB ((?_ : Aa _ _ _ _ _ _ (⟨.type "frame", none, .dict #[] 0, #[]⟩) _) _ _ (Mem.alloc Dm rfl))
  clear Dm; intro L hL Dm
  repeat walk_at "#6;;Set Get EF PI"
  refine allocB ((?_ : Aa _ _ _ _ _ _ (celO none) _) _ _ (Mem.alloc Dm rfl))
  clear Dm; intro yk hL1 Dm
  repeat walk_at "#6;;Set Get EF PI"
  refine allocB ((?_ : Aa _ _ _ _ _ _ (celO none) _) _ _ (Mem.alloc Dm rfl))
  clear Dm; intro yt hL2 Dm
  repeat walk_at "#6;;Set Get EF PI"
  refine allocB ((?_ : Aa _ _ _ _ _ _ (celO none) _) _ _ (Mem.alloc Dm rfl))
  clear Dm; intro yl hL3 Dm
  repeat walk_at "#6;;Set Get EF PI"
  refine allocB ((?_ : Aa _ _ _ _ _ _ (celO none) _) _ _ (Mem.alloc Dm rfl))
  clear Dm; intro yc hL4 Dm
  repeat walk_at "#6;;Set Get EF PI"
  refine nsSetB rfl Dm 4 rfl (by kernel_rfl!) ((?_ : Au _ _ _ _ _ _ _) _ (nsPutD (o' := fun tk => frO #[en w.params "script" tk (.ref l)] 1) Dm 4 rfl (by intro tk; kernel_rfl!) (fun _ => rfl)))
  clear Dm; intro hL5 Dm; dsimp only [List.set] at Dm
  repeat walk_at "#6;;Set Get EF PI"
  refine wpAny_enterFrame (nolim (X.keeps (kp_mem Dm))) (Nat.lt_of_le_of_lt hd (by decide)) ?_
  repeat walk_at "#6;;Set Get EF PI"
  refine ⟨rfl, codeAny_func (body := fbody 15) (env := lenv yk yt yl yc L) ?_⟩
  refine (?_ : Ar ((A.deeper (lenv yk yt yl yc L)).handled = none) _) (hh); intro dh
  refine (?_ : Ar ((A.deeper (lenv yk yt yl yc L)).depth ≤ 400) _) (by show A.depth + 1 ≤ 400; exact lbk 1 hd rfl); intro dd
  refine (?_ : Ar ((A.deeper (lenv yk yt yl yc L)).units ≤ 3000) _) (by show A.units + 3 ≤ 3000; exact lbk 3 hu rfl); intro du
  refine (?_ : Ar ((A.deeper (lenv yk yt yl yc L)).units < cLine) _) (Nat.lt_of_le_of_lt du (by decide)); intro hroom
  refine noE ?_
  repeat walk_at "#6;;Set Get EF PI"
  refine nsGetO (r := some (.ref 42)) Dm f3 (by kernel_rfl!) ?_
  repeat walk_at "#6;;Set Get EF PI"
  refine nsGetM (r := some (.ref l)) Dm 4 rfl (by kernel_rfl!) ?_
  repeat walk_at "#6;;Set Get EF PI"
  refine fnd dh (by first | (refine lb (by assumption) ?_; rfl) | omega) (by first | (refine lb (by assumption) ?_; rfl) | omega) _ g d _ os (X.keeps (kp_mem Dm)) l vs ns dl nl sll (kp_mem Dm _ _ hl) hi hsz ?_
  intro F h6 tk6 nF p0 p1 p2 l0 l1 l2 c0 c1 c2 b0 b1 b2 e6 kp6 hF hp0 hp1 hp2 r0 r0' r1 r1' r2 r2'
  obtain ⟨B1, D1, m1, o1, z1⟩ := reb Dm (fun _ _ => True) (fun b o e _ => kp6 b o e) (fun _ _ => trivial)
  have X1 : (KX w.params).In B1 := X.keeps fun b o e => o1 b o e trivial
  have J1 : J34 N qK B1 := J.kp (fun b o e => o1 b o e trivial) X1
  have zk1 : ∀ b o, h.get? b = some o → B1.get? b = some o := fun b o e => o1 b o e trivial
  have q79 := o1 _ _ h79 trivial
  have q86 := o1 _ _ h86 trivial
  have qF := m1 _ _ hF (by first | exact neC (by kernel_rfl!) | simp [celO, frO, lsO])
  have qp0 := m1 _ _ hp0 (by first | exact neC (by kernel_rfl!) | simp [celO, frO, tup3])
  have qp1 := m1 _ _ hp1 (by first | exact neC (by kernel_rfl!) | simp [celO, frO, tup3])
  have qp2 := m1 _ _ hp2 (by first | exact neC (by kernel_rfl!) | simp [celO, frO, tup3])
  clear Dm f1 f2 f3 f42 f35 m1 o1 z1 kp6 hF hp0 hp1 hp2 h79 h86 X J hl hN1 i30 t30
  have Dm := D1
  have f3 := k3 X1
  have f35 := k35 X1
  repeat walk_at "#6;;Set Get EF PI"
  refine nsSetB rfl Dm 4 rfl (by kernel_rfl!) ((?_ : Au _ _ _ _ _ _ _) _ (nsPutD (o' := fun tk => frO #[en w.params "script" t (.ref l), en w.params "finds" tk (.ref F)] 2) Dm 4 rfl (by intro tk; kernel_rfl!) (fun _ => rfl)))
  clear Dm; intro h7 Dm; dsimp only [List.set] at Dm
  repeat walk_at "#6;;Set Get EF PI"
  refine nsGetO (r := some (.ref 35)) Dm f3 (by kernel_rfl!) ?_
  repeat walk_at "#6;;Set Get EF PI"
  refine nsGetO (r := some (.ref 63)) Dm f3 (by kernel_rfl!) ?_
  repeat walk_at "#6;;Set Get EF PI"
  refine ck dh (by first | (refine lb (by assumption) ?_; rfl) | omega) (by first | (refine lb (by assumption) ?_; rfl) | omega) _ g d _ os (.ref 63) (X1.keeps (kp_mem Dm)) (J1.kp (kp_mem Dm) (X1.keeps (kp_mem Dm))) ?_
  intro K1 h8 tk8 kl8 X8 J8 IK8
  obtain ⟨B2, D2, m2, o2, z2⟩ := reb Dm (PK N) (fun b o e c => kl8 b o e (fun m => nomatch m) c) (pkAll (by kernel_rfl!))
  have X2 : (KX w.params).In B2 := kxP X1 o2
  have zk2 : ∀ b o, h.get? b = some o → b ≠ 30 → B2.get? b = some o := fun b o e n => o2 b o (zk1 b o e) (.inr ⟨hN2 b o e, n⟩)
  have J2 : J34 N qK B2 := j34Kd J8 (J1.1.elim fun o z => ⟨o, o2 _ o z (.inr ⟨Nat.le_refl _, Nat.ne_of_gt (by omega : 30 < 103 + N)⟩)⟩) fun b o e ⟨vs, hv⟩ => m2 b o e (by rintro p hp rfl; simp [celO, frO] at hp; rcases hp with rfl | rfl | rfl | rfl | rfl <;> cases hv)
  have IK2 : IsK w.params B2 K1 (.ref 63) := isKd IK8 fun b o e n1 n2 => m2 b o e (by rintro p hp rfl; simp at hp; rcases hp with rfl | rfl | rfl | rfl | rfl <;> first | exact absurd (n2 rfl) (by simp [celO]) | exact n1 rfl)
  replace q79 := o2 _ _ q79 (.inr ⟨Nat.le_trans (by decide : 79 ≤ 103) (Nat.le_add_right _ _), by decide⟩)
  replace q86 := o2 _ _ q86 (.inr ⟨Nat.le_trans (by decide : 86 ≤ 103) (Nat.le_add_right _ _), by decide⟩)
  replace qF := o2 _ _ qF (.inl rfl)
  replace qp0 := o2 _ _ qp0 (.inl rfl)
  replace qp1 := o2 _ _ qp1 (.inl rfl)
  replace qp2 := o2 _ _ qp2 (.inl rfl)
  clear Dm D1 f3 f35 X1 J1 zk1 m2 o2 z2 kl8 X8 J8 IK8
  have Dm := D2
  have f3 := k3 X2
  have f35 := k35 X2
  repeat walk_at "#6;;Set Get EF PI"
  refine updB' Dm 3 rfl ((?_ : Au _ _ _ _ _ _ _) _ (updD (o' := celO (some (.ref K1))) Dm 3 rfl rfl rfl))
  clear Dm; intro h9 Dm; dsimp only [List.set] at Dm
  repeat walk_at "#6;;Set Get EF PI"
  refine nsGetO (r := some (.ref 35)) Dm f3 (by kernel_rfl!) ?_
  repeat walk_at "#6;;Set Get EF PI"
  refine nsGetO (r := some (.ref 70)) Dm f3 (by kernel_rfl!) ?_
  repeat walk_at "#6;;Set Get EF PI"
  refine ck dh (by first | (refine lb (by assumption) ?_; rfl) | omega) (by first | (refine lb (by assumption) ?_; rfl) | omega) _ g d _ os (.ref 70) (X2.keeps (kp_mem Dm)) (J2.kp (kp_mem Dm) (X2.keeps (kp_mem Dm))) ?_
  intro K2 h10 tk10 kl10 X10 J10 IK10
  have k70 : K1 ≠ 70 := by
    rintro rfl
    obtain ⟨_, _, _, _, a1⟩ := IK2.c
    rw [kf70 X2] at a1
    simp [kclsObj] at a1
  obtain ⟨B3, D3, m3, o3, z3⟩ := reb Dm (PK N) (fun b o e c => kl10 b o e (fun m => nomatch m) c) (pkAll (by kernel_rfl!))
  have X3 : (KX w.params).In B3 := kxP X2 o3
  have zk3 : ∀ b o, h.get? b = some o → b ≠ 30 → B3.get? b = some o := fun b o e n => o3 b o (zk2 b o e n) (.inr ⟨hN2 b o e, n⟩)
  have zt3 : ∃ vs, B3.get? 30 = some (tableObj vs) := J10.tab.elim fun ps e => ⟨ps, m3 _ _ e (by first | exact neC (by kernel_rfl!) | simp [celO, frO, tableObj])⟩
  have IK3 : IsK w.params B3 K1 (.ref 63) := IK2.kl fun b o e _ c => o3 b o e (c.imp id fun z => ⟨Nat.le_trans z.1 (Nat.le_add_right 103 N), z.2⟩)
  have JK3 : IsK w.params B3 K2 (.ref 70) := isKd IK10 fun b o e n1 n2 => m3 b o e (by rintro p hp rfl; simp at hp; rcases hp with rfl | rfl | rfl | rfl | rfl <;> first | exact absurd (n2 rfl) (celne k70) | exact n1 rfl | exact absurd (n2 rfl) (by simp [celO]))
  replace q79 := o3 _ _ q79 (.inr ⟨Nat.le_trans (by decide : 79 ≤ 103) (Nat.le_add_right _ _), by decide⟩)
  replace q86 := o3 _ _ q86 (.inr ⟨Nat.le_trans (by decide : 86 ≤ 103) (Nat.le_add_right _ _), by decide⟩)
  replace qF := o3 _ _ qF (.inl rfl)
  replace qp0 := o3 _ _ qp0 (.inl rfl)
  replace qp1 := o3 _ _ qp1 (.inl rfl)
  replace qp2 := o3 _ _ qp2 (.inl rfl)
  clear Dm D2 f3 f35 X2 J2 m3 o3 z3 kl10 X10 J10 IK10 IK2 zk2 hN2 N B1
  have Dm := D3
  have f3 := k3 X3
  repeat walk_at "#6;;Set Get EF PI"
  refine updB' Dm 2 rfl ((?_ : Au _ _ _ _ _ _ _) _ (updD (o' := celO (some (.ref K2))) Dm 2 rfl rfl rfl))
  clear Dm; intro h11 Dm; dsimp only [List.set] at Dm
  repeat walk_at "#6;;Set Get EF PI"
  refine nsGetM (r := some (.ref F)) Dm 4 rfl (by kernel_rfl!) ?_
  repeat walk_at "#6;;Set Get EF PI"
  refine pyIterM Dm (kp_mem Dm _ _ qF) ?_
  clear Dm; intro it h12 Dm
  repeat walk_at "#6;;Set Get EF PI"
  refine allocB ((?_ : Aa _ _ _ _ _ _ (lsO #[] 0) _) _ _ (Mem.alloc Dm rfl))
  clear Dm; intro ac h13 Dm
  repeat walk_at "#6;;Set Get EF PI"
  refine allocB ((?_ : Aa _ _ _ _ _ _ (dcO #[] 0) _) _ _ (Mem.alloc Dm rfl))
  clear Dm; intro Lc h14 Dm
  repeat walk_at "#6;;Set Get EF PI"
  refine wpAny_run ?_
  show codeAny (MM w) _ (cpS 3 "key" yk L Lc it ac) _ _
  have fb : Fb w.params B3 F K1 K2 nF p0 p1 p2 l0 l1 l2 c0 c1 c2 b0 b1 b2 e6 := ⟨IK3, JK3, qF, qp0, qp1, qp2⟩
  clear IK3 JK3 qF qp0 qp1 qp2
  obtain ⟨rh0, rh1, rh2, or3⟩ := rgs r0 r0' r1 r1' r2 r2'
  clear r0 r0' r1 r1' r2 r2'
  refine onwC dh dd du B3 _ g d _ os X3 (T79.start X3 q79) yk L Lc it ac F K1 (.ref 63) fb.IK nF p0 p1 p2 l0 l1 l2 c0 c1 c2 b0 b1 b2 _ _ _ _ _ _ _ _ _ fb.qF fb.q0 fb.q1 fb.q2 (r9 rh0) (r9 rh1) (r9 rh2) _ (.tail _ (.tail _ (.tail _ (.head _)))) (ro5 fb.IK fb.JK) Dm ?_
  clear Dm
  intro B4 h20 tk20 na20 tf20 a0 a1 a2 x0 y0 x1 y1 x2 y2 o4 ht4 r3 Dm
  have kc4 : Kc B3 B4 := fun b o e c => o4 b o e (T79.ne (T79.start X3 q79) e c)
  replace fb := fb.kc kc4
  have X4 := kxBut X3 (kx79 _) o4
  have zk4 : ∀ b o, h.get? b = some o → b ≠ 30 → b ≠ 79 → B4.get? b = some o := fun b o e n n' => o4 b o (zk3 b o e n) n'
  have zt4 : ∃ vs, B4.get? 30 = some (tableObj vs) := zt3.imp fun _ e => o4 _ _ e (by decide)
  replace q86 := o4 _ _ q86 (by decide)
  clear X3 q79 f3 D3 zk3 zt3
  have f3 := k3 X4
  have qF := fb.qF
  show Then _ _ _ _ _ _ _
  repeat walk_at "#12;tlGL tl_neg slot_neg.bind*;Set Get PI GI Del"
  refine nsSetB rfl Dm 6 rfl (by kernel_rfl!) ((?_ : Au _ _ _ _ _ _ _) _ (nsPutD (o' := fun tk => frO #[en w.params "script" t (.ref l), en w.params "finds" tk6 (.ref F), en w.params "onward" tk (.ref ac)] 3) Dm 6 rfl (by intro tk; kernel_rfl!) (fun _ => rfl)))
  clear Dm; intro h21 Dm; dsimp only [List.set] at Dm
  repeat walk_at "#12;tlGL tl_neg slot_neg.bind*;Set Get PI GI Del"
  refine nsGetM (r := some (.ref p2)) Dm 0 rfl (by kernel_rfl!) ?_
  repeat walk_at "#12;tlGL tl_neg slot_neg.bind*;Set Get PI GI Del"
  refine nsDelB rfl Dm 0 rfl (by kernel_rfl!) ((?_ : Au _ _ _ _ _ _ _) _ (nsOutD (o' := dcO #[] 2) Dm 0 rfl (by kernel_rfl!) rfl))
  clear Dm; intro h22 Dm; dsimp only [List.set] at Dm
  refine (?_ : Ar _ _) (memForget Dm 0); clear Dm; intro Dm
  dsimp only [List.eraseIdx] at Dm
  repeat walk_at "#12;tlGL tl_neg slot_neg.bind*;Set Get PI GI Del"
  refine nsGetM (r := some (.ref F)) Dm 5 rfl (by kernel_rfl!) ?_
  repeat walk_at "#12;tlGL tl_neg slot_neg.bind*;Set Get PI GI Del"
  refine deep (negC w ⟨h22, g, d, _, os⟩ (X4.keeps (kp_mem Dm)) _ _ _ ?_) dh (Nat.le_trans dd (by decide)) (Nat.le_trans du (by decide))
  intro v23 h23 tk23 kp23
  replace Dm := memKp Dm kp23
  repeat walk_at "#12;tlGL tl_neg slot_neg.bind*;Set Get PI GI Del"
  refine allocB ((?_ : Aa _ _ _ _ _ _ (⟨.type "slice", none, .fields #[.none, .none, .int (-1) v23], #[]⟩) _) _ _ (Mem.alloc Dm rfl))
  clear Dm; intro sl h24 Dm
  repeat walk_at "#12;tlGL tl_neg slot_neg.bind*;Set Get PI GI Del"
  refine lstSlice (lo := none) (hi := none) (st := some (-1)) Dm (kp_mem Dm _ _ fb.qF) (Mem.at Dm 0 _ _ rfl) .none .none (.int _ _) (by decide) (Nat.le_of_ble_eq_true rfl) ?_
  clear Dm; intro rv h25 Dm
  rw [show slicePick #[.ref p0, .ref p1, .ref p2] none none (some (-1)) = #[.ref p2, .ref p1, .ref p0] by kernel_rfl!] at Dm
  repeat walk_at "#12;tlGL tl_neg slot_neg.bind*;Set Get PI GI Del"
  refine pyIterM Dm (Mem.at Dm 0 _ _ rfl) ?_
  clear Dm; intro it2 h26 Dm
  repeat walk_at "#12;tlGL tl_neg slot_neg.bind*;Set Get PI GI Del"
  refine allocB ((?_ : Aa _ _ _ _ _ _ (lsO #[] 0) _) _ _ (Mem.alloc Dm rfl))
  clear Dm; intro ad h27 Dm
  repeat walk_at "#12;tlGL tl_neg slot_neg.bind*;Set Get PI GI Del"
  refine allocB ((?_ : Aa _ _ _ _ _ _ (dcO #[] 0) _) _ _ (Mem.alloc Dm rfl))
  clear Dm; intro Ld h28 Dm
  repeat walk_at "#12;tlGL tl_neg slot_neg.bind*;Set Get PI GI Del"
  refine wpAny_run ?_
  show codeAny (MM w) _ (cpS 4 "turned" yt L Ld it2 ad) _ _
  refine (?_ : Ar _ _) (Mem.at Dm 3 _ _ rfl); intro hrv
  refine (?_ : Ar _ _) (Mem.at Dm 5 _ _ rfl); intro hac
  refine (?_ : Ar _ _) (memForget (memForget (memForget Dm 5) 4) 3); clear Dm; intro Dm
  dsimp only [List.eraseIdx] at Dm
  obtain ⟨B5, D5, m5, o5, z5⟩ := reb Dm (fun _ _ => True) (fun b o e _ => e) (fun _ _ => trivial)
  have kc5 : Kc B4 B5 := fun b o e _ => o5 b o e trivial
  have qrv := m5 _ _ hrv (by first | exact neC (by kernel_rfl!) | simp [celO, frO, lsO, dcO])
  have qac := m5 _ _ hac (by first | exact neC (by kernel_rfl!) | simp [celO, frO, lsO, dcO])
  have zk5 : ∀ b o, h.get? b = some o → b ≠ 30 → b ≠ 79 → B5.get? b = some o := fun b o e n n' => o5 b o (zk4 b o e n n') trivial
  have zt5 : ∃ vs, B5.get? 30 = some (tableObj vs) := zt4.imp fun _ e => o5 _ _ e trivial
  have X5 : (KX w.params).In B5 := X4.keeps fun b o e => o5 b o e trivial
  replace fb := fb.kc kc5
  replace r3 := r3.kc kc5
  replace q86 := o5 _ _ q86 trivial
  replace ht4 : HitT B5 := HitT.but ht4 fun b o e => o5 b o e trivial
  clear zk4 zt4 Dm m5 o5 z5 kc5 hrv hac X4 f3 kc4 o4 kp23 qF
  have Dm := D5
  clear D5
  refine upwC dh dd du B5 _ g d _ os X5 ht4 yt L Ld it2 ad rv K2 (.ref 70) fb.JK 0 p2 p1 p0 l2 l1 l0 c2 c1 c0 b2 b1 b0 _ _ _ _ _ _ _ _ _ qrv fb.q2 fb.q1 fb.q0 (r9 rh2) (r9 rh1) (r9 rh0) _ (.tail _ (.tail _ (.head _))) (ro5 fb.IK fb.JK) Dm ?_
  clear Dm
  intro B6 h30 tk30 na30 tf30 d2 d1 d0 u2 v2 u1 v1 u0 v0 o6 ht6 s3 Dm
  have kc6 : Kc B5 B6 := fun b o e c => o6 b o e (T79.ne ht4 e c)
  replace qac := kc6 _ _ qac lsN
  replace fb := fb.kc kc6
  replace r3 := r3.kc kc6
  have X6 := kxBut X5 (kx79 _) o6
  have zk6 : ∀ b o, h.get? b = some o → b ≠ 30 → b ≠ 79 → B6.get? b = some o := fun b o e n n' => o6 b o (zk5 b o e n n') n'
  have zt6 : ∃ vs, B6.get? 30 = some (tableObj vs) := zt5.imp fun _ e => o6 _ _ e (by decide)
  have zu6 : ∃ vs, B6.get? 79 = some (tableObj vs) := ht6.tab
  replace q86 := o6 _ _ q86 (by decide)
  clear X5 ht4 o6 kc6 qrv ht6 zk5 zt5
  have f3 := k3 X6
  have f91 := kf91 X6
  show Then _ _ _ _ _ _ _
  repeat walk_at "#8;;Set Get PI Del"
  refine nsSetB rfl Dm 6 rfl (by kernel_rfl!) ((?_ : Au _ _ _ _ _ _ _) _ (nsPutD (o' := fun tk => frO #[en w.params "script" t (.ref l), en w.params "finds" tk6 (.ref F), en w.params "onward" tk20 (.ref ac), en w.params "upward" tk (.ref ad)] 4) Dm 6 rfl (by intro tk; kernel_rfl!) (fun _ => rfl)))
  clear Dm; intro h31 Dm; dsimp only [List.set] at Dm
  repeat walk_at "#8;;Set Get PI Del"
  refine nsGetM (r := some (.ref p0)) Dm 0 rfl (by kernel_rfl!) ?_
  repeat walk_at "#8;;Set Get PI Del"
  refine nsDelB rfl Dm 0 rfl (by kernel_rfl!) ((?_ : Au _ _ _ _ _ _ _) _ (nsOutD (o' := dcO #[] 2) Dm 0 rfl (by kernel_rfl!) rfl))
  clear Dm; intro h32 Dm; dsimp only [List.set] at Dm
  refine (?_ : Ar _ _) (memForget Dm 0); clear Dm; intro Dm
  dsimp only [List.eraseIdx] at Dm
  repeat walk_at "#8;;Set Get PI Del"
  refine nsGetO (r := some (.ref 91)) Dm f3 (by kernel_rfl!) ?_
  repeat walk_at "#8;;Set Get PI Del"
  refine prgU dh (Nat.le_trans dd (by decide)) (Nat.le_trans du (by decide)) (X6.keeps (kp_mem Dm)) (kp_mem Dm _ _ q86) ?_
  intro pr h33 tk33 eb33 pp33 t86
  have n86 : ∀ (b : Addr) (o : Obj), h32.get? b = some o → o.cls ≠ .none → b ≠ 86 := by
    intro b o e c eb
    subst eb
    have := kp_mem Dm _ _ q86
    rw [e] at this; cases this; exact c rfl
  have had := eb33 _ _ (n86 _ _ (Mem.at Dm 0 _ _ rfl) lsN) (Mem.at Dm 0 _ _ rfl)
  replace Dm := memForget Dm 0
  dsimp only [List.eraseIdx] at Dm
  obtain ⟨B7, D7, m7, o7, z7⟩ := reb Dm (fun b _ => b ≠ 86) (fun b o e c => eb33 b o c e) (by
    intro p hp
    have h1 := (Dm.nw p hp).1
    refine n86 _ _ h1 ?_
    simp only [List.mem_cons, List.not_mem_nil, or_false] at hp
    rcases hp with rfl | rfl | rfl | rfl | rfl <;> simp [celO, frO])
  have kc7 : Kc B6 B7 := fun b o e c => o7 b o e (n86 b o (kp_mem Dm _ _ e) c)
  have qad := m7 _ _ had (by first | exact neC (by kernel_rfl!) | simp [celO, frO, lsO])
  have oz7 : OZ h B7 := ⟨fun b o e n n' n'' => o7 b o (zk6 b o e n n') n'', zt6.imp fun _ e => o7 _ _ e (by decide), zu6.imp fun _ e => o7 _ _ e (by decide), t86.imp fun _ e => m7 _ _ e (by first | exact neC (by kernel_rfl!) | simp [celO, frO, tableObj])⟩
  have X7 : (KX w.params).In B7 := kxBut X6 (kx86 _) o7
  replace fb := fb.kc kc7
  replace r3 := r3.kc kc7
  replace s3 := s3.kc kc7
  have pp7 : ProgP B7 pr := pp33.kd (fun b o e kd => m7 b o e (by
    intro p hp e2
    simp only [List.mem_cons, List.not_mem_nil, or_false] at hp
    rcases hp with rfl | rfl | rfl | rfl | rfl <;> subst e2 <;> simp [celO, frO] at kd))
  replace qac := kc7 _ _ qac lsN
  clear zk6 zt6 zu6 t86 Dm m7 o7 z7 kc7 pp33 had n86 eb33 q86 X6 f3 f91
  have Dm := D7
  have f3 := k3 X7
  have f49 := kf49 X7
  repeat walk_at "#8;;Set Get PI Del"
  refine nsSetB rfl Dm 4 rfl (by kernel_rfl!) ((?_ : Au _ _ _ _ _ _ _) _ (nsPutD (o' := fun tk => frO #[en w.params "script" t (.ref l), en w.params "finds" tk6 (.ref F), en w.params "onward" tk20 (.ref ac), en w.params "upward" tk30 (.ref ad), en w.params "prog" tk (.ref pr)] 5) Dm 4 rfl (by intro tk; kernel_rfl!) (fun _ => rfl)))
  clear Dm; intro h34 Dm; dsimp only [List.set] at Dm
  repeat walk_at "#8;;Set Get PI Del"
  refine nsGetO (r := some (.ref 49)) Dm f3 (by kernel_rfl!) ?_
  repeat walk_at "#8;;Set Get PI Del"
  refine nsGetM (r := some (.ref F)) Dm 4 rfl (by kernel_rfl!) ?_
  repeat walk_at "#8;;Set Get PI Del"
  refine plc dh (Nat.le_trans dd (by decide)) (Nat.le_trans du (by decide)) h34 g d _ os (X7.keeps (kp_mem Dm)) F p0 p1 p2 nF l0 l1 l2 c0 c1 c2 b0 b1 b2 _ _ _ _ _ _ _ _ _ (kp_mem Dm _ _ fb.qF) (kp_mem Dm _ _ fb.q0) (kp_mem Dm _ _ fb.q1) (kp_mem Dm _ _ fb.q2) ?_
  intro P h35 tk35 kp35 plp
  obtain ⟨B8, D8, m8, o8, z8⟩ := reb Dm (fun _ _ => True) (fun b o e _ => kp35 b o e) (fun _ _ => trivial)
  have kc8 : Kc B7 B8 := fun b o e _ => o8 b o e trivial
  have plp := plp.kd fun b o e c => m8 b o e (by
    intro p hp e2
    simp only [List.mem_cons, List.not_mem_nil, or_false] at hp
    rcases hp with rfl | rfl | rfl | rfl | rfl <;> subst e2 <;> simp [celO, frO] at c)
  have X8 : (KX w.params).In B8 := X7.keeps fun b o e => o8 b o e trivial
  replace fb := fb.kc kc8
  replace r3 := r3.kc kc8
  replace s3 := s3.kc kc8
  have oz8 := oz7.kp fun b o e => o8 b o e trivial
  have pp8 := pp7.kd (fun b o e _ => o8 b o e trivial)
  replace qac := kc8 _ _ qac lsN
  replace qad := kc8 _ _ qad lsN
  clear oz7 Dm m8 o8 z8 kc8 kp35 X7 f3 f49 pp7
  have Dm := D8
  clear D8 D7
  have f3 := k3 X8
  repeat walk_at "#8;;Set Get PI Del"
  obtain ⟨_, _, qP⟩ := plp.l
  refine pyIterM Dm (kp_mem Dm _ _ qP) ?_
  clear Dm; intro it3 h36 Dm
  repeat walk_at "#8;;Set Get PI Del"
  refine wpAny_run ?_
  show codeAny (MM w) _ (plC it3 (lenv yk yt yl yc L)) _ _
  clear qP
  have I : Lw w.params B8 ⟨F, ac, ad, pr, K1, K2, p0, p1, p2, l0, l1, l2, c0, c1, c2, b0, b1, b2, nF, 0, 0, e6, a0, a1, a2, x0, x1, x2, y0, y1, y2, d0, d1, d2, u0, u1, u2, v0, v1, v2⟩ := ⟨X8, fb.IK, fb.JK, pp8, fb.qF, fb.q0, fb.q1, fb.q2, rowO qac r3, rowU qad s3, or3⟩
  clear X8 fb r3 s3 pp8 or3 f3
  refine plcW dh dd du B8 _ g d _ os I yk yt yl yc L it3 P plp rh0 rh1 rh2 _ _ l _ _ _ _ _ Dm ?_
  clear Dm; intro B9 h40 tk40 ml mc th r9 kp9 Dm
  replace I := I.kp kp9
  have oz9 := oz8.kp kp9
  replace qac := kp9 _ _ qac
  replace qad := kp9 _ _ qad
  dsimp only at Dm
  have X9 := I.X
  have f3 := k3 X9
  clear kp9 plp rh0 rh1 rh2
  show Then _ _ _ _ _ _ _
  repeat walk_at "#8;tlG3 tlGL;Get PI GI GA"
  refine nsGetM (r := some (.ref ac)) Dm 4 rfl (by kernel_rfl!) ?_
  repeat walk_at "#8;tlG3 tlGL;Get PI GI GA"
  refine wpAny_getItem_list (k := 0) (x := .ref a0) ⟨_, kp_mem Dm _ _ qac, rfl, _, rfl⟩ (by decide) (by decide) rfl ?_
  repeat walk_at "#8;tlG3 tlGL;Get PI GI GA"
  refine nsGetM (r := some (.ref ad)) Dm 4 rfl (by kernel_rfl!) ?_
  repeat walk_at "#8;tlG3 tlGL;Get PI GI GA"
  refine wpAny_getItem_list (k := 2) (x := .ref d0) ⟨_, kp_mem Dm _ _ qad, rfl, _, rfl⟩ (by decide) (by decide) rfl ?_
  repeat walk_at "#8;tlG3 tlGL;Get PI GI GA"
  refine allocB ((?_ : Aa _ _ _ _ _ _ (lsO #[.ref a0, .ref d0] 0) _) _ _ (Mem.alloc Dm rfl))
  clear Dm; intro ls h41 Dm
  repeat walk_at "#8;tlG3 tlGL;Get PI GI GA"
  refine pyIterM Dm (Mem.at Dm 0 _ _ rfl) ?_
  clear Dm; intro it4 h42 Dm
  repeat walk_at "#8;tlG3 tlGL;Get PI GI GA"
  refine wpAny_run ?_
  show codeAny (MM w) _ (fvC it4 (lenv yk yt yl yc L)) _ _
  refine (?_ : Ar _ _) (Mem.at Dm 1 _ _ rfl); intro hls
  refine (?_ : Ar _ _) (memForget Dm 1); clear Dm; intro Dm
  dsimp only [List.eraseIdx] at Dm
  obtain ⟨B10, D10, m10, o10, z10⟩ := reb Dm (fun _ _ => True) (fun b o e _ => e) (fun _ _ => trivial)
  replace hls := m10 _ _ hls (by first | exact neC (by kernel_rfl!) | simp [celO, frO, lsO])
  replace I := I.kp fun b o e => o10 b o e trivial
  have oz10 := oz9.kp fun b o e => o10 b o e trivial
  replace qac := o10 _ _ qac trivial
  replace qad := o10 _ _ qad trivial
  clear Dm m10 o10 z10 X9 f3
  refine fvW dh dd du B10 _ g d _ os I yk yt yl yc L it4 ls _ hls _ _ _ _ _ _ _ _ _ _ _ _ _ _ _ _ D10 ?_
  clear D10; intro B11 h43 tk43 ta tb tc kp11 Dm
  replace I := I.kp kp11
  have oz11 := oz10.kp kp11
  clear oz8 oz9 oz10
  replace qac := kp11 _ _ qac
  replace qad := kp11 _ _ qad
  dsimp only at Dm
  have X := I.X
  clear hls kp11
  have f3 := k3 X
  have f77 := kf77 X
  have f21 := k21 X
  have qF := I.qF
  have qp0 := I.q0
  have h0 := I.on.2 _ (.head _)
  have IK := I.IK
  have pp := I.pp
  dsimp only at qF qp0 h0 IK pp
  obtain ⟨_, _, fE⟩ := h0.1.f
  obtain ⟨N, bt, tq1, tq2, fK⟩ := IK.c
  have or3 := I.or3
  clear I
  show Then _ _ _ _ _ _ _
  repeat walk_at "#8;tlG3 tlGL;Get PI GI GA"
  refine nsGetO (r := some (.ref 77)) Dm f3 (by kernel_rfl!) ?_
  repeat walk_at "#8;tlG3 tlGL;Get PI GI GA"
  refine nsGetM (r := some (.ref ac)) Dm 4 rfl (by kernel_rfl!) ?_
  repeat walk_at "#8;tlG3 tlGL;Get PI GI GA"
  refine wpAny_getItem_list (k := 0) (x := .ref a0) ⟨_, kp_mem Dm _ _ qac, rfl, _, rfl⟩ (by decide) (by decide) rfl ?_
  repeat walk_at "#8;tlG3 tlGL;Get PI GI GA"
  refine (gaHit dh (Nat.le_trans dd (by decide)) (Nat.le_trans du (by decide)) h43 g d _ os true (X.keeps (kp_mem Dm)) (h0.1.kp (kp_mem Dm))).1 ?_
  intro h44 tk44 kp44
  replace Dm := memKp Dm kp44
  clear kp44
  repeat walk_at "#8;tlG3 tlGL;Get PI GI GA"
  refine deep (letGoC w ⟨h44, g, d, _, os⟩ (X.keeps (kp_mem Dm)) _ _ ?_) dh (Nat.le_trans dd (by decide)) (Nat.le_trans du (by decide))
  intro vg0 h44 tk44 kp44
  replace Dm := memKp Dm kp44
  clear kp44
  repeat walk_at "#8;tlG3 tlGL;Get PI GI GA"
  refine nsGetM (r := some (.ref F)) Dm 4 rfl (by kernel_rfl!) ?_
  repeat walk_at "#8;tlG3 tlGL;Get PI GI GA"
  refine wpAny_getItem_list (k := 0) (x := .ref p0) ⟨_, kp_mem Dm _ _ qF, rfl, _, rfl⟩ (by decide) (by decide) rfl ?_
  repeat walk_at "#8;tlG3 tlGL;Get PI GI GA"
  refine allocB ((?_ : Aa _ _ _ _ _ _ (⟨.type "slice", none, .fields #[.none, .int 2 _, .none], #[]⟩) _) _ _ (Mem.alloc Dm rfl))
  clear Dm; intro sl6 h45 Dm
  repeat walk_at "#8;tlG3 tlGL;Get PI GI GA"
  refine tupSlice (X.keeps (kp_mem Dm)) (kp_mem Dm _ _ qp0) (Mem.at Dm 0 _ _ rfl) ?_
  intro ts h46 tk46 kp46 hts
  replace Dm := memForget (memKp Dm kp46) 0
  dsimp only [List.eraseIdx] at Dm
  clear kp46
  repeat walk_at "#8;tlG3 tlGL;Get PI GI GA"
  refine deep (letGoC w ⟨h46, g, d, _, os⟩ (X.keeps (kp_mem Dm)) _ _ ?_) dh (Nat.le_trans dd (by decide)) (Nat.le_trans du (by decide))
  intro vg1 h47 tk47 kp47
  replace Dm := memKp Dm kp47
  replace hts := kp47 _ _ hts
  clear kp47
  repeat walk_at "#8;tlKC;Get CO"
  refine mkK dh (Nat.le_trans dd (by decide)) (Nat.le_trans du (by decide)) (X.keeps (kp_mem Dm)) (IK.kl (.of_kp (kp_mem Dm))) ?_
  intro xk h48 tk48 kp48 hx
  have hk : Key h48 K1 xk l0 c0 := hx.elim fun dx e => ⟨dx, ts, _, _, e, kp48 _ _ hts⟩
  replace Dm := memKp Dm kp48
  repeat walk_at "#8;tlKC;Get CO"
  refine five dh (Nat.le_trans dd (by decide)) (Nat.le_trans du (by decide)) _ g d _ os (X.keeps (kp_mem Dm)) 63 _ ordI (cmp63 w) K1 x0 xk l0 c0 l0 c0 (IK.kl (.of_kp (kp_mem Dm))) (kf63 (X.keeps (kp_mem Dm))) (h0.2.1.kp (kp_mem Dm)) hk ?_
  intro r5 h49 tk49 kp49 hr5
  rw [ordEq] at hr5
  obtain ⟨B12, D12, m12, o12, z12⟩ := reb Dm (fun _ _ => True) (fun b o e _ => kp49 b o e) (fun _ _ => trivial)
  replace hr5 := m12 _ _ hr5 (by first | exact neC (by kernel_rfl!) | simp [celO, frO, lsO])
  have kq : Kp B11 B12 := fun b o e => o12 b o e trivial
  replace X := X.keeps kq
  have oz12 := oz11.kp kq
  replace IK := isKc IK fun b o e _ => kq b o e
  replace pp := pp.kp kq
  replace fK := kq _ _ fK
  clear Dm m12 o12 z12 kq kp48 kp49 hk hx hts f3 f77 f21 qF qp0 h0 fE qac qad
  have Dm := D12
  clear D12
  have f3 := k3 X
  have f21 := k21 X
  repeat walk_at "#8;tlKC;Get CO"
  refine allocB ((?_ : Aa _ _ _ _ _ _ (lsO #[.bool false, .bool true, .bool true, .bool true, .bool false] 0) _) _ _ (Mem.alloc Dm rfl))
  clear Dm; intro q5 h50 Dm
  repeat walk_at "#8;tlKC;Get CO"
  refine neLst (Nat.le_trans du (by decide)) (kp_mem Dm _ _ hr5) (Mem.at Dm 0 _ _ rfl) ?_
  refine (?_ : Ar _ _) (memForget Dm 0); clear Dm; intro Dm
  dsimp only [List.eraseIdx] at Dm
  repeat walk_at "#8;tlKC;Get CO"
  refine nsGetO (r := some (.ref 21)) Dm f3 (by kernel_rfl!) ?_
  repeat walk_at "#8;tlKC;Get CO"
  refine nsGetM (r := some (.ref pr)) Dm 4 rfl (by kernel_rfl!) ?_
  repeat walk_at "#8;tlKC;Get CO"
  refine allocB ((?_ : Aa _ _ _ _ _ _ (lsO #[] 0) _) _ _ (Mem.alloc Dm rfl))
  clear Dm; intro el h51 Dm
  repeat walk_at "#8;tlKC;Get CO"
  refine allocB ((?_ : Aa _ _ _ _ _ _ (tup 1 0 _ _) _) _ _ (Mem.alloc Dm rfl))
  clear Dm; intro tz h52 Dm
  repeat walk_at "#8;tlKC;Get CO"
  refine mkK dh (Nat.le_trans dd (by decide)) (Nat.le_trans du (by decide)) (X.keeps (kp_mem Dm)) (IK.kl (.of_kp (kp_mem Dm))) ?_
  intro xz h53 tk53 kp53 hxz
  have hkz : Key h53 K1 xz 1 0 := hxz.elim fun dx e => ⟨dx, tz, _, _, e, kp53 _ _ (Mem.at Dm 0 _ _ rfl)⟩
  replace Dm := memKp Dm kp53
  repeat walk_at "#8;tlKC;Get CO"
  refine sr dh (Nat.le_trans dd (by decide)) (Nat.le_trans du (by decide)) _ g d _ os el pr xz K1 63 [] _ ordI (cmp63 w) 1 0 (X.keeps (kp_mem Dm)) ⟨⟨0, Mem.at Dm 1 _ _ rfl⟩, fun _ hq => nomatch hq⟩ (fun i q hq => nomatch hq) (pp.kp (kp_mem Dm)) (IK.kl (.of_kp (kp_mem Dm))) (kf63 (X.keeps (kp_mem Dm))) hkz ?_
  intro h54 tk54 kp54
  show Then _ _ _ _ _ Value.none _
  repeat walk_at "#8;tlKC;Get CO"
  exact k h54 tk54 (oz12.kp fun b o e => kp54 _ _ (kp_mem Dm _ _ e))
end Mine
namespace Mine
theorem inNil (h : Heap) : Frag.In [] h := fun _ _ e => nomatch e
theorem inCons {K : Frag} {h : Heap} {a : Addr} {o : Obj} (e : h.get? a = some o) (r : K.In h) : Frag.In ((a, o) :: K) h := by
  intro b ob q
  rw [List.lookup_cons] at q
  cases z : b == a with
  | true => rw [z] at q; cases q; rw [eq_of_beq z]; exact e
  | false => rw [z] at q; exact r b ob q
theorem isC30 {P : Params} {h : Heap} (X : (KX P).In h) (t30 : h.get? 30 = some (tableObj #[])) : h.IsCode 34 30 #[] ∧ h.TableAt 34 30 #[] :=
  ⟨⟨_, _, _, _, _, _, _, _, _, _, k34 X, rfl, rfl, rfl, rfl, rfl, rfl, t30, rfl, trivial, by decide⟩, ⟨⟨_, _, k34 X, rfl, rfl, rfl⟩, t30⟩⟩
theorem lawT {w : World} {h : Heap} {g : Array GenState} {d : Drawn} {t : Nat} {os : OsState} {Q E : Value → Shared → Prop} (X : (KX w.params).In h) (h79 : h.get? 79 = some (tableObj #[])) (h86 : h.get? 86 = some (tableObj #[])) (h30 : h.get? 30 = some (tableObj #[]))
  {l : Addr} {vs : List Value} {ns : List Int} {dl : Option Addr} {nl : Nat} {sll : Array (Option Value)} (hl : h.get? l = some ⟨.type "list", dl, .seq vs.toArray nl, sll⟩) (hi : IntsAre vs ns) (hb : vs.length = ns.length ∧ ns.length ≤ 2 ^ 20)
  (k : ∀ h' tk, OldK h h' → Q (.bool true) ⟨h', g, d, tk, os⟩) : wpAny (MM w) callerA (call (.ref 103) [.ref l] []) Q E ⟨h, g, d, t, os⟩ := by
  obtain ⟨N, n1, n2⟩ := topN h ⟨_, k103 X⟩
  obtain ⟨i30, t30⟩ := isC30 X h30
  exact lawA rfl (by decide) (by decide) h g d t os X N n1 n2 i30 t30 l vs ns dl nl sll hl hi (by rw [List.size_toArray]; exact Nat.le_trans (hb.1 ▸ hb.2) (by decide)) h79 h86 fun h' tk oz => k h' tk (oz.old X t30 h79 h86)

end Mine
namespace Mine
noncomputable def zi0 (P : Params) (r : List DictEntry) : List DictEntry := en P "__name__" 1 (.str (Str.ofString "builtins") 160) :: en P "__doc__" 2 (.builtin "builtins.__doc__:str#opaque") :: en P "__package__" 3 (.builtin "builtins.__package__:str#opaque") :: en P "__loader__" 4 (.builtin "builtins.__loader__:shared#opaque") :: en P "__spec__" 5 (.builtin "builtins.__spec__#opaque") :: en P "__build_class__" 6 (.builtin "__build_class__") :: en P "__import__" 7 (.builtin "__import__") :: en P "abs" 8 (.builtin "abs") :: en P "all" 9 (.builtin "all") :: en P "any" 10 (.builtin "any") :: r
noncomputable def zi1 (P : Params) (r : List DictEntry) : List DictEntry := en P "ascii" 11 (.builtin "ascii") :: en P "bin" 12 (.builtin "bin") :: en P "breakpoint" 13 (.builtin "breakpoint") :: en P "callable" 14 (.builtin "callable") :: en P "chr" 15 (.builtin "chr") :: en P "compile" 16 (.builtin "compile") :: en P "delattr" 17 (.builtin "delattr") :: en P "dir" 18 (.builtin "dir") :: en P "divmod" 19 (.builtin "divmod") :: en P "eval" 20 (.builtin "eval") :: r
noncomputable def zi2 (P : Params) (r : List DictEntry) : List DictEntry := en P "exec" 21 (.builtin "exec") :: en P "format" 22 (.builtin "format") :: en P "getattr" 23 (.builtin "getattr") :: en P "globals" 24 (.builtin "globals") :: en P "hasattr" 25 (.builtin "hasattr") :: en P "hash" 26 (.builtin "hash") :: en P "hex" 27 (.builtin "hex") :: en P "id" 28 (.builtin "id") :: en P "input" 29 (.builtin "input") :: en P "isinstance" 30 (.builtin "isinstance") :: r
noncomputable def zi3 (P : Params) (r : List DictEntry) : List DictEntry := en P "issubclass" 31 (.builtin "issubclass") :: en P "iter" 32 (.builtin "iter") :: en P "aiter" 33 (.builtin "aiter") :: en P "len" 34 (.builtin "len") :: en P "locals" 35 (.builtin "locals") :: en P "max" 36 (.builtin "max") :: en P "min" 37 (.builtin "min") :: en P "next" 38 (.builtin "next") :: en P "anext" 39 (.builtin "anext") :: en P "oct" 40 (.builtin "oct") :: r
noncomputable def zi4 (P : Params) (r : List DictEntry) : List DictEntry := en P "ord" 41 (.builtin "ord") :: en P "pow" 42 (.builtin "pow") :: en P "print" 43 (.builtin "print") :: en P "repr" 44 (.builtin "repr") :: en P "round" 45 (.builtin "round") :: en P "setattr" 46 (.builtin "setattr") :: en P "sorted" 47 (.builtin "sorted") :: en P "sum" 48 (.builtin "sum") :: en P "vars" 49 (.builtin "vars") :: en P "None" 50 .none :: r
noncomputable def zi5 (P : Params) (r : List DictEntry) : List DictEntry := en P "Ellipsis" 51 .ellipsis :: en P "NotImplemented" 52 .notImplemented :: en P "False" 53 (.bool false) :: en P "True" 54 (.bool true) :: en P "bool" 55 (.type "bool") :: en P "memoryview" 56 (.type "memoryview") :: en P "bytearray" 57 (.type "bytearray") :: en P "bytes" 58 (.type "bytes") :: en P "classmethod" 59 (.type "classmethod") :: en P "complex" 60 (.type "complex") :: r
noncomputable def zi6 (P : Params) (r : List DictEntry) : List DictEntry := en P "dict" 61 (.type "dict") :: en P "enumerate" 62 (.type "enumerate") :: en P "filter" 63 (.type "filter") :: en P "float" 64 (.type "float") :: en P "frozenset" 65 (.type "frozenset") :: en P "property" 66 (.type "property") :: en P "int" 67 (.type "int") :: en P "list" 68 (.type "list") :: en P "map" 69 (.type "map") :: en P "object" 70 (.type "object") :: r
noncomputable def zi7 (P : Params) (r : List DictEntry) : List DictEntry := en P "range" 71 (.type "range") :: en P "reversed" 72 (.type "reversed") :: en P "set" 73 (.type "set") :: en P "slice" 74 (.type "slice") :: en P "staticmethod" 75 (.type "staticmethod") :: en P "str" 76 (.type "str") :: en P "super" 77 (.type "super") :: en P "tuple" 78 (.type "tuple") :: en P "type" 79 (.type "type") :: en P "zip" 80 (.type "zip") :: r
noncomputable def zi8 (P : Params) (r : List DictEntry) : List DictEntry := en P "__debug__" 81 (.bool true) :: en P "BaseException" 82 (.type "BaseException") :: en P "BaseExceptionGroup" 83 (.type "BaseExceptionGroup") :: en P "Exception" 84 (.type "Exception") :: en P "GeneratorExit" 85 (.type "GeneratorExit") :: en P "KeyboardInterrupt" 86 (.type "KeyboardInterrupt") :: en P "SystemExit" 87 (.type "SystemExit") :: en P "ArithmeticError" 88 (.type "ArithmeticError") :: en P "AssertionError" 89 (.type "AssertionError") :: en P "AttributeError" 90 (.type "AttributeError") :: r
noncomputable def zi9 (P : Params) (r : List DictEntry) : List DictEntry := en P "BufferError" 91 (.type "BufferError") :: en P "EOFError" 92 (.type "EOFError") :: en P "ImportError" 93 (.type "ImportError") :: en P "LookupError" 94 (.type "LookupError") :: en P "MemoryError" 95 (.type "MemoryError") :: en P "NameError" 96 (.type "NameError") :: en P "OSError" 97 (.type "OSError") :: en P "ReferenceError" 98 (.type "ReferenceError") :: en P "RuntimeError" 99 (.type "RuntimeError") :: en P "StopAsyncIteration" 100 (.type "StopAsyncIteration") :: r
noncomputable def zi10 (P : Params) (r : List DictEntry) : List DictEntry := en P "StopIteration" 101 (.type "StopIteration") :: en P "SyntaxError" 102 (.type "SyntaxError") :: en P "SystemError" 103 (.type "SystemError") :: en P "TypeError" 104 (.type "TypeError") :: en P "ValueError" 105 (.type "ValueError") :: en P "Warning" 106 (.type "Warning") :: en P "FloatingPointError" 107 (.type "FloatingPointError") :: en P "OverflowError" 108 (.type "OverflowError") :: en P "ZeroDivisionError" 109 (.type "ZeroDivisionError") :: en P "BytesWarning" 110 (.type "BytesWarning") :: r
noncomputable def zi11 (P : Params) (r : List DictEntry) : List DictEntry := en P "DeprecationWarning" 111 (.type "DeprecationWarning") :: en P "EncodingWarning" 112 (.type "EncodingWarning") :: en P "FutureWarning" 113 (.type "FutureWarning") :: en P "ImportWarning" 114 (.type "ImportWarning") :: en P "PendingDeprecationWarning" 115 (.type "PendingDeprecationWarning") :: en P "ResourceWarning" 116 (.type "ResourceWarning") :: en P "RuntimeWarning" 117 (.type "RuntimeWarning") :: en P "SyntaxWarning" 118 (.type "SyntaxWarning") :: en P "UnicodeWarning" 119 (.type "UnicodeWarning") :: en P "UserWarning" 120 (.type "UserWarning") :: r
noncomputable def zi12 (P : Params) (r : List DictEntry) : List DictEntry := en P "BlockingIOError" 121 (.type "BlockingIOError") :: en P "ChildProcessError" 122 (.type "ChildProcessError") :: en P "ConnectionError" 123 (.type "ConnectionError") :: en P "FileExistsError" 124 (.type "FileExistsError") :: en P "FileNotFoundError" 125 (.type "FileNotFoundError") :: en P "InterruptedError" 126 (.type "InterruptedError") :: en P "IsADirectoryError" 127 (.type "IsADirectoryError") :: en P "NotADirectoryError" 128 (.type "NotADirectoryError") :: en P "PermissionError" 129 (.type "PermissionError") :: en P "ProcessLookupError" 130 (.type "ProcessLookupError") :: r
noncomputable def zi13 (P : Params) (r : List DictEntry) : List DictEntry := en P "TimeoutError" 131 (.type "TimeoutError") :: en P "IndentationError" 132 (.type "IndentationError") :: en P "_IncompleteInputError" 133 (.type "_IncompleteInputError") :: en P "IndexError" 134 (.type "IndexError") :: en P "KeyError" 135 (.type "KeyError") :: en P "ModuleNotFoundError" 136 (.type "ModuleNotFoundError") :: en P "NotImplementedError" 137 (.type "NotImplementedError") :: en P "PythonFinalizationError" 138 (.type "PythonFinalizationError") :: en P "RecursionError" 139 (.type "RecursionError") :: en P "UnboundLocalError" 140 (.type "UnboundLocalError") :: r
noncomputable def zi14 (P : Params) (r : List DictEntry) : List DictEntry := en P "UnicodeError" 141 (.type "UnicodeError") :: en P "BrokenPipeError" 142 (.type "BrokenPipeError") :: en P "ConnectionAbortedError" 143 (.type "ConnectionAbortedError") :: en P "ConnectionRefusedError" 144 (.type "ConnectionRefusedError") :: en P "ConnectionResetError" 145 (.type "ConnectionResetError") :: en P "TabError" 146 (.type "TabError") :: en P "UnicodeDecodeError" 147 (.type "UnicodeDecodeError") :: en P "UnicodeEncodeError" 148 (.type "UnicodeEncodeError") :: en P "UnicodeTranslateError" 149 (.type "UnicodeTranslateError") :: en P "ExceptionGroup" 150 (.type "ExceptionGroup") :: r
noncomputable def zi15 (P : Params) (r : List DictEntry) : List DictEntry := en P "EnvironmentError" 151 (.type "OSError") :: en P "IOError" 152 (.type "OSError") :: en P "open" 153 (.builtin "open") :: en P "quit" 154 (.builtin "builtins.quit#opaque") :: en P "exit" 155 (.builtin "builtins.exit#opaque") :: en P "copyright" 156 (.builtin "builtins.copyright#opaque") :: en P "credits" 157 (.builtin "builtins.credits#opaque") :: en P "license" 158 (.builtin "builtins.license#opaque") :: en P "help" 159 (.builtin "builtins.help#opaque") :: r
noncomputable def zo0 (P : Params) : Obj := ⟨(.type "dict"), none, (.dict ⟨zi0 P (zi1 P (zi2 P (zi3 P (zi4 P (zi5 P (zi6 P (zi7 P (zi8 P (zi9 P (zi10 P (zi11 P (zi12 P (zi13 P (zi14 P (zi15 P [])))))))))))))))⟩ 159), #[]⟩
noncomputable def zo1 (P : Params) : Obj := ⟨(.type "dict"), none, (.dict #[en P "builtins" 162 (.ref 4), en P "__main__" 163 (.ref 5)] 2), #[]⟩
noncomputable def zo2 (P : Params) : Obj := ⟨.none, none, (.dict #[] 0), #[]⟩
noncomputable def zo3 (P : Params) : Obj := ⟨(.type "dict"), none, (.dict #[en P "__name__" 165 (.str (Str.ofString "law_ij0005_01") 222), en P "__doc__" 166 .none, en P "__package__" 167 .none, en P "__loader__" 168 (.builtin "__main__.__loader__#opaque"), en P "__spec__" 169 .none, en P "__annotations__" 170 (.ref 6), en P "__builtins__" 171 (.ref 4), en P "__file__" 173 (.str (Str.ofString "/claim/cut.py") 172), en P "__cached__" 174 .none, en P "search_reverse" 201 (.ref 21), en P "get_line_col" 210 (.ref 28), en P "cmp_to_key" 221 (.ref 35), en P "_law_finds" 236 (.ref 42), en P "_law_places" 247 (.ref 49), en P "_law_read" 255 (.ref 56), en P "_law_order" 263 (.ref 63), en P "_law_contrary" 271 (.ref 70), en P "_law_five" 279 (.ref 77), en P "_law_hit" 291 (.ref 84), en P "_law_program" 299 (.ref 91), en P "_law_told" 306 (.ref 98), en P "law" 312 (.ref 103)] 22), #[]⟩
noncomputable def zo4 (P : Params) : Obj := ⟨(.type "module"), (some 0), .plain, #[]⟩
noncomputable def zo5 (P : Params) : Obj := ⟨(.type "module"), (some 3), .plain, #[]⟩
noncomputable def zo6 (P : Params) : Obj := ⟨(.type "dict"), none, (.dict #[] 0), #[]⟩
noncomputable def zo20 (P : Params) : Obj := ⟨(.type "code"), none, (.fields #[(.str (Str.ofString "search_reverse") 189), (.str (Str.ofString "search_reverse") 190), (.str (Str.ofString "/claim/cut.py") 191), (.int (2) 0), (.int (3) 0), (.int (0) 0), (.int (0) 0), (.int (3) 0), (.ref 15), (.bool true), (.int (181) 0), (.ref 16), .none, (.ref 17), (.ref 18), (.ref 19), (.int (199) 0), (.int (2) 0), (.str (Str.ofString "/claim/cut.py") 200)]), #[]⟩
noncomputable def zo21 (P : Params) : Obj := fobj 1 (.str (Str.ofString "cpy313.idlelib.searchengine") 187) (.ref 20)
noncomputable def zo27 (P : Params) : Obj := ⟨(.type "code"), none, (.fields #[(.str (Str.ofString "get_line_col") 202), (.str (Str.ofString "get_line_col") 203), (.str (Str.ofString "/claim/cut.py") 204), (.int (17) 0), (.int (1) 0), (.int (0) 0), (.int (0) 0), (.int (3) 0), (.ref 22), (.bool true), (.int (181) 0), (.ref 23), .none, (.ref 24), (.ref 25), (.ref 26), (.int (208) 0), (.int (17) 0), (.str (Str.ofString "/claim/cut.py") 209)]), #[]⟩
noncomputable def zo28 (P : Params) : Obj := fobj 2 (.str (Str.ofString "cpy313.idlelib.searchengine") 187) (.ref 27)
noncomputable def zo34 (P : Params) : Obj := ⟨(.type "code"), none, (.fields #[(.str (Str.ofString "cmp_to_key") 213), (.str (Str.ofString "cmp_to_key") 214), (.str (Str.ofString "/claim/cut.py") 215), (.int (21) 0), (.int (1) 0), (.int (0) 0), (.int (0) 0), (.int (3) 0), (.ref 29), (.bool true), (.int (181) 0), (.ref 30), .none, (.ref 31), (.ref 32), (.ref 33), (.int (219) 0), (.int (21) 0), (.str (Str.ofString "/claim/cut.py") 220)]), #[]⟩
noncomputable def zo35 (P : Params) : Obj := fobj 4 (.str (Str.ofString "cpy313.functools") 211) (.ref 34)
noncomputable def zo41 (P : Params) : Obj := ⟨(.type "code"), none, (.fields #[(.str (Str.ofString "_law_finds") 224), (.str (Str.ofString "_law_finds") 225), (.str (Str.ofString "/claim/cut.py") 226), (.int (47) 0), (.int (1) 0), (.int (0) 0), (.int (0) 0), (.int (3) 0), (.ref 36), (.bool true), (.int (181) 0), (.ref 37), .none, (.ref 38), (.ref 39), (.ref 40), (.int (234) 0), (.int (47) 0), (.str (Str.ofString "/claim/cut.py") 235)]), #[]⟩
noncomputable def zo42 (P : Params) : Obj := fobj 6 (.str (Str.ofString "law_ij0005_01") 222) (.ref 41)
noncomputable def zo48 (P : Params) : Obj := ⟨(.type "code"), none, (.fields #[(.str (Str.ofString "_law_places") 237), (.str (Str.ofString "_law_places") 238), (.str (Str.ofString "/claim/cut.py") 239), (.int (62) 0), (.int (1) 0), (.int (0) 0), (.int (0) 0), (.int (3) 0), (.ref 43), (.bool true), (.int (181) 0), (.ref 44), .none, (.ref 45), (.ref 46), (.ref 47), (.int (245) 0), (.int (62) 0), (.str (Str.ofString "/claim/cut.py") 246)]), #[]⟩
noncomputable def zo49 (P : Params) : Obj := fobj 7 (.str (Str.ofString "law_ij0005_01") 222) (.ref 48)
noncomputable def zo55 (P : Params) : Obj := ⟨(.type "code"), none, (.fields #[(.str (Str.ofString "_law_read") 248), (.str (Str.ofString "_law_read") 249), (.str (Str.ofString "/claim/cut.py") 250), (.int (67) 0), (.int (2) 0), (.int (0) 0), (.int (0) 0), (.int (3) 0), (.ref 50), (.bool true), (.int (181) 0), (.ref 51), .none, (.ref 52), (.ref 53), (.ref 54), (.int (253) 0), (.int (67) 0), (.str (Str.ofString "/claim/cut.py") 254)]), #[]⟩
noncomputable def zo56 (P : Params) : Obj := fobj 8 (.str (Str.ofString "law_ij0005_01") 222) (.ref 55)
noncomputable def zo62 (P : Params) : Obj := ⟨(.type "code"), none, (.fields #[(.str (Str.ofString "_law_order") 256), (.str (Str.ofString "_law_order") 257), (.str (Str.ofString "/claim/cut.py") 258), (.int (69) 0), (.int (2) 0), (.int (0) 0), (.int (0) 0), (.int (3) 0), (.ref 57), (.bool true), (.int (181) 0), (.ref 58), .none, (.ref 59), (.ref 60), (.ref 61), (.int (261) 0), (.int (69) 0), (.str (Str.ofString "/claim/cut.py") 262)]), #[]⟩
noncomputable def zo63 (P : Params) : Obj := fobj 9 (.str (Str.ofString "law_ij0005_01") 222) (.ref 62)
noncomputable def zo69 (P : Params) : Obj := ⟨(.type "code"), none, (.fields #[(.str (Str.ofString "_law_contrary") 264), (.str (Str.ofString "_law_contrary") 265), (.str (Str.ofString "/claim/cut.py") 266), (.int (75) 0), (.int (2) 0), (.int (0) 0), (.int (0) 0), (.int (3) 0), (.ref 64), (.bool true), (.int (181) 0), (.ref 65), .none, (.ref 66), (.ref 67), (.ref 68), (.int (269) 0), (.int (75) 0), (.str (Str.ofString "/claim/cut.py") 270)]), #[]⟩
noncomputable def zo70 (P : Params) : Obj := fobj 10 (.str (Str.ofString "law_ij0005_01") 222) (.ref 69)
noncomputable def zo76 (P : Params) : Obj := ⟨(.type "code"), none, (.fields #[(.str (Str.ofString "_law_five") 272), (.str (Str.ofString "_law_five") 273), (.str (Str.ofString "/claim/cut.py") 274), (.int (77) 0), (.int (2) 0), (.int (0) 0), (.int (0) 0), (.int (3) 0), (.ref 71), (.bool true), (.int (181) 0), (.ref 72), .none, (.ref 73), (.ref 74), (.ref 75), (.int (277) 0), (.int (77) 0), (.str (Str.ofString "/claim/cut.py") 278)]), #[]⟩
noncomputable def zo77 (P : Params) : Obj := fobj 11 (.str (Str.ofString "law_ij0005_01") 222) (.ref 76)
noncomputable def zo83 (P : Params) : Obj := ⟨(.type "code"), none, (.fields #[(.str (Str.ofString "_law_hit") 280), (.str (Str.ofString "_law_hit") 281), (.str (Str.ofString "/claim/cut.py") 282), (.int (79) 0), (.int (3) 0), (.int (0) 0), (.int (0) 0), (.int (3) 0), (.ref 78), (.bool true), (.int (181) 0), (.ref 79), .none, (.ref 80), (.ref 81), (.ref 82), (.int (289) 0), (.int (79) 0), (.str (Str.ofString "/claim/cut.py") 290)]), #[]⟩
noncomputable def zo84 (P : Params) : Obj := fobj 12 (.str (Str.ofString "law_ij0005_01") 222) (.ref 83)
noncomputable def zo90 (P : Params) : Obj := ⟨(.type "code"), none, (.fields #[(.str (Str.ofString "_law_program") 292), (.str (Str.ofString "_law_program") 293), (.str (Str.ofString "/claim/cut.py") 294), (.int (85) 0), (.int (0) 0), (.int (0) 0), (.int (0) 0), (.int (3) 0), (.ref 85), (.bool true), (.int (181) 0), (.ref 86), .none, (.ref 87), (.ref 88), (.ref 89), (.int (297) 0), (.int (85) 0), (.str (Str.ofString "/claim/cut.py") 298)]), #[]⟩
noncomputable def zo91 (P : Params) : Obj := fobj 13 (.str (Str.ofString "law_ij0005_01") 222) (.ref 90)
noncomputable def zo97 (P : Params) : Obj := ⟨(.type "code"), none, (.fields #[(.str (Str.ofString "_law_told") 300), (.str (Str.ofString "_law_told") 301), (.str (Str.ofString "/claim/cut.py") 302), (.int (95) 0), (.int (1) 0), (.int (0) 0), (.int (0) 0), (.int (3) 0), (.ref 92), (.bool true), (.int (181) 0), (.ref 93), .none, (.ref 94), (.ref 95), (.ref 96), (.int (304) 0), (.int (95) 0), (.str (Str.ofString "/claim/cut.py") 305)]), #[]⟩
noncomputable def zo98 (P : Params) : Obj := fobj 14 (.str (Str.ofString "law_ij0005_01") 222) (.ref 97)
noncomputable def zo102 (P : Params) : Obj := ⟨(.type "code"), none, (.fields #[(.str (Str.ofString "law") 307), (.str (Str.ofString "law") 308), (.str (Str.ofString "/claim/cut.py") 309), (.int (99) 0), (.int (1) 0), (.int (0) 0), (.int (0) 0), (.int (3) 0), (.ref 99), (.bool true), (.int (181) 0), (.ref 100), .none, .none, .none, (.ref 101), (.int (310) 0), (.int (99) 0), (.str (Str.ofString "/claim/cut.py") 311)]), #[]⟩
noncomputable def zo103 (P : Params) : Obj := fobj 15 (.str (Str.ofString "law_ij0005_01") 222) (.ref 102)
noncomputable def KZ (P : Params) : Frag := [(nat_lit 0, zo0 P), (nat_lit 1, zo1 P), (nat_lit 2, zo2 P), (nat_lit 3, zo3 P), (nat_lit 4, zo4 P), (nat_lit 5, zo5 P), (nat_lit 6, zo6 P), (nat_lit 20, zo20 P), (nat_lit 21, zo21 P), (nat_lit 27, zo27 P), (nat_lit 28, zo28 P), (nat_lit 30, tableObj #[]), (nat_lit 34, zo34 P), (nat_lit 35, zo35 P), (nat_lit 41, zo41 P), (nat_lit 42, zo42 P), (nat_lit 48, zo48 P), (nat_lit 49, zo49 P), (nat_lit 55, zo55 P), (nat_lit 56, zo56 P), (nat_lit 62, zo62 P), (nat_lit 63, zo63 P), (nat_lit 69, zo69 P), (nat_lit 70, zo70 P), (nat_lit 76, zo76 P), (nat_lit 77, zo77 P), (nat_lit 79, tableObj #[]), (nat_lit 83, zo83 P), (nat_lit 84, zo84 P), (nat_lit 86, tableObj #[]), (nat_lit 90, zo90 P), (nat_lit 91, zo91 P), (nat_lit 97, zo97 P), (nat_lit 98, zo98 P), (nat_lit 102, zo102 P), (nat_lit 103, zo103 P)]
noncomputable def KZa : List Addr := [nat_lit 0, nat_lit 1, nat_lit 2, nat_lit 3, nat_lit 4, nat_lit 5, nat_lit 6, nat_lit 20, nat_lit 21, nat_lit 27, nat_lit 28, nat_lit 30, nat_lit 34, nat_lit 35, nat_lit 41, nat_lit 42, nat_lit 48, nat_lit 49, nat_lit 55, nat_lit 56, nat_lit 62, nat_lit 63, nat_lit 69, nat_lit 70, nat_lit 76, nat_lit 77, nat_lit 79, nat_lit 83, nat_lit 84, nat_lit 86, nat_lit 90, nat_lit 91, nat_lit 97, nat_lit 98, nat_lit 102, nat_lit 103]

end Mine
set_option maxRecDepth 100000 in
set_option maxHeartbeats 8000000 in
theorem PySem.Challenge.cw_ij0005_01_holds : PySem.Challenge.rw_ij0005_01.Holds := by
  w_on; o_law; o_head (kHook Mine.KZ Mine.KZa (fun _ => by kernel_rfl)); (case hw => w_witness2)
  k_fill
  intro w s₀ s₁ mg mb G Y fa o pm cd doc dV kV ho hd hcd hD hmg hg args vals as hpre hlay hrd hwl hlo
  have KX := kIn_of Y
  refine Ground.open G ?_
  intro T B D TE TW
  wrow_args hpre hlay hrd hwl hlo
  x_fa T KX hmg
  all_lens
  all_goals x_lists
  obtain ⟨hh, gg, dd, tt, oo⟩ := s₁
  have X : (Mine.KX w.params).In hh := by
    unfold Mine.KX
    repeat refine Mine.inCons (KX _ _ (by kernel_rfl)) ?_
    exact Mine.inNil _
  have h79 : hh.get? 79 = some (tableObj #[]) := KX 79 _ (by kernel_rfl)
  have h86 : hh.get? 86 = some (tableObj #[]) := KX 86 _ (by kernel_rfl)
  have t30 : hh.get? 30 = some (tableObj #[]) := KX 30 _ (by kernel_rfl)
  have hgg : gg = #[] := hg
  subst hgg
  refine Mine.lawT X h79 h86 t30 (by assumption) (by assumption) (by assumption) ?_
  intro h' tk ok
  refine ⟨.inl ⟨_, _, [], rfl, fun _ => rfl, ReadsW.bool true, ?_, fun _ => ⟨List.nodup_nil, fun _ hm => (nomatch hm)⟩⟩, ok, rfl, AllBare.empty⟩
  first | rfl | wrow_post
