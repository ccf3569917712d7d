import PyProof.Rows.All
import Wide.All
import OpenK.AllK
import Wide.FinOn
import Lean
import PySem.Challenge.RW_pd0125_01
open PySem PySem.W PyProof.Rows
set_option Elab.async false
set_option linter.all false
set_option maxRecDepth 100000
set_option maxHeartbeats 0
set_option compiler.extract_closed false
namespace Mine
noncomputable abbrev pw : Program := PySem.Challenge.pw_pd0125_01
noncomputable def noS : Stmt := .Pass ⟨0,0,0,0⟩
noncomputable def cell (i:Nat) : Stmt := pw.main.body.getD i noS
noncomputable def inCls : Stmt → Nat → Stmt
  | .ClassDef _ _ _ b _ _ _ _ _ _ _,j=>b.getD j noS
  | s,_=>s
noncomputable def fA : Stmt → Arguments
  | .FunctionDef _ a _ _ _ _ _ _ _ _=>a
  | _=>⟨[],[],none,[],[],none,[]⟩
noncomputable def fB : Stmt → List Stmt
  | .FunctionDef _ _ b _ _ _ _ _ _ _=>b
  | .ClassDef _ _ _ b _ _ _ _ _ _ _=>b
  | _=>[]
noncomputable def fS : Stmt → Scope
  | .FunctionDef _ _ _ _ _ _ s _ _ _=>s
  | _=>pw.main.scope
noncomputable def dOf (s:Stmt) : Str := (docOf (fB s)).getD Str.empty
noncomputable def en (P:Params) (s:String) (t:Nat) (v:Value) : DictEntry := ⟨PyData.keyHash P (Str.ofString s),.str (Str.ofString s) t,v⟩
noncomputable def eb (P:Params) (s:String) (t:Nat) : DictEntry := ⟨PyData.keyHash P (Str.ofString s),.str (Str.ofString s) t,.builtin s⟩
noncomputable def et (P:Params) (s:String) (t:Nat) : DictEntry := ⟨PyData.keyHash P (Str.ofString s),.str (Str.ofString s) t,.type s⟩
noncomputable def fnD (n q:Str) (c:Stmt) (g:Nat) (d k doc pm:Value) (an:Option Addr) (code ct:Value) (b:Nat) : Data :=
  .func { name := n,qualname := q,params := fA c,body := .stmts (fB c),scope := fS c,globals := g,closure := [],defaults := d,kwdefaults := k,doc := doc,pyModule := pm,annotations := an,code := code,closureTuple := ct,builtins := b }
noncomputable def hx (n:Nat) : Nat := if n < 10 then 48 + n else 55 + n
noncomputable def qs (l:List (Nat × String × Nat)) : List Value := (List.range 256).map fun i=>match l.lookup i with
  | some (s,t)=>.str (Str.ofString s) t
  | none=>.str ⟨#[61,hx (i / 16),hx (i % 16)]⟩ (589 + 4 * i)
noncomputable def bup : Nat → BT → Nat → Obj → BT
  | 0,t,_,_=>t
  | _ + 1,.nil,_,o=>.node o .nil .nil
  | f + 1,.node x l r,i,o=>if i = 0 then .node o l r else if i % 2 = 1 then .node x (bup f l ((i - 1) / 2) o) r else .node x l (bup f r (i / 2 - 1) o)
noncomputable def ups (t:BT) (l:List (Nat × Obj)) : BT := l.foldl (fun t p=>bup 12 t p.1 p.2) t
noncomputable abbrev yS (s:String) : Str := Str.ofString s
noncomputable abbrev zV (s:String) (t:Nat) : Value := .str (Str.ofString s) t
noncomputable abbrev tU (l:List Value) (t:Nat) : Obj := ⟨.type "tuple",none,.seq ⟨l⟩ t,#[]⟩
noncomputable abbrev fO (s:String) (l:List Value) : Obj := ⟨.type s,none,.fields ⟨l⟩,#[]⟩
noncomputable abbrev nO (d:Data) : Obj := ⟨.none,none,d,#[]⟩
noncomputable def unpk : Nat → Nat → List Nat
  | 0,_=>[]
  | k + 1,n=>(n % 128) :: unpk k (n / 128)
theorem pkT {s:String} {l:List Char} {n:Nat} (_:dOf (cell 5) = ⟨(cpsOfBytes 0 0 s.toByteArray.data.toList).toArray⟩) (_:s = String.ofList l) (_:l.foldr (fun c a=>a * 128 + c.toNat) 0 = n) : True := trivial
noncomputable def docN : Nat := by
  exact (?n : (fun (_:True)=>Nat) (by
    refine pkT (s := ?s) (l := ?l) (n := ?n) ?h1 ?h2 ?h3
    case h1=>conv=>lhs; whnf
    case h2=>exact Eq.refl _
    case h3=>conv=>lhs; whnf))
noncomputable def docL : List Nat := unpk 3202 docN
noncomputable def docC : Str := ⟨docL.toArray⟩
noncomputable def o0_B (P:Params) : Obj := ⟨.type "dict",none,.dict #[en P "__name__" 1 (zV "builtins" 160),en P "__doc__" 2 (.builtin "builtins.__doc__:str#opaque"),en P "__package__" 3 (.builtin "builtins.__package__:str#opaque"),en P "__loader__" 4 (.builtin "builtins.__loader__:shared#opaque"),en P "__spec__" 5 (.builtin "builtins.__spec__#opaque"),eb P "__build_class__" 6,eb P "__import__" 7,eb P "abs" 8,eb P "all" 9,eb P "any" 10,eb P "ascii" 11,eb P "bin" 12,eb P "breakpoint" 13,eb P "callable" 14,eb P "chr" 15,eb P "compile" 16,eb P "delattr" 17,eb P "dir" 18,eb P "divmod" 19,eb P "eval" 20,eb P "exec" 21,eb P "format" 22,eb P "getattr" 23,eb P "globals" 24,eb P "hasattr" 25,eb P "hash" 26,eb P "hex" 27,eb P "id" 28,eb P "input" 29,eb P "isinstance" 30,eb P "issubclass" 31,eb P "iter" 32,eb P "aiter" 33,eb P "len" 34,eb P "locals" 35,eb P "max" 36,eb P "min" 37,eb P "next" 38,eb P "anext" 39,eb P "oct" 40,eb P "ord" 41,eb P "pow" 42,eb P "print" 43,eb P "repr" 44,eb P "round" 45,eb P "setattr" 46,eb P "sorted" 47,eb P "sum" 48,eb P "vars" 49,en P "None" 50 .none,en P "Ellipsis" 51 (.ellipsis),en P "NotImplemented" 52 (.notImplemented),en P "False" 53 (.bool false),en P "True" 54 (.bool true),et P "bool" 55,et P "memoryview" 56,et P "bytearray" 57,et P "bytes" 58,et P "classmethod" 59,et P "complex" 60,et P "dict" 61,et P "enumerate" 62,et P "filter" 63,et P "float" 64,et P "frozenset" 65,et P "property" 66,et P "int" 67,et P "list" 68,et P "map" 69,et P "object" 70,et P "range" 71,et P "reversed" 72,et P "set" 73,et P "slice" 74,et P "staticmethod" 75,et P "str" 76,et P "super" 77,et P "tuple" 78,et P "type" 79,et P "zip" 80,en P "__debug__" 81 (.bool true),et P "BaseException" 82,et P "BaseExceptionGroup" 83,et P "Exception" 84,et P "GeneratorExit" 85,et P "KeyboardInterrupt" 86,et P "SystemExit" 87,et P "ArithmeticError" 88,et P "AssertionError" 89,et P "AttributeError" 90,et P "BufferError" 91,et P "EOFError" 92,et P "ImportError" 93,et P "LookupError" 94,et P "MemoryError" 95,et P "NameError" 96,et P "OSError" 97,et P "ReferenceError" 98,et P "RuntimeError" 99,et P "StopAsyncIteration" 100,et P "StopIteration" 101,et P "SyntaxError" 102,et P "SystemError" 103,et P "TypeError" 104,et P "ValueError" 105,et P "Warning" 106,et P "FloatingPointError" 107,et P "OverflowError" 108,et P "ZeroDivisionError" 109,et P "BytesWarning" 110,et P "DeprecationWarning" 111,et P "EncodingWarning" 112,et P "FutureWarning" 113,et P "ImportWarning" 114,et P "PendingDeprecationWarning" 115,et P "ResourceWarning" 116,et P "RuntimeWarning" 117,et P "SyntaxWarning" 118,et P "UnicodeWarning" 119,et P "UserWarning" 120,et P "BlockingIOError" 121,et P "ChildProcessError" 122,et P "ConnectionError" 123,et P "FileExistsError" 124,et P "FileNotFoundError" 125,et P "InterruptedError" 126,et P "IsADirectoryError" 127,et P "NotADirectoryError" 128,et P "PermissionError" 129,et P "ProcessLookupError" 130,et P "TimeoutError" 131,et P "IndentationError" 132,et P "_IncompleteInputError" 133,et P "IndexError" 134,et P "KeyError" 135,et P "ModuleNotFoundError" 136,et P "NotImplementedError" 137,et P "PythonFinalizationError" 138,et P "RecursionError" 139,et P "UnboundLocalError" 140,et P "UnicodeError" 141,et P "BrokenPipeError" 142,et P "ConnectionAbortedError" 143,et P "ConnectionRefusedError" 144,et P "ConnectionResetError" 145,et P "TabError" 146,et P "UnicodeDecodeError" 147,et P "UnicodeEncodeError" 148,et P "UnicodeTranslateError" 149,et P "ExceptionGroup" 150,en P "EnvironmentError" 151 (.type "OSError"),en P "IOError" 152 (.type "OSError"),eb P "open" 153,en P "quit" 154 (.builtin "builtins.quit#opaque"),en P "exit" 155 (.builtin "builtins.exit#opaque"),en P "copyright" 156 (.builtin "builtins.copyright#opaque"),en P "credits" 157 (.builtin "builtins.credits#opaque"),en P "license" 158 (.builtin "builtins.license#opaque"),en P "help" 159 (.builtin "builtins.help#opaque")] 159,#[]⟩
noncomputable def o1_B (P:Params) : Obj := ⟨.type "dict",none,.dict #[en P "builtins" 162 (.ref 4),en P "__main__" 163 (.ref 5)] 2,#[]⟩
noncomputable def o2_B (P:Params) : Obj := nO (.dict #[] 0)
noncomputable def o3_B (P:Params) : Obj := ⟨.type "dict",none,.dict #[en P "__name__" 165 (zV "__main__" 164),en P "__doc__" 166 .none,en P "__package__" 167 .none,en P "__loader__" 168 (.builtin "__main__.__loader__#opaque"),en P "__spec__" 169 .none,en P "__annotations__" 170 (.ref 6),en P "__builtins__" 171 (.ref 4),en P "__file__" 173 (zV "/claim/cut.py" 172),en P "__cached__" 174 .none] 9,#[]⟩
noncomputable def o4_B (P:Params) : Obj := ⟨.type "module",(some 0),.plain,#[]⟩
noncomputable def o5_B (P:Params) : Obj := ⟨.type "module",(some 3),.plain,#[]⟩
noncomputable def o6_B (P:Params) : Obj := ⟨.type "dict",none,.dict #[] 0,#[]⟩
noncomputable def o7_B (P:Params) : Obj := tU [] 0
noncomputable def o8_B (P:Params) : Obj := nO (.fields #[])
noncomputable def o9_B (P:Params) : Obj := fO "code" [zV "<module>" 176,zV "<module>" 177,zV "/claim/cut.py" 178,.int 1 0,.int 0 0,.int 0 0,.int 0 0,.int 0 0,.ref 7,.bool false,.int 175 0,.ref 8,.none,.none,.none,.none,.int 179 0,.int 1 0,zV "/claim/cut.py" 180]
noncomputable def o10_B (P:Params) : Obj := ⟨.type "frame",none,.plain,#[some (.ref 9),some (.ref 3),some (.ref 3),none,some (zV "__main__" 164),none,some (.ref 0)]⟩
noncomputable def o11_B (P:Params) : Obj := tU [] 0
noncomputable def o12_B (P:Params) : Obj := nO (.fields #[])
noncomputable def o13_B (P:Params) : Obj := fO "code" [zV "<module>" 182,zV "<module>" 183,zV "/claim/cut.py" 184,.int 1 0,.int 0 0,.int 0 0,.int 0 0,.int 0 0,.ref 11,.bool false,.int 181 0,.ref 12,.none,.none,.none,.none,.int 185 0,.int 1 0,zV "/claim/cut.py" 186]
noncomputable def o14_B (P:Params) : Obj := ⟨.type "frame",none,.plain,#[some (.ref 13),some (.ref 3),some (.ref 3),none,some (zV "__main__" 164),none,some (.ref 0)]⟩
noncomputable def TB (P:Params) : BT := (.node (o0_B P) (.node (o1_B P) (.node (o3_B P) (.node (o7_B P) .nil .nil) (.node (o11_B P) .nil .nil)) (.node (o5_B P) (.node (o9_B P) .nil .nil) (.node (o13_B P) .nil .nil))) (.node (o2_B P) (.node (o4_B P) (.node (o8_B P) .nil .nil) (.node (o12_B P) .nil .nil)) (.node (o6_B P) (.node (o10_B P) .nil .nil) (.node (o14_B P) .nil .nil))))
noncomputable def SB (w:World) (os:OsState) : SharedT := ⟨TB w.params,15,{},#[],{},187,os⟩
noncomputable def o3_4 (P:Params) : Obj := ⟨.type "dict",none,.dict #[en P "__name__" 165 (zV "cpy313.difflib" 194),en P "__doc__" 166 .none,en P "__package__" 167 .none,en P "__loader__" 168 (.builtin "__main__.__loader__#opaque"),en P "__spec__" 169 .none,en P "__annotations__" 170 (.ref 6),en P "__builtins__" 171 (.ref 4),en P "__file__" 173 (zV "/claim/cut.py" 172),en P "__cached__" 174 .none,en P "_wall" 193 (.ref 21),en P "_tuplegetter" 252 (.ref 60),en P "Match" 380 (.ref 135),en P "_calculate_ratio" 388 (.ref 145)] 13,#[]⟩
noncomputable def o12_4 (P:Params) : Obj := nO (.fields #[.int 1 0,.int 0 0,.ref 20,.int 5 0,.int 0 0,.ref 27,.int 23 0,.int 0 0,.ref 71,.int 66 0,.int 0 0,.ref 144])
noncomputable def o15_4 (P:Params) : Obj := tU [] 0
noncomputable def o16_4 (P:Params) : Obj := nO (.fields #[])
noncomputable def o17_4 (P:Params) : Obj := tU [zV "k" 190] 0
noncomputable def o18_4 (P:Params) : Obj := tU [] 0
noncomputable def o19_4 (P:Params) : Obj := nO (fnD (yS "_wall") (yS "_wall") (cell 0) 0 .none .none .none .none none .none .none 0)
noncomputable def o20_4 (P:Params) : Obj := fO "code" [zV "_wall" 187,zV "_wall" 188,zV "/claim/cut.py" 189,.int 1 0,.int 1 0,.int 0 0,.int 0 0,.int 3 0,.ref 15,.bool true,.int 181 0,.ref 16,.none,.ref 17,.ref 18,.ref 19,.int 191 0,.int 1 0,zV "/claim/cut.py" 192]
noncomputable def o21_4 (P:Params) : Obj := ⟨.type "function",none,fnD (yS "_wall") (yS "_wall") (cell 0) 3 .none .none .none (zV "__main__" 164) none (.ref 20) .none 0,#[]⟩
noncomputable def o22_4 (P:Params) : Obj := tU [] 0
noncomputable def o23_4 (P:Params) : Obj := fO "builtin_function_or_method" [.builtin "type.__prepare__",.type "type"]
noncomputable def o24_4 (P:Params) : Obj := ⟨.type "dict",none,.dict #[en P "__module__" 203 (zV "cpy313.difflib" 194),en P "__qualname__" 205 (zV "_tuplegetter" 204),en P "__firstlineno__" 207 (.int 5 206),en P "__init__" 216 (.ref 35),en P "__get__" 225 (.ref 43),en P "__set__" 234 (.ref 50),en P "__delete__" 242 (.ref 57),en P "__static_attributes__" 245 (.ref 58)] 8,#[]⟩
noncomputable def o25_4 (P:Params) : Obj := tU [] 0
noncomputable def o26_4 (P:Params) : Obj := nO (.fields #[.int 7 0,.int 4 0,.ref 34,.int 11 0,.int 4 0,.ref 42,.int 18 0,.int 4 0,.ref 49,.int 21 0,.int 4 0,.ref 56])
noncomputable def o27_4 (P:Params) : Obj := fO "code" [zV "_tuplegetter" 198,zV "_tuplegetter" 199,zV "/claim/cut.py" 200,.int 5 0,.int 0 0,.int 0 0,.int 0 0,.int 0 0,.ref 25,.bool false,.int 181 0,.ref 26,.none,.none,.none,.none,.int 201 0,.int 5 0,zV "/claim/cut.py" 202]
noncomputable def o28_4 (P:Params) : Obj := ⟨.type "frame",none,.plain,#[some (.ref 27),some (.ref 3),some (.ref 24),none,some (zV "cpy313.difflib" 194),none,some (.ref 0)]⟩
noncomputable def o29_4 (P:Params) : Obj := tU [] 0
noncomputable def o30_4 (P:Params) : Obj := nO (.fields #[])
noncomputable def o31_4 (P:Params) : Obj := tU [zV "self" 211,zV "index" 212,zV "doc" 213] 0
noncomputable def o32_4 (P:Params) : Obj := tU [] 0
noncomputable def o33_4 (P:Params) : Obj := nO (fnD (yS "__init__") (yS "_tuplegetter.__init__") (inCls (cell 2) 0) 0 .none .none .none .none none .none .none 0)
noncomputable def o34_4 (P:Params) : Obj := fO "code" [zV "__init__" 208,zV "_tuplegetter.__init__" 209,zV "/claim/cut.py" 210,.int 7 0,.int 3 0,.int 0 0,.int 0 0,.int 3 0,.ref 29,.bool true,.int 181 0,.ref 30,.none,.ref 31,.ref 32,.ref 33,.int 214 0,.int 7 0,zV "/claim/cut.py" 215]
noncomputable def o35_4 (P:Params) : Obj := ⟨.type "function",none,fnD (yS "__init__") (yS "_tuplegetter.__init__") (inCls (cell 2) 0) 3 .none .none .none (zV "cpy313.difflib" 194) none (.ref 34) .none 0,#[]⟩
noncomputable def o36_4 (P:Params) : Obj := tU [.none] 0
noncomputable def o37_4 (P:Params) : Obj := tU [] 0
noncomputable def o38_4 (P:Params) : Obj := nO (.fields #[])
noncomputable def o39_4 (P:Params) : Obj := tU [zV "self" 220,zV "obj" 221,zV "objtype" 222] 0
noncomputable def o40_4 (P:Params) : Obj := tU [] 0
noncomputable def o41_4 (P:Params) : Obj := nO (fnD (yS "__get__") (yS "_tuplegetter.__get__") (inCls (cell 2) 1) 0 .none .none .none .none none .none .none 0)
noncomputable def o42_4 (P:Params) : Obj := fO "code" [zV "__get__" 217,zV "_tuplegetter.__get__" 218,zV "/claim/cut.py" 219,.int 11 0,.int 3 0,.int 0 0,.int 0 0,.int 3 0,.ref 37,.bool true,.int 181 0,.ref 38,.none,.ref 39,.ref 40,.ref 41,.int 223 0,.int 11 0,zV "/claim/cut.py" 224]
noncomputable def o43_4 (P:Params) : Obj := ⟨.type "function",none,fnD (yS "__get__") (yS "_tuplegetter.__get__") (inCls (cell 2) 1) 3 (.ref 36) .none .none (zV "cpy313.difflib" 194) none (.ref 42) .none 0,#[]⟩
noncomputable def o44_4 (P:Params) : Obj := tU [] 0
noncomputable def o45_4 (P:Params) : Obj := nO (.fields #[])
noncomputable def o46_4 (P:Params) : Obj := tU [zV "self" 229,zV "obj" 230,zV "value" 231] 0
noncomputable def o47_4 (P:Params) : Obj := tU [] 0
noncomputable def o48_4 (P:Params) : Obj := nO (fnD (yS "__set__") (yS "_tuplegetter.__set__") (inCls (cell 2) 2) 0 .none .none .none .none none .none .none 0)
noncomputable def o49_4 (P:Params) : Obj := fO "code" [zV "__set__" 226,zV "_tuplegetter.__set__" 227,zV "/claim/cut.py" 228,.int 18 0,.int 3 0,.int 0 0,.int 0 0,.int 3 0,.ref 44,.bool true,.int 181 0,.ref 45,.none,.ref 46,.ref 47,.ref 48,.int 232 0,.int 18 0,zV "/claim/cut.py" 233]
noncomputable def o50_4 (P:Params) : Obj := ⟨.type "function",none,fnD (yS "__set__") (yS "_tuplegetter.__set__") (inCls (cell 2) 2) 3 .none .none .none (zV "cpy313.difflib" 194) none (.ref 49) .none 0,#[]⟩
noncomputable def o51_4 (P:Params) : Obj := tU [] 0
noncomputable def o52_4 (P:Params) : Obj := nO (.fields #[])
noncomputable def o53_4 (P:Params) : Obj := tU [zV "self" 238,zV "obj" 239] 0
noncomputable def o54_4 (P:Params) : Obj := tU [] 0
noncomputable def o55_4 (P:Params) : Obj := nO (fnD (yS "__delete__") (yS "_tuplegetter.__delete__") (inCls (cell 2) 3) 0 .none .none .none .none none .none .none 0)
noncomputable def o56_4 (P:Params) : Obj := fO "code" [zV "__delete__" 235,zV "_tuplegetter.__delete__" 236,zV "/claim/cut.py" 237,.int 21 0,.int 2 0,.int 0 0,.int 0 0,.int 3 0,.ref 51,.bool true,.int 181 0,.ref 52,.none,.ref 53,.ref 54,.ref 55,.int 240 0,.int 21 0,zV "/claim/cut.py" 241]
noncomputable def o57_4 (P:Params) : Obj := ⟨.type "function",none,fnD (yS "__delete__") (yS "_tuplegetter.__delete__") (inCls (cell 2) 3) 3 .none .none .none (zV "cpy313.difflib" 194) none (.ref 56) .none 0,#[]⟩
noncomputable def o58_4 (P:Params) : Obj := tU [zV "__doc__" 243,zV "index" 244] 0
noncomputable def o59_4 (P:Params) : Obj := ⟨.type "dict",none,.dict #[en P "__module__" 203 (zV "cpy313.difflib" 194),en P "__firstlineno__" 207 (.int 5 206),en P "__init__" 216 (.ref 35),en P "__get__" 225 (.ref 43),en P "__set__" 234 (.ref 50),en P "__delete__" 242 (.ref 57),en P "__static_attributes__" 245 (.ref 58),en P "__dict__" 247 (.ref 61),en P "__weakref__" 249 (.ref 62),en P "__doc__" 250 .none] 4,#[]⟩
noncomputable def o60_4 (P:Params) : Obj := ⟨.type "type",none,.cls { name := (yS "_tuplegetter"),bases := [.type "object"],mro := [.ref 60,.type "object"],ns := 59,qualname := (yS "_tuplegetter"),hasDict := true,slotNames := [],subclasses := [],abstract := false,collection := none,hasDel := false },#[none,none,some (zV "_tuplegetter" 196),some (zV "_tuplegetter" 204),some (.builtin "object.__new__"),some (.bool true)]⟩
noncomputable def o61_4 (P:Params) : Obj := fO "getset_descriptor" [zV "__dict__" 246,.ref 60,.builtin "function.__dict__",.builtin "function.__dict__#set"]
noncomputable def o62_4 (P:Params) : Obj := fO "getset_descriptor" [zV "__weakref__" 248,.ref 60,.builtin "ExceptionGroup.__weakref__",.none]
noncomputable def o63_4 (P:Params) : Obj := fO "super" [.ref 60,.ref 60,.ref 60]
noncomputable def o64_4 (P:Params) : Obj := fO "builtin_function_or_method" [.builtin "object.__init_subclass__",.ref 60]
noncomputable def o65_4 (P:Params) : Obj := tU [.type "tuple"] 0
noncomputable def o66_4 (P:Params) : Obj := fO "builtin_function_or_method" [.builtin "type.__prepare__",.type "type"]
noncomputable def o67_4 (P:Params) : Obj := ⟨.type "dict",none,.dict #[en P "__module__" 260 (zV "cpy313.difflib" 194),en P "__qualname__" 262 (zV "Match" 261),en P "__firstlineno__" 264 (.int 23 263),en P "__doc__" 266 (zV "Match(a, b, size)" 265),en P "__slots__" 268 (.ref 73),en P "_fields" 272 (.ref 74),en P "_field_defaults" 273 (.ref 75),en P "__new__" 284 (.ref 82),en P "_make" 306 (.ref 91),en P "_replace" 317 (.ref 100),en P "__replace__" 318 (.ref 100),en P "__repr__" 326 (.ref 107),en P "_asdict" 333 (.ref 114),en P "__getnewargs__" 341 (.ref 121),en P "__match_args__" 345 (.ref 122),en P "a" 355 (.ref 124),en P "b" 365 (.ref 127),en P "size" 375 (.ref 130),en P "__static_attributes__" 376 (.ref 132),en P "__classcell__" 377 (.ref 68)] 20,#[]⟩
noncomputable def o68_4 (P:Params) : Obj := ⟨.type "cell",none,.cell (some (.ref 135)),#[]⟩
noncomputable def o69_4 (P:Params) : Obj := tU [] 0
noncomputable def o70_4 (P:Params) : Obj := nO (.fields #[.int 29 0,.int 4 0,.ref 81,.int 34 0,.int 4 0,.ref 88,.int 41 0,.int 4 0,.ref 99,.int 52 0,.int 4 0,.ref 106,.int 56 0,.int 4 0,.ref 113,.int 59 0,.int 4 0,.ref 120])
noncomputable def o71_4 (P:Params) : Obj := fO "code" [zV "Match" 255,zV "Match" 256,zV "/claim/cut.py" 257,.int 23 0,.int 0 0,.int 0 0,.int 0 0,.int 0 0,.ref 69,.bool false,.int 181 0,.ref 70,.none,.none,.none,.none,.int 258 0,.int 23 0,zV "/claim/cut.py" 259]
noncomputable def o72_4 (P:Params) : Obj := ⟨.type "frame",none,.plain,#[some (.ref 71),some (.ref 3),some (.ref 67),none,some (zV "cpy313.difflib" 194),none,some (.ref 0)]⟩
noncomputable def o73_4 (P:Params) : Obj := tU [] 0
noncomputable def o74_4 (P:Params) : Obj := tU [zV "a" 269,zV "b" 270,zV "size" 271] 0
noncomputable def o75_4 (P:Params) : Obj := ⟨.type "dict",none,.dict #[] 0,#[]⟩
noncomputable def o76_4 (P:Params) : Obj := tU [] 0
noncomputable def o77_4 (P:Params) : Obj := nO (.fields #[])
noncomputable def o78_4 (P:Params) : Obj := tU [zV "_cls" 277,zV "a" 278,zV "b" 279,zV "size" 280] 0
noncomputable def o79_4 (P:Params) : Obj := tU [] 0
noncomputable def o80_4 (P:Params) : Obj := nO (fnD (yS "__new__") (yS "Match.__new__") (inCls (cell 3) 4) 0 .none .none .none .none none .none .none 0)
noncomputable def o81_4 (P:Params) : Obj := fO "code" [zV "__new__" 274,zV "Match.__new__" 275,zV "/claim/cut.py" 276,.int 29 0,.int 4 0,.int 0 0,.int 0 0,.int 3 0,.ref 76,.bool true,.int 181 0,.ref 77,.none,.ref 78,.ref 79,.ref 80,.int 281 0,.int 29 0,zV "/claim/cut.py" 282]
noncomputable def o82_4 (P:Params) : Obj := ⟨.type "function",none,fnD (yS "__new__") (yS "Match.__new__") (inCls (cell 3) 4) 3 .none .none (.str (dOf (inCls (cell 3) 4)) 283) (zV "cpy313.difflib" 194) none (.ref 81) .none 0,#[]⟩
noncomputable def o83_4 (P:Params) : Obj := tU [] 0
noncomputable def o84_4 (P:Params) : Obj := nO (.fields #[])
noncomputable def o85_4 (P:Params) : Obj := tU [zV "cls" 288,zV "iterable" 289,zV "result" 290] 0
noncomputable def o86_4 (P:Params) : Obj := tU [] 0
noncomputable def o87_4 (P:Params) : Obj := nO (fnD (yS "_make") (yS "Match._make") (inCls (cell 3) 5) 0 .none .none .none .none none .none .none 0)
noncomputable def o88_4 (P:Params) : Obj := fO "code" [zV "_make" 285,zV "Match._make" 286,zV "/claim/cut.py" 287,.int 33 0,.int 2 0,.int 0 0,.int 0 0,.int 3 0,.ref 83,.bool true,.int 181 0,.ref 84,.none,.ref 85,.ref 86,.ref 87,.int 291 0,.int 33 0,zV "/claim/cut.py" 292]
noncomputable def o89_4 (P:Params) : Obj := ⟨.type "function",none,fnD (yS "_make") (yS "Match._make") (inCls (cell 3) 5) 3 .none .none (.str (dOf (inCls (cell 3) 5)) 293) (zV "cpy313.difflib" 194) (some 92) (.ref 88) .none 0,#[]⟩
noncomputable def o90_4 (P:Params) : Obj := ⟨.type "dict",none,.dict #[en P "__module__" 295 (zV "cpy313.difflib" 194),en P "__name__" 298 (zV "_make" 297),en P "__qualname__" 301 (zV "Match._make" 300),en P "__doc__" 303 (.str (dOf (inCls (cell 3) 5)) 293),en P "__annotations__" 305 (.ref 92)] 5,#[]⟩
noncomputable def o91_4 (P:Params) : Obj := ⟨.type "classmethod",(some 90),.fields #[.ref 89,.bool false],#[]⟩
noncomputable def o92_4 (P:Params) : Obj := ⟨.type "dict",none,.dict #[] 0,#[]⟩
noncomputable def o93_4 (P:Params) : Obj := tU [.ref 68] 0
noncomputable def o94_4 (P:Params) : Obj := tU [zV "__class__" 310] 0
noncomputable def o95_4 (P:Params) : Obj := nO (.fields #[])
noncomputable def o96_4 (P:Params) : Obj := tU [zV "self" 311,zV "kwds" 312,zV "result" 313] 0
noncomputable def o97_4 (P:Params) : Obj := tU [] 0
noncomputable def o98_4 (P:Params) : Obj := nO (fnD (yS "_replace") (yS "Match._replace") (inCls (cell 3) 6) 0 .none .none .none .none none .none .none 0)
noncomputable def o99_4 (P:Params) : Obj := fO "code" [zV "_replace" 307,zV "Match._replace" 308,zV "/claim/cut.py" 309,.int 41 0,.int 1 0,.int 1 0,.int 0 0,.int 11 0,.ref 94,.bool true,.int 181 0,.ref 95,.none,.ref 96,.ref 97,.ref 98,.int 314 0,.int 41 0,zV "/claim/cut.py" 315]
noncomputable def o100_4 (P:Params) : Obj := ⟨.type "function",none,.func { name := (yS "_replace"),qualname := (yS "Match._replace"),params := fA (inCls (cell 3) 6),body := .stmts (fB (inCls (cell 3) 6)),scope := fS (inCls (cell 3) 6),globals := 3,closure := [((yS "__class__"),68)],defaults := .none,kwdefaults := .none,doc := .str (dOf (inCls (cell 3) 6)) 316,pyModule := zV "cpy313.difflib" 194,annotations := none,code := .ref 99,closureTuple := .ref 93,builtins := 0 },#[]⟩
noncomputable def o101_4 (P:Params) : Obj := tU [] 0
noncomputable def o102_4 (P:Params) : Obj := nO (.fields #[])
noncomputable def o103_4 (P:Params) : Obj := tU [zV "self" 322] 0
noncomputable def o104_4 (P:Params) : Obj := tU [] 0
noncomputable def o105_4 (P:Params) : Obj := nO (fnD (yS "__repr__") (yS "Match.__repr__") (inCls (cell 3) 8) 0 .none .none .none .none none .none .none 0)
noncomputable def o106_4 (P:Params) : Obj := fO "code" [zV "__repr__" 319,zV "Match.__repr__" 320,zV "/claim/cut.py" 321,.int 52 0,.int 1 0,.int 0 0,.int 0 0,.int 3 0,.ref 101,.bool true,.int 181 0,.ref 102,.none,.ref 103,.ref 104,.ref 105,.int 323 0,.int 52 0,zV "/claim/cut.py" 324]
noncomputable def o107_4 (P:Params) : Obj := ⟨.type "function",none,fnD (yS "__repr__") (yS "Match.__repr__") (inCls (cell 3) 8) 3 .none .none (.str (dOf (inCls (cell 3) 8)) 325) (zV "cpy313.difflib" 194) none (.ref 106) .none 0,#[]⟩
noncomputable def o108_4 (P:Params) : Obj := tU [] 0
noncomputable def o109_4 (P:Params) : Obj := nO (.fields #[])
noncomputable def o110_4 (P:Params) : Obj := tU [zV "self" 330] 0
noncomputable def o111_4 (P:Params) : Obj := tU [] 0
noncomputable def o112_4 (P:Params) : Obj := nO (fnD (yS "_asdict") (yS "Match._asdict") (inCls (cell 3) 9) 0 .none .none .none .none none .none .none 0)
noncomputable def o113_4 (P:Params) : Obj := fO "code" [zV "_asdict" 327,zV "Match._asdict" 328,zV "/claim/cut.py" 329,.int 56 0,.int 1 0,.int 0 0,.int 0 0,.int 3 0,.ref 108,.bool true,.int 181 0,.ref 109,.none,.ref 110,.ref 111,.ref 112,.int 331 0,.int 56 0,zV "/claim/cut.py" 332]
noncomputable def o114_4 (P:Params) : Obj := ⟨.type "function",none,fnD (yS "_asdict") (yS "Match._asdict") (inCls (cell 3) 9) 3 .none .none .none (zV "cpy313.difflib" 194) none (.ref 113) .none 0,#[]⟩
noncomputable def o115_4 (P:Params) : Obj := tU [] 0
noncomputable def o116_4 (P:Params) : Obj := nO (.fields #[])
noncomputable def o117_4 (P:Params) : Obj := tU [zV "self" 337] 0
noncomputable def o118_4 (P:Params) : Obj := tU [] 0
noncomputable def o119_4 (P:Params) : Obj := nO (fnD (yS "__getnewargs__") (yS "Match.__getnewargs__") (inCls (cell 3) 10) 0 .none .none .none .none none .none .none 0)
noncomputable def o120_4 (P:Params) : Obj := fO "code" [zV "__getnewargs__" 334,zV "Match.__getnewargs__" 335,zV "/claim/cut.py" 336,.int 59 0,.int 1 0,.int 0 0,.int 0 0,.int 3 0,.ref 115,.bool true,.int 181 0,.ref 116,.none,.ref 117,.ref 118,.ref 119,.int 338 0,.int 59 0,zV "/claim/cut.py" 339]
noncomputable def o121_4 (P:Params) : Obj := ⟨.type "function",none,fnD (yS "__getnewargs__") (yS "Match.__getnewargs__") (inCls (cell 3) 10) 3 .none .none (.str (dOf (inCls (cell 3) 10)) 340) (zV "cpy313.difflib" 194) none (.ref 120) .none 0,#[]⟩
noncomputable def o122_4 (P:Params) : Obj := tU [zV "a" 342,zV "b" 343,zV "size" 344] 0
noncomputable def o123_4 (P:Params) : Obj := ⟨.type "dict",none,.dict #[en P "index" 352 (.int 0 346),en P "__doc__" 354 (zV "Alias for field number 0" 347)] 2,#[]⟩
noncomputable def o124_4 (P:Params) : Obj := ⟨.ref 60,(some 123),.plain,#[]⟩
noncomputable def o125_4 (P:Params) : Obj := ⟨.type "frame",none,.dict #[en P "self" 348 (.ref 124),en P "index" 349 (.int 0 346),en P "doc" 350 (zV "Alias for field number 0" 347)] 3,#[]⟩
noncomputable def o126_4 (P:Params) : Obj := ⟨.type "dict",none,.dict #[en P "index" 362 (.int 1 356),en P "__doc__" 364 (zV "Alias for field number 1" 357)] 2,#[]⟩
noncomputable def o127_4 (P:Params) : Obj := ⟨.ref 60,(some 126),.plain,#[]⟩
noncomputable def o128_4 (P:Params) : Obj := ⟨.type "frame",none,.dict #[en P "self" 358 (.ref 127),en P "index" 359 (.int 1 356),en P "doc" 360 (zV "Alias for field number 1" 357)] 3,#[]⟩
noncomputable def o129_4 (P:Params) : Obj := ⟨.type "dict",none,.dict #[en P "index" 372 (.int 2 366),en P "__doc__" 374 (zV "Alias for field number 2" 367)] 2,#[]⟩
noncomputable def o130_4 (P:Params) : Obj := ⟨.ref 60,(some 129),.plain,#[]⟩
noncomputable def o131_4 (P:Params) : Obj := ⟨.type "frame",none,.dict #[en P "self" 368 (.ref 130),en P "index" 369 (.int 2 366),en P "doc" 370 (zV "Alias for field number 2" 367)] 3,#[]⟩
noncomputable def o132_4 (P:Params) : Obj := tU [] 0
noncomputable def o133_4 (P:Params) : Obj := ⟨.type "list",none,.seq #[] 0,#[]⟩
noncomputable def o134_4 (P:Params) : Obj := ⟨.type "dict",none,.dict #[en P "__module__" 260 (zV "cpy313.difflib" 194),en P "__firstlineno__" 264 (.int 23 263),en P "__doc__" 266 (zV "Match(a, b, size)" 265),en P "__slots__" 268 (.ref 73),en P "_fields" 272 (.ref 74),en P "_field_defaults" 273 (.ref 75),en P "__new__" 284 (.ref 136),en P "_make" 306 (.ref 91),en P "_replace" 317 (.ref 100),en P "__replace__" 318 (.ref 100),en P "__repr__" 326 (.ref 107),en P "_asdict" 333 (.ref 114),en P "__getnewargs__" 341 (.ref 121),en P "__match_args__" 345 (.ref 122),en P "a" 355 (.ref 124),en P "b" 365 (.ref 127),en P "size" 375 (.ref 130),en P "__static_attributes__" 376 (.ref 132)] 2,#[]⟩
noncomputable def o135_4 (P:Params) : Obj := ⟨.type "type",none,.cls { name := (yS "Match"),bases := [.type "tuple"],mro := [.ref 135,.type "tuple",.type "object"],ns := 134,qualname := (yS "Match"),hasDict := false,slotNames := [],subclasses := [],abstract := false,collection := none,hasDel := false },#[some (.ref 65),none,some (zV "Match" 253),some (zV "Match" 261),some .none,some (.bool false)]⟩
noncomputable def o136_4 (P:Params) : Obj := fO "staticmethod" [.ref 82]
noncomputable def o137_4 (P:Params) : Obj := fO "super" [.ref 135,.ref 135,.ref 135]
noncomputable def o138_4 (P:Params) : Obj := fO "builtin_function_or_method" [.builtin "object.__init_subclass__",.ref 135]
noncomputable def o139_4 (P:Params) : Obj := tU [] 0
noncomputable def o140_4 (P:Params) : Obj := nO (.fields #[])
noncomputable def o141_4 (P:Params) : Obj := tU [zV "matches" 384,zV "length" 385] 0
noncomputable def o142_4 (P:Params) : Obj := tU [] 0
noncomputable def o143_4 (P:Params) : Obj := nO (fnD (yS "_calculate_ratio") (yS "_calculate_ratio") (cell 4) 0 .none .none .none .none none .none .none 0)
noncomputable def o144_4 (P:Params) : Obj := fO "code" [zV "_calculate_ratio" 381,zV "_calculate_ratio" 382,zV "/claim/cut.py" 383,.int 66 0,.int 2 0,.int 0 0,.int 0 0,.int 3 0,.ref 139,.bool true,.int 181 0,.ref 140,.none,.ref 141,.ref 142,.ref 143,.int 386 0,.int 66 0,zV "/claim/cut.py" 387]
noncomputable def o145_4 (P:Params) : Obj := ⟨.type "function",none,fnD (yS "_calculate_ratio") (yS "_calculate_ratio") (cell 4) 3 .none .none .none (zV "cpy313.difflib" 194) none (.ref 144) .none 0,#[]⟩
noncomputable def T4 (P:Params) : BT := (.node (o0_B P) (.node (o1_B P) (.node (o3_4 P) (.node (o7_B P) (.node (o15_4 P) (.node (o31_4 P) (.node (o63_4 P) (.node (o127_4 P) .nil .nil) .nil) (.node (o95_4 P) .nil .nil)) (.node (o47_4 P) (.node (o79_4 P) (.node (o143_4 P) .nil .nil) .nil) (.node (o111_4 P) .nil .nil))) (.node (o23_4 P) (.node (o39_4 P) (.node (o71_4 P) (.node (o135_4 P) .nil .nil) .nil) (.node (o103_4 P) .nil .nil)) (.node (o55_4 P) (.node (o87_4 P) .nil .nil) (.node (o119_4 P) .nil .nil)))) (.node (o11_B P) (.node (o19_4 P) (.node (o35_4 P) (.node (o67_4 P) (.node (o131_4 P) .nil .nil) .nil) (.node (o99_4 P) .nil .nil)) (.node (o51_4 P) (.node (o83_4 P) .nil .nil) (.node (o115_4 P) .nil .nil))) (.node (o27_4 P) (.node (o43_4 P) (.node (o75_4 P) (.node (o139_4 P) .nil .nil) .nil) (.node (o107_4 P) .nil .nil)) (.node (o59_4 P) (.node (o91_4 P) .nil .nil) (.node (o123_4 P) .nil .nil))))) (.node (o5_B P) (.node (o9_B P) (.node (o17_4 P) (.node (o33_4 P) (.node (o65_4 P) (.node (o129_4 P) .nil .nil) .nil) (.node (o97_4 P) .nil .nil)) (.node (o49_4 P) (.node (o81_4 P) (.node (o145_4 P) .nil .nil) .nil) (.node (o113_4 P) .nil .nil))) (.node (o25_4 P) (.node (o41_4 P) (.node (o73_4 P) (.node (o137_4 P) .nil .nil) .nil) (.node (o105_4 P) .nil .nil)) (.node (o57_4 P) (.node (o89_4 P) .nil .nil) (.node (o121_4 P) .nil .nil)))) (.node (o13_B P) (.node (o21_4 P) (.node (o37_4 P) (.node (o69_4 P) (.node (o133_4 P) .nil .nil) .nil) (.node (o101_4 P) .nil .nil)) (.node (o53_4 P) (.node (o85_4 P) .nil .nil) (.node (o117_4 P) .nil .nil))) (.node (o29_4 P) (.node (o45_4 P) (.node (o77_4 P) (.node (o141_4 P) .nil .nil) .nil) (.node (o109_4 P) .nil .nil)) (.node (o61_4 P) (.node (o93_4 P) .nil .nil) (.node (o125_4 P) .nil .nil)))))) (.node (o2_B P) (.node (o4_B P) (.node (o8_B P) (.node (o16_4 P) (.node (o32_4 P) (.node (o64_4 P) (.node (o128_4 P) .nil .nil) .nil) (.node (o96_4 P) .nil .nil)) (.node (o48_4 P) (.node (o80_4 P) (.node (o144_4 P) .nil .nil) .nil) (.node (o112_4 P) .nil .nil))) (.node (o24_4 P) (.node (o40_4 P) (.node (o72_4 P) (.node (o136_4 P) .nil .nil) .nil) (.node (o104_4 P) .nil .nil)) (.node (o56_4 P) (.node (o88_4 P) .nil .nil) (.node (o120_4 P) .nil .nil)))) (.node (o12_4 P) (.node (o20_4 P) (.node (o36_4 P) (.node (o68_4 P) (.node (o132_4 P) .nil .nil) .nil) (.node (o100_4 P) .nil .nil)) (.node (o52_4 P) (.node (o84_4 P) .nil .nil) (.node (o116_4 P) .nil .nil))) (.node (o28_4 P) (.node (o44_4 P) (.node (o76_4 P) (.node (o140_4 P) .nil .nil) .nil) (.node (o108_4 P) .nil .nil)) (.node (o60_4 P) (.node (o92_4 P) .nil .nil) (.node (o124_4 P) .nil .nil))))) (.node (o6_B P) (.node (o10_B P) (.node (o18_4 P) (.node (o34_4 P) (.node (o66_4 P) (.node (o130_4 P) .nil .nil) .nil) (.node (o98_4 P) .nil .nil)) (.node (o50_4 P) (.node (o82_4 P) .nil .nil) (.node (o114_4 P) .nil .nil))) (.node (o26_4 P) (.node (o42_4 P) (.node (o74_4 P) (.node (o138_4 P) .nil .nil) .nil) (.node (o106_4 P) .nil .nil)) (.node (o58_4 P) (.node (o90_4 P) .nil .nil) (.node (o122_4 P) .nil .nil)))) (.node (o14_B P) (.node (o22_4 P) (.node (o38_4 P) (.node (o70_4 P) (.node (o134_4 P) .nil .nil) .nil) (.node (o102_4 P) .nil .nil)) (.node (o54_4 P) (.node (o86_4 P) .nil .nil) (.node (o118_4 P) .nil .nil))) (.node (o30_4 P) (.node (o46_4 P) (.node (o78_4 P) (.node (o142_4 P) .nil .nil) .nil) (.node (o110_4 P) .nil .nil)) (.node (o62_4 P) (.node (o94_4 P) .nil .nil) (.node (o126_4 P) .nil .nil)))))))
noncomputable def S4 (w:World) (os:OsState) : SharedT := ⟨T4 w.params,146,{},#[],{},389,os⟩
noncomputable def o3_5 (P:Params) : Obj := ⟨.type "dict",none,.dict #[en P "__name__" 165 (zV "cpy313.difflib" 194),en P "__doc__" 166 .none,en P "__package__" 167 .none,en P "__loader__" 168 (.builtin "__main__.__loader__#opaque"),en P "__spec__" 169 .none,en P "__annotations__" 170 (.ref 6),en P "__builtins__" 171 (.ref 4),en P "__file__" 173 (zV "/claim/cut.py" 172),en P "__cached__" 174 .none,en P "_wall" 193 (.ref 21),en P "_tuplegetter" 252 (.ref 60),en P "Match" 380 (.ref 135),en P "_calculate_ratio" 388 (.ref 145),en P "SequenceMatcher" 582 (.ref 242)] 14,#[]⟩
noncomputable def o12_5 (P:Params) : Obj := nO (.fields #[.int 1 0,.int 0 0,.ref 20,.int 5 0,.int 0 0,.ref 27,.int 23 0,.int 0 0,.ref 71,.int 66 0,.int 0 0,.ref 144,.int 70 0,.int 0 0,.ref 151])
noncomputable def o146_5 (P:Params) : Obj := tU [] 0
noncomputable def o147_5 (P:Params) : Obj := fO "builtin_function_or_method" [.builtin "type.__prepare__",.type "type"]
noncomputable def o148_5 (P:Params) : Obj := ⟨.type "dict",none,.dict #[en P "__module__" 396 (zV "cpy313.difflib" 194),en P "__qualname__" 398 (zV "SequenceMatcher" 397),en P "__firstlineno__" 400 (.int 70 399),en P "__doc__" 402 (.str docC 401),en P "__init__" 417 (.ref 160),en P "set_seqs" 427 (.ref 167),en P "set_seq1" 436 (.ref 174),en P "set_seq2" 445 (.ref 181),en P "_SequenceMatcher__chain_b" 463 (.ref 188),en P "find_longest_match" 491 (.ref 196),en P "get_matching_blocks" 518 (.ref 203),en P "get_opcodes" 533 (.ref 210),en P "get_grouped_opcodes" 542 (.ref 218),en P "ratio" 551 (.ref 225),en P "quick_ratio" 558 (.ref 232),en P "real_quick_ratio" 565 (.ref 239),en P "__static_attributes__" 576 (.ref 240)] 17,#[]⟩
noncomputable def o149_5 (P:Params) : Obj := tU [] 0
noncomputable def o150_5 (P:Params) : Obj := nO (.fields #[.int 145 0,.int 4 0,.ref 159,.int 173 0,.int 4 0,.ref 166,.int 184 0,.int 4 0,.ref 173,.int 209 0,.int 4 0,.ref 180,.int 236 0,.int 4 0,.ref 187,.int 260 0,.int 4 0,.ref 195,.int 335 0,.int 4 0,.ref 202,.int 383 0,.int 4 0,.ref 209,.int 430 0,.int 4 0,.ref 217,.int 433 0,.int 4 0,.ref 224,.int 457 0,.int 4 0,.ref 231,.int 460 0,.int 4 0,.ref 238])
noncomputable def o151_5 (P:Params) : Obj := fO "code" [zV "SequenceMatcher" 391,zV "SequenceMatcher" 392,zV "/claim/cut.py" 393,.int 70 0,.int 0 0,.int 0 0,.int 0 0,.int 0 0,.ref 149,.bool false,.int 181 0,.ref 150,.none,.none,.none,.none,.int 394 0,.int 70 0,zV "/claim/cut.py" 395]
noncomputable def o152_5 (P:Params) : Obj := ⟨.type "frame",none,.plain,#[some (.ref 151),some (.ref 3),some (.ref 148),none,some (zV "cpy313.difflib" 194),none,some (.ref 0)]⟩
noncomputable def o153_5 (P:Params) : Obj := tU [.none,zV "" 404,zV "" 405,.bool true] 0
noncomputable def o154_5 (P:Params) : Obj := tU [] 0
noncomputable def o155_5 (P:Params) : Obj := nO (.fields #[])
noncomputable def o156_5 (P:Params) : Obj := tU [zV "self" 409,zV "isjunk" 410,zV "a" 411,zV "b" 412,zV "autojunk" 413] 0
noncomputable def o157_5 (P:Params) : Obj := tU [] 0
noncomputable def o158_5 (P:Params) : Obj := nO (fnD (yS "__init__") (yS "SequenceMatcher.__init__") (inCls (cell 5) 1) 0 .none .none .none .none none .none .none 0)
noncomputable def o159_5 (P:Params) : Obj := fO "code" [zV "__init__" 406,zV "SequenceMatcher.__init__" 407,zV "/claim/cut.py" 408,.int 145 0,.int 5 0,.int 0 0,.int 0 0,.int 3 0,.ref 154,.bool true,.int 181 0,.ref 155,.none,.ref 156,.ref 157,.ref 158,.int 414 0,.int 145 0,zV "/claim/cut.py" 415]
noncomputable def o160_5 (P:Params) : Obj := ⟨.type "function",none,fnD (yS "__init__") (yS "SequenceMatcher.__init__") (inCls (cell 5) 1) 3 (.ref 153) .none (.str (dOf (inCls (cell 5) 1)) 416) (zV "cpy313.difflib" 194) none (.ref 159) .none 0,#[]⟩
noncomputable def o161_5 (P:Params) : Obj := tU [] 0
noncomputable def o162_5 (P:Params) : Obj := nO (.fields #[])
noncomputable def o163_5 (P:Params) : Obj := tU [zV "self" 421,zV "a" 422,zV "b" 423] 0
noncomputable def o164_5 (P:Params) : Obj := tU [] 0
noncomputable def o165_5 (P:Params) : Obj := nO (fnD (yS "set_seqs") (yS "SequenceMatcher.set_seqs") (inCls (cell 5) 2) 0 .none .none .none .none none .none .none 0)
noncomputable def o166_5 (P:Params) : Obj := fO "code" [zV "set_seqs" 418,zV "SequenceMatcher.set_seqs" 419,zV "/claim/cut.py" 420,.int 173 0,.int 3 0,.int 0 0,.int 0 0,.int 3 0,.ref 161,.bool true,.int 181 0,.ref 162,.none,.ref 163,.ref 164,.ref 165,.int 424 0,.int 173 0,zV "/claim/cut.py" 425]
noncomputable def o167_5 (P:Params) : Obj := ⟨.type "function",none,fnD (yS "set_seqs") (yS "SequenceMatcher.set_seqs") (inCls (cell 5) 2) 3 .none .none (.str (dOf (inCls (cell 5) 2)) 426) (zV "cpy313.difflib" 194) none (.ref 166) .none 0,#[]⟩
noncomputable def o168_5 (P:Params) : Obj := tU [] 0
noncomputable def o169_5 (P:Params) : Obj := nO (.fields #[])
noncomputable def o170_5 (P:Params) : Obj := tU [zV "self" 431,zV "a" 432] 0
noncomputable def o171_5 (P:Params) : Obj := tU [] 0
noncomputable def o172_5 (P:Params) : Obj := nO (fnD (yS "set_seq1") (yS "SequenceMatcher.set_seq1") (inCls (cell 5) 3) 0 .none .none .none .none none .none .none 0)
noncomputable def o173_5 (P:Params) : Obj := fO "code" [zV "set_seq1" 428,zV "SequenceMatcher.set_seq1" 429,zV "/claim/cut.py" 430,.int 184 0,.int 2 0,.int 0 0,.int 0 0,.int 3 0,.ref 168,.bool true,.int 181 0,.ref 169,.none,.ref 170,.ref 171,.ref 172,.int 433 0,.int 184 0,zV "/claim/cut.py" 434]
noncomputable def o174_5 (P:Params) : Obj := ⟨.type "function",none,fnD (yS "set_seq1") (yS "SequenceMatcher.set_seq1") (inCls (cell 5) 3) 3 .none .none (.str (dOf (inCls (cell 5) 3)) 435) (zV "cpy313.difflib" 194) none (.ref 173) .none 0,#[]⟩
noncomputable def o175_5 (P:Params) : Obj := tU [] 0
noncomputable def o176_5 (P:Params) : Obj := nO (.fields #[])
noncomputable def o177_5 (P:Params) : Obj := tU [zV "self" 440,zV "b" 441] 0
noncomputable def o178_5 (P:Params) : Obj := tU [] 0
noncomputable def o179_5 (P:Params) : Obj := nO (fnD (yS "set_seq2") (yS "SequenceMatcher.set_seq2") (inCls (cell 5) 4) 0 .none .none .none .none none .none .none 0)
noncomputable def o180_5 (P:Params) : Obj := fO "code" [zV "set_seq2" 437,zV "SequenceMatcher.set_seq2" 438,zV "/claim/cut.py" 439,.int 209 0,.int 2 0,.int 0 0,.int 0 0,.int 3 0,.ref 175,.bool true,.int 181 0,.ref 176,.none,.ref 177,.ref 178,.ref 179,.int 442 0,.int 209 0,zV "/claim/cut.py" 443]
noncomputable def o181_5 (P:Params) : Obj := ⟨.type "function",none,fnD (yS "set_seq2") (yS "SequenceMatcher.set_seq2") (inCls (cell 5) 4) 3 .none .none (.str (dOf (inCls (cell 5) 4)) 444) (zV "cpy313.difflib" 194) none (.ref 180) .none 0,#[]⟩
noncomputable def o182_5 (P:Params) : Obj := tU [] 0
noncomputable def o183_5 (P:Params) : Obj := nO (.fields #[])
noncomputable def o184_5 (P:Params) : Obj := tU [zV "self" 449,zV "b" 450,zV "b2j" 451,zV "i" 452,zV "elt" 453,zV "indices" 454,zV "junk" 455,zV "isjunk" 456,zV "popular" 457,zV "n" 458,zV "ntest" 459,zV "idxs" 460] 0
noncomputable def o185_5 (P:Params) : Obj := tU [] 0
noncomputable def o186_5 (P:Params) : Obj := nO (fnD (yS "__chain_b") (yS "SequenceMatcher.__chain_b") (inCls (cell 5) 5) 0 .none .none .none .none none .none .none 0)
noncomputable def o187_5 (P:Params) : Obj := fO "code" [zV "__chain_b" 446,zV "SequenceMatcher.__chain_b" 447,zV "/claim/cut.py" 448,.int 236 0,.int 1 0,.int 0 0,.int 0 0,.int 3 0,.ref 182,.bool true,.int 181 0,.ref 183,.none,.ref 184,.ref 185,.ref 186,.int 461 0,.int 236 0,zV "/claim/cut.py" 462]
noncomputable def o188_5 (P:Params) : Obj := ⟨.type "function",none,fnD (yS "__chain_b") (yS "SequenceMatcher.__chain_b") (inCls (cell 5) 5) 3 .none .none .none (zV "cpy313.difflib" 194) none (.ref 187) .none 0,#[]⟩
noncomputable def o189_5 (P:Params) : Obj := tU [.int 0 464,.none,.int 0 465,.none] 0
noncomputable def o190_5 (P:Params) : Obj := tU [] 0
noncomputable def o191_5 (P:Params) : Obj := nO (.fields #[])
noncomputable def o192_5 (P:Params) : Obj := tU [zV "self" 469,zV "alo" 470,zV "ahi" 471,zV "blo" 472,zV "bhi" 473,zV "a" 474,zV "b" 475,zV "b2j" 476,zV "isbjunk" 477,zV "besti" 478,zV "bestj" 479,zV "bestsize" 480,zV "j2len" 481,zV "nothing" 482,zV "i" 483,zV "j2lenget" 484,zV "newj2len" 485,zV "j" 486,zV "k" 487] 0
noncomputable def o193_5 (P:Params) : Obj := tU [] 0
noncomputable def o194_5 (P:Params) : Obj := nO (fnD (yS "find_longest_match") (yS "SequenceMatcher.find_longest_match") (inCls (cell 5) 6) 0 .none .none .none .none none .none .none 0)
noncomputable def o195_5 (P:Params) : Obj := fO "code" [zV "find_longest_match" 466,zV "SequenceMatcher.find_longest_match" 467,zV "/claim/cut.py" 468,.int 260 0,.int 5 0,.int 0 0,.int 0 0,.int 3 0,.ref 190,.bool true,.int 181 0,.ref 191,.none,.ref 192,.ref 193,.ref 194,.int 488 0,.int 260 0,zV "/claim/cut.py" 489]
noncomputable def o196_5 (P:Params) : Obj := ⟨.type "function",none,fnD (yS "find_longest_match") (yS "SequenceMatcher.find_longest_match") (inCls (cell 5) 6) 3 (.ref 189) .none (.str (dOf (inCls (cell 5) 6)) 490) (zV "cpy313.difflib" 194) none (.ref 195) .none 0,#[]⟩
noncomputable def o197_5 (P:Params) : Obj := tU [] 0
noncomputable def o198_5 (P:Params) : Obj := nO (.fields #[])
noncomputable def o199_5 (P:Params) : Obj := tU [zV "self" 495,zV "la" 496,zV "lb" 497,zV "queue" 498,zV "matching_blocks" 499,zV "alo" 500,zV "ahi" 501,zV "blo" 502,zV "bhi" 503,zV "i" 504,zV "j" 505,zV "k" 506,zV "x" 507,zV "i1" 508,zV "j1" 509,zV "k1" 510,zV "non_adjacent" 511,zV "i2" 512,zV "j2" 513,zV "k2" 514] 0
noncomputable def o200_5 (P:Params) : Obj := tU [] 0
noncomputable def o201_5 (P:Params) : Obj := nO (fnD (yS "get_matching_blocks") (yS "SequenceMatcher.get_matching_blocks") (inCls (cell 5) 7) 0 .none .none .none .none none .none .none 0)
noncomputable def o202_5 (P:Params) : Obj := fO "code" [zV "get_matching_blocks" 492,zV "SequenceMatcher.get_matching_blocks" 493,zV "/claim/cut.py" 494,.int 335 0,.int 1 0,.int 0 0,.int 0 0,.int 3 0,.ref 197,.bool true,.int 181 0,.ref 198,.none,.ref 199,.ref 200,.ref 201,.int 515 0,.int 335 0,zV "/claim/cut.py" 516]
noncomputable def o203_5 (P:Params) : Obj := ⟨.type "function",none,fnD (yS "get_matching_blocks") (yS "SequenceMatcher.get_matching_blocks") (inCls (cell 5) 7) 3 .none .none (.str (dOf (inCls (cell 5) 7)) 517) (zV "cpy313.difflib" 194) none (.ref 202) .none 0,#[]⟩
noncomputable def o204_5 (P:Params) : Obj := tU [] 0
noncomputable def o205_5 (P:Params) : Obj := nO (.fields #[])
noncomputable def o206_5 (P:Params) : Obj := tU [zV "self" 522,zV "i" 523,zV "j" 524,zV "answer" 525,zV "ai" 526,zV "bj" 527,zV "size" 528,zV "tag" 529] 0
noncomputable def o207_5 (P:Params) : Obj := tU [] 0
noncomputable def o208_5 (P:Params) : Obj := nO (fnD (yS "get_opcodes") (yS "SequenceMatcher.get_opcodes") (inCls (cell 5) 8) 0 .none .none .none .none none .none .none 0)
noncomputable def o209_5 (P:Params) : Obj := fO "code" [zV "get_opcodes" 519,zV "SequenceMatcher.get_opcodes" 520,zV "/claim/cut.py" 521,.int 383 0,.int 1 0,.int 0 0,.int 0 0,.int 3 0,.ref 204,.bool true,.int 181 0,.ref 205,.none,.ref 206,.ref 207,.ref 208,.int 530 0,.int 383 0,zV "/claim/cut.py" 531]
noncomputable def o210_5 (P:Params) : Obj := ⟨.type "function",none,fnD (yS "get_opcodes") (yS "SequenceMatcher.get_opcodes") (inCls (cell 5) 8) 3 .none .none (.str (dOf (inCls (cell 5) 8)) 532) (zV "cpy313.difflib" 194) none (.ref 209) .none 0,#[]⟩
noncomputable def o211_5 (P:Params) : Obj := tU [.int 3 534] 0
noncomputable def o212_5 (P:Params) : Obj := tU [] 0
noncomputable def o213_5 (P:Params) : Obj := nO (.fields #[])
noncomputable def o214_5 (P:Params) : Obj := tU [zV "self" 538,zV "n" 539] 0
noncomputable def o215_5 (P:Params) : Obj := tU [] 0
noncomputable def o216_5 (P:Params) : Obj := nO (fnD (yS "get_grouped_opcodes") (yS "SequenceMatcher.get_grouped_opcodes") (inCls (cell 5) 9) 0 .none .none .none .none none .none .none 0)
noncomputable def o217_5 (P:Params) : Obj := fO "code" [zV "get_grouped_opcodes" 535,zV "SequenceMatcher.get_grouped_opcodes" 536,zV "/claim/cut.py" 537,.int 430 0,.int 2 0,.int 0 0,.int 0 0,.int 3 0,.ref 212,.bool true,.int 181 0,.ref 213,.none,.ref 214,.ref 215,.ref 216,.int 540 0,.int 430 0,zV "/claim/cut.py" 541]
noncomputable def o218_5 (P:Params) : Obj := ⟨.type "function",none,fnD (yS "get_grouped_opcodes") (yS "SequenceMatcher.get_grouped_opcodes") (inCls (cell 5) 9) 3 (.ref 211) .none .none (zV "cpy313.difflib" 194) none (.ref 217) .none 0,#[]⟩
noncomputable def o219_5 (P:Params) : Obj := tU [] 0
noncomputable def o220_5 (P:Params) : Obj := nO (.fields #[])
noncomputable def o221_5 (P:Params) : Obj := tU [zV "self" 546,zV "matches" 547] 0
noncomputable def o222_5 (P:Params) : Obj := tU [] 0
noncomputable def o223_5 (P:Params) : Obj := nO (fnD (yS "ratio") (yS "SequenceMatcher.ratio") (inCls (cell 5) 10) 0 .none .none .none .none none .none .none 0)
noncomputable def o224_5 (P:Params) : Obj := fO "code" [zV "ratio" 543,zV "SequenceMatcher.ratio" 544,zV "/claim/cut.py" 545,.int 433 0,.int 1 0,.int 0 0,.int 0 0,.int 3 0,.ref 219,.bool true,.int 181 0,.ref 220,.none,.ref 221,.ref 222,.ref 223,.int 548 0,.int 433 0,zV "/claim/cut.py" 549]
noncomputable def o225_5 (P:Params) : Obj := ⟨.type "function",none,fnD (yS "ratio") (yS "SequenceMatcher.ratio") (inCls (cell 5) 10) 3 .none .none (.str (dOf (inCls (cell 5) 10)) 550) (zV "cpy313.difflib" 194) none (.ref 224) .none 0,#[]⟩
noncomputable def o226_5 (P:Params) : Obj := tU [] 0
noncomputable def o227_5 (P:Params) : Obj := nO (.fields #[])
noncomputable def o228_5 (P:Params) : Obj := tU [zV "self" 555] 0
noncomputable def o229_5 (P:Params) : Obj := tU [] 0
noncomputable def o230_5 (P:Params) : Obj := nO (fnD (yS "quick_ratio") (yS "SequenceMatcher.quick_ratio") (inCls (cell 5) 11) 0 .none .none .none .none none .none .none 0)
noncomputable def o231_5 (P:Params) : Obj := fO "code" [zV "quick_ratio" 552,zV "SequenceMatcher.quick_ratio" 553,zV "/claim/cut.py" 554,.int 457 0,.int 1 0,.int 0 0,.int 0 0,.int 3 0,.ref 226,.bool true,.int 181 0,.ref 227,.none,.ref 228,.ref 229,.ref 230,.int 556 0,.int 457 0,zV "/claim/cut.py" 557]
noncomputable def o232_5 (P:Params) : Obj := ⟨.type "function",none,fnD (yS "quick_ratio") (yS "SequenceMatcher.quick_ratio") (inCls (cell 5) 11) 3 .none .none .none (zV "cpy313.difflib" 194) none (.ref 231) .none 0,#[]⟩
noncomputable def o233_5 (P:Params) : Obj := tU [] 0
noncomputable def o234_5 (P:Params) : Obj := nO (.fields #[])
noncomputable def o235_5 (P:Params) : Obj := tU [zV "self" 562] 0
noncomputable def o236_5 (P:Params) : Obj := tU [] 0
noncomputable def o237_5 (P:Params) : Obj := nO (fnD (yS "real_quick_ratio") (yS "SequenceMatcher.real_quick_ratio") (inCls (cell 5) 12) 0 .none .none .none .none none .none .none 0)
noncomputable def o238_5 (P:Params) : Obj := fO "code" [zV "real_quick_ratio" 559,zV "SequenceMatcher.real_quick_ratio" 560,zV "/claim/cut.py" 561,.int 460 0,.int 1 0,.int 0 0,.int 0 0,.int 3 0,.ref 233,.bool true,.int 181 0,.ref 234,.none,.ref 235,.ref 236,.ref 237,.int 563 0,.int 460 0,zV "/claim/cut.py" 564]
noncomputable def o239_5 (P:Params) : Obj := ⟨.type "function",none,fnD (yS "real_quick_ratio") (yS "SequenceMatcher.real_quick_ratio") (inCls (cell 5) 12) 3 .none .none .none (zV "cpy313.difflib" 194) none (.ref 238) .none 0,#[]⟩
noncomputable def o240_5 (P:Params) : Obj := tU [zV "a" 566,zV "autojunk" 567,zV "b" 568,zV "b2j" 569,zV "bjunk" 570,zV "bpopular" 571,zV "fullbcount" 572,zV "isjunk" 573,zV "matching_blocks" 574,zV "opcodes" 575] 0
noncomputable def o241_5 (P:Params) : Obj := ⟨.type "dict",none,.dict #[en P "__module__" 396 (zV "cpy313.difflib" 194),en P "__firstlineno__" 400 (.int 70 399),en P "__doc__" 402 (.str docC 401),en P "__init__" 417 (.ref 160),en P "set_seqs" 427 (.ref 167),en P "set_seq1" 436 (.ref 174),en P "set_seq2" 445 (.ref 181),en P "_SequenceMatcher__chain_b" 463 (.ref 188),en P "find_longest_match" 491 (.ref 196),en P "get_matching_blocks" 518 (.ref 203),en P "get_opcodes" 533 (.ref 210),en P "get_grouped_opcodes" 542 (.ref 218),en P "ratio" 551 (.ref 225),en P "quick_ratio" 558 (.ref 232),en P "real_quick_ratio" 565 (.ref 239),en P "__static_attributes__" 576 (.ref 240),en P "__dict__" 578 (.ref 243),en P "__weakref__" 580 (.ref 244)] 3,#[]⟩
noncomputable def o242_5 (P:Params) : Obj := ⟨.type "type",none,.cls { name := (yS "SequenceMatcher"),bases := [.type "object"],mro := [.ref 242,.type "object"],ns := 241,qualname := (yS "SequenceMatcher"),hasDict := true,slotNames := [],subclasses := [],abstract := false,collection := none,hasDel := false },#[none,none,some (zV "SequenceMatcher" 389),some (zV "SequenceMatcher" 397),some (.builtin "object.__new__"),some (.bool true)]⟩
noncomputable def o243_5 (P:Params) : Obj := fO "getset_descriptor" [zV "__dict__" 577,.ref 242,.builtin "function.__dict__",.builtin "function.__dict__#set"]
noncomputable def o244_5 (P:Params) : Obj := fO "getset_descriptor" [zV "__weakref__" 579,.ref 242,.builtin "ExceptionGroup.__weakref__",.none]
noncomputable def o245_5 (P:Params) : Obj := fO "super" [.ref 242,.ref 242,.ref 242]
noncomputable def o246_5 (P:Params) : Obj := fO "builtin_function_or_method" [.builtin "object.__init_subclass__",.ref 242]
noncomputable def T5 (P:Params) : BT := (.node (o0_B P) (.node (o1_B P) (.node (o3_5 P) (.node (o7_B P) (.node (o15_4 P) (.node (o31_4 P) (.node (o63_4 P) (.node (o127_4 P) .nil .nil) (.node (o191_5 P) .nil .nil)) (.node (o95_4 P) (.node (o159_5 P) .nil .nil) (.node (o223_5 P) .nil .nil))) (.node (o47_4 P) (.node (o79_4 P) (.node (o143_4 P) .nil .nil) (.node (o207_5 P) .nil .nil)) (.node (o111_4 P) (.node (o175_5 P) .nil .nil) (.node (o239_5 P) .nil .nil)))) (.node (o23_4 P) (.node (o39_4 P) (.node (o71_4 P) (.node (o135_4 P) .nil .nil) (.node (o199_5 P) .nil .nil)) (.node (o103_4 P) (.node (o167_5 P) .nil .nil) (.node (o231_5 P) .nil .nil))) (.node (o55_4 P) (.node (o87_4 P) (.node (o151_5 P) .nil .nil) (.node (o215_5 P) .nil .nil)) (.node (o119_4 P) (.node (o183_5 P) .nil .nil) .nil)))) (.node (o11_B P) (.node (o19_4 P) (.node (o35_4 P) (.node (o67_4 P) (.node (o131_4 P) .nil .nil) (.node (o195_5 P) .nil .nil)) (.node (o99_4 P) (.node (o163_5 P) .nil .nil) (.node (o227_5 P) .nil .nil))) (.node (o51_4 P) (.node (o83_4 P) (.node (o147_5 P) .nil .nil) (.node (o211_5 P) .nil .nil)) (.node (o115_4 P) (.node (o179_5 P) .nil .nil) (.node (o243_5 P) .nil .nil)))) (.node (o27_4 P) (.node (o43_4 P) (.node (o75_4 P) (.node (o139_4 P) .nil .nil) (.node (o203_5 P) .nil .nil)) (.node (o107_4 P) (.node (o171_5 P) .nil .nil) (.node (o235_5 P) .nil .nil))) (.node (o59_4 P) (.node (o91_4 P) (.node (o155_5 P) .nil .nil) (.node (o219_5 P) .nil .nil)) (.node (o123_4 P) (.node (o187_5 P) .nil .nil) .nil))))) (.node (o5_B P) (.node (o9_B P) (.node (o17_4 P) (.node (o33_4 P) (.node (o65_4 P) (.node (o129_4 P) .nil .nil) (.node (o193_5 P) .nil .nil)) (.node (o97_4 P) (.node (o161_5 P) .nil .nil) (.node (o225_5 P) .nil .nil))) (.node (o49_4 P) (.node (o81_4 P) (.node (o145_4 P) .nil .nil) (.node (o209_5 P) .nil .nil)) (.node (o113_4 P) (.node (o177_5 P) .nil .nil) (.node (o241_5 P) .nil .nil)))) (.node (o25_4 P) (.node (o41_4 P) (.node (o73_4 P) (.node (o137_4 P) .nil .nil) (.node (o201_5 P) .nil .nil)) (.node (o105_4 P) (.node (o169_5 P) .nil .nil) (.node (o233_5 P) .nil .nil))) (.node (o57_4 P) (.node (o89_4 P) (.node (o153_5 P) .nil .nil) (.node (o217_5 P) .nil .nil)) (.node (o121_4 P) (.node (o185_5 P) .nil .nil) .nil)))) (.node (o13_B P) (.node (o21_4 P) (.node (o37_4 P) (.node (o69_4 P) (.node (o133_4 P) .nil .nil) (.node (o197_5 P) .nil .nil)) (.node (o101_4 P) (.node (o165_5 P) .nil .nil) (.node (o229_5 P) .nil .nil))) (.node (o53_4 P) (.node (o85_4 P) (.node (o149_5 P) .nil .nil) (.node (o213_5 P) .nil .nil)) (.node (o117_4 P) (.node (o181_5 P) .nil .nil) (.node (o245_5 P) .nil .nil)))) (.node (o29_4 P) (.node (o45_4 P) (.node (o77_4 P) (.node (o141_4 P) .nil .nil) (.node (o205_5 P) .nil .nil)) (.node (o109_4 P) (.node (o173_5 P) .nil .nil) (.node (o237_5 P) .nil .nil))) (.node (o61_4 P) (.node (o93_4 P) (.node (o157_5 P) .nil .nil) (.node (o221_5 P) .nil .nil)) (.node (o125_4 P) (.node (o189_5 P) .nil .nil) .nil)))))) (.node (o2_B P) (.node (o4_B P) (.node (o8_B P) (.node (o16_4 P) (.node (o32_4 P) (.node (o64_4 P) (.node (o128_4 P) .nil .nil) (.node (o192_5 P) .nil .nil)) (.node (o96_4 P) (.node (o160_5 P) .nil .nil) (.node (o224_5 P) .nil .nil))) (.node (o48_4 P) (.node (o80_4 P) (.node (o144_4 P) .nil .nil) (.node (o208_5 P) .nil .nil)) (.node (o112_4 P) (.node (o176_5 P) .nil .nil) (.node (o240_5 P) .nil .nil)))) (.node (o24_4 P) (.node (o40_4 P) (.node (o72_4 P) (.node (o136_4 P) .nil .nil) (.node (o200_5 P) .nil .nil)) (.node (o104_4 P) (.node (o168_5 P) .nil .nil) (.node (o232_5 P) .nil .nil))) (.node (o56_4 P) (.node (o88_4 P) (.node (o152_5 P) .nil .nil) (.node (o216_5 P) .nil .nil)) (.node (o120_4 P) (.node (o184_5 P) .nil .nil) .nil)))) (.node (o12_5 P) (.node (o20_4 P) (.node (o36_4 P) (.node (o68_4 P) (.node (o132_4 P) .nil .nil) (.node (o196_5 P) .nil .nil)) (.node (o100_4 P) (.node (o164_5 P) .nil .nil) (.node (o228_5 P) .nil .nil))) (.node (o52_4 P) (.node (o84_4 P) (.node (o148_5 P) .nil .nil) (.node (o212_5 P) .nil .nil)) (.node (o116_4 P) (.node (o180_5 P) .nil .nil) (.node (o244_5 P) .nil .nil)))) (.node (o28_4 P) (.node (o44_4 P) (.node (o76_4 P) (.node (o140_4 P) .nil .nil) (.node (o204_5 P) .nil .nil)) (.node (o108_4 P) (.node (o172_5 P) .nil .nil) (.node (o236_5 P) .nil .nil))) (.node (o60_4 P) (.node (o92_4 P) (.node (o156_5 P) .nil .nil) (.node (o220_5 P) .nil .nil)) (.node (o124_4 P) (.node (o188_5 P) .nil .nil) .nil))))) (.node (o6_B P) (.node (o10_B P) (.node (o18_4 P) (.node (o34_4 P) (.node (o66_4 P) (.node (o130_4 P) .nil .nil) (.node (o194_5 P) .nil .nil)) (.node (o98_4 P) (.node (o162_5 P) .nil .nil) (.node (o226_5 P) .nil .nil))) (.node (o50_4 P) (.node (o82_4 P) (.node (o146_5 P) .nil .nil) (.node (o210_5 P) .nil .nil)) (.node (o114_4 P) (.node (o178_5 P) .nil .nil) (.node (o242_5 P) .nil .nil)))) (.node (o26_4 P) (.node (o42_4 P) (.node (o74_4 P) (.node (o138_4 P) .nil .nil) (.node (o202_5 P) .nil .nil)) (.node (o106_4 P) (.node (o170_5 P) .nil .nil) (.node (o234_5 P) .nil .nil))) (.node (o58_4 P) (.node (o90_4 P) (.node (o154_5 P) .nil .nil) (.node (o218_5 P) .nil .nil)) (.node (o122_4 P) (.node (o186_5 P) .nil .nil) .nil)))) (.node (o14_B P) (.node (o22_4 P) (.node (o38_4 P) (.node (o70_4 P) (.node (o134_4 P) .nil .nil) (.node (o198_5 P) .nil .nil)) (.node (o102_4 P) (.node (o166_5 P) .nil .nil) (.node (o230_5 P) .nil .nil))) (.node (o54_4 P) (.node (o86_4 P) (.node (o150_5 P) .nil .nil) (.node (o214_5 P) .nil .nil)) (.node (o118_4 P) (.node (o182_5 P) .nil .nil) (.node (o246_5 P) .nil .nil)))) (.node (o30_4 P) (.node (o46_4 P) (.node (o78_4 P) (.node (o142_4 P) .nil .nil) (.node (o206_5 P) .nil .nil)) (.node (o110_4 P) (.node (o174_5 P) .nil .nil) (.node (o238_5 P) .nil .nil))) (.node (o62_4 P) (.node (o94_4 P) (.node (o158_5 P) .nil .nil) (.node (o222_5 P) .nil .nil)) (.node (o126_4 P) (.node (o190_5 P) .nil .nil) .nil)))))))
noncomputable def S5 (w:World) (os:OsState) : SharedT := ⟨T5 w.params,247,{},#[],{},583,os⟩
noncomputable def o247_6h (P:Params) : Obj := fO "range" [.int 0 584,.int 256 583,.int 1 585]
noncomputable def o248_6h (P:Params) : Obj := fO "range_iterator" [.int 0 0,.int 256 0,.int 1 0]
noncomputable def o249_6h (P:Params) : Obj := ⟨.type "list",none,.seq #[] 0,#[]⟩
noncomputable def o250_6h (P:Params) : Obj := ⟨.type "dict",none,.dict #[] 0,#[]⟩
noncomputable def T6h (P:Params) : BT := ups (T5 P) [(247,o247_6h P),(248,o248_6h P),(249,o249_6h P),(250,o250_6h P)]
noncomputable def S6h (w:World) (os:OsState) : SharedT := ⟨T6h w.params,251,{},#[],{},586,os⟩
noncomputable def o248_6e (P:Params) : Obj := fO "range_iterator" [.int 256 0,.int 0 0,.int 1 0]
noncomputable def o249_6e (P:Params) : Obj := ⟨.type "list",none,.seq (qs []).toArray 256,#[]⟩
noncomputable def o250_6e (P:Params) : Obj := ⟨.type "dict",none,.dict #[en P "c" 587 (.int 255 1606)] 1,#[]⟩
noncomputable def o251_6e (P:Params) : Obj := tU [] 0
noncomputable def o252_6e (P:Params) : Obj := fO "StopIteration" [.ref 251,.none,.none,.none,.bool false,.none]
noncomputable def T6e (P:Params) : BT := ups (T6h P) [(248,o248_6e P),(249,o249_6e P),(250,o250_6e P),(251,o251_6e P),(252,o252_6e P)]
noncomputable def S6e (w:World) (os:OsState) : SharedT := ⟨T6e w.params,253,{},#[],{},1610,os⟩
noncomputable def o3_6 (P:Params) : Obj := ⟨.type "dict",none,.dict #[en P "__name__" 165 (zV "cpy313.difflib" 194),en P "__doc__" 166 .none,en P "__package__" 167 .none,en P "__loader__" 168 (.builtin "__main__.__loader__#opaque"),en P "__spec__" 169 .none,en P "__annotations__" 170 (.ref 6),en P "__builtins__" 171 (.ref 4),en P "__file__" 173 (zV "/claim/cut.py" 172),en P "__cached__" 174 .none,en P "_wall" 193 (.ref 21),en P "_tuplegetter" 252 (.ref 60),en P "Match" 380 (.ref 135),en P "_calculate_ratio" 388 (.ref 145),en P "SequenceMatcher" 582 (.ref 242),en P "_QUOPRI_MAP" 1610 (.ref 249)] 15,#[]⟩
noncomputable def o247_6 (P:Params) : Obj := fO "range" [.int 0 584,.int 256 583,.int 1 585]
noncomputable def o248_6 (P:Params) : Obj := fO "range_iterator" [.int 256 0,.int 0 0,.int 1 0]
noncomputable def o249_6 (P:Params) : Obj := ⟨.type "list",none,.seq (qs []).toArray 256,#[]⟩
noncomputable def o250_6 (P:Params) : Obj := ⟨.type "dict",none,.dict #[] 2,#[]⟩
noncomputable def o252_6 (P:Params) : Obj := fO "StopIteration" [.ref 251,.none,.none,.none,.bool false,.none]
noncomputable def T6 (P:Params) : BT := ups (T6e P) [(3,o3_6 P),(247,o247_6 P),(248,o248_6 P),(249,o249_6 P),(250,o250_6 P),(252,o252_6 P)]
noncomputable def S6 (w:World) (os:OsState) : SharedT := ⟨T6 w.params,253,{},#[],{},1611,os⟩
noncomputable def o3_13 (P:Params) : Obj := ⟨.type "dict",none,.dict #[en P "__name__" 165 (zV "cpy313.email.quoprimime" 1621),en P "__doc__" 166 .none,en P "__package__" 167 .none,en P "__loader__" 168 (.builtin "__main__.__loader__#opaque"),en P "__spec__" 169 .none,en P "__annotations__" 170 (.ref 6),en P "__builtins__" 171 (.ref 4),en P "__file__" 173 (zV "/claim/cut.py" 172),en P "__cached__" 174 .none,en P "_wall" 193 (.ref 21),en P "_tuplegetter" 252 (.ref 60),en P "Match" 380 (.ref 135),en P "_calculate_ratio" 388 (.ref 145),en P "SequenceMatcher" 582 (.ref 242),en P "_QUOPRI_MAP" 1610 (.ref 249),en P "_QUOPRI_HEADER_MAP" 1611 (.ref 254),en P "_QUOPRI_BODY_MAP" 1612 (.ref 256),en P "ascii_lowercase" 1614 (zV "abcdefghijklmnopqrstuvwxyz" 1613),en P "ascii_uppercase" 1616 (zV "ABCDEFGHIJKLMNOPQRSTUVWXYZ" 1615),en P "ascii_letters" 1618 (zV "abcdefghijklmnopqrstuvwxyzABCDEFGHIJKLMNOPQRSTUVWXYZ" 1617),en P "digits" 1620 (zV "0123456789" 1619)] 21,#[]⟩
noncomputable def o253_13 (P:Params) : Obj := fO "slice" [.none,.none,.none]
noncomputable def o254_13 (P:Params) : Obj := ⟨.type "list",none,.seq (qs []).toArray 0,#[]⟩
noncomputable def o255_13 (P:Params) : Obj := fO "slice" [.none,.none,.none]
noncomputable def o256_13 (P:Params) : Obj := ⟨.type "list",none,.seq (qs []).toArray 0,#[]⟩
noncomputable def T13 (P:Params) : BT := ups (T6 P) [(3,o3_13 P),(253,o253_13 P),(254,o254_13 P),(255,o255_13 P),(256,o256_13 P)]
noncomputable def S13 (w:World) (os:OsState) : SharedT := ⟨T13 w.params,257,{},#[],{},1623,os⟩
noncomputable def o257_14h (P:Params) : Obj := fO "bytes_iterator" [.bytes #[45,33,42,43,47,97,98,99,100,101,102,103,104,105,106,107,108,109,110,111,112,113,114,115,116,117,118,119,120,121,122,65,66,67,68,69,70,71,72,73,74,75,76,77,78,79,80,81,82,83,84,85,86,87,88,89,90,48,49,50,51,52,53,54,55,56,57] 1629,.int 0 0]
noncomputable def T14h (P:Params) : BT := ups (T13 P) [(257,o257_14h P)]
noncomputable def S14h (w:World) (os:OsState) : SharedT := ⟨T14h w.params,258,{},#[],{},1630,os⟩
noncomputable def o3_14e (P:Params) : Obj := ⟨.type "dict",none,.dict #[en P "__name__" 165 (zV "cpy313.email.quoprimime" 1621),en P "__doc__" 166 .none,en P "__package__" 167 .none,en P "__loader__" 168 (.builtin "__main__.__loader__#opaque"),en P "__spec__" 169 .none,en P "__annotations__" 170 (.ref 6),en P "__builtins__" 171 (.ref 4),en P "__file__" 173 (zV "/claim/cut.py" 172),en P "__cached__" 174 .none,en P "_wall" 193 (.ref 21),en P "_tuplegetter" 252 (.ref 60),en P "Match" 380 (.ref 135),en P "_calculate_ratio" 388 (.ref 145),en P "SequenceMatcher" 582 (.ref 242),en P "_QUOPRI_MAP" 1610 (.ref 249),en P "_QUOPRI_HEADER_MAP" 1611 (.ref 254),en P "_QUOPRI_BODY_MAP" 1612 (.ref 256),en P "ascii_lowercase" 1614 (zV "abcdefghijklmnopqrstuvwxyz" 1613),en P "ascii_uppercase" 1616 (zV "ABCDEFGHIJKLMNOPQRSTUVWXYZ" 1615),en P "ascii_letters" 1618 (zV "abcdefghijklmnopqrstuvwxyzABCDEFGHIJKLMNOPQRSTUVWXYZ" 1617),en P "digits" 1620 (zV "0123456789" 1619),en P "c" 1631 (.int 57 1828)] 22,#[]⟩
noncomputable def lo254_14e : List Value := qs [(33,"!",1635),(42,"*",1638),(43,"+",1641),(45,"-",1632),(47,"/",1644),(48,"0",1803),(49,"1",1806),(50,"2",1809),(51,"3",1812),(52,"4",1815),(53,"5",1818),(54,"6",1821),(55,"7",1824),(56,"8",1827),(57,"9",1830),(65,"A",1725),(66,"B",1728),(67,"C",1731),(68,"D",1734),(69,"E",1737),(70,"F",1740),(71,"G",1743),(72,"H",1746),(73,"I",1749),(74,"J",1752),(75,"K",1755),(76,"L",1758),(77,"M",1761),(78,"N",1764),(79,"O",1767),(80,"P",1770),(81,"Q",1773),(82,"R",1776),(83,"S",1779),(84,"T",1782),(85,"U",1785),(86,"V",1788),(87,"W",1791),(88,"X",1794),(89,"Y",1797),(90,"Z",1800),(97,"a",1647),(98,"b",1650),(99,"c",1653),(100,"d",1656),(101,"e",1659),(102,"f",1662),(103,"g",1665),(104,"h",1668),(105,"i",1671),(106,"j",1674),(107,"k",1677),(108,"l",1680),(109,"m",1683),(110,"n",1686),(111,"o",1689),(112,"p",1692),(113,"q",1695),(114,"r",1698),(115,"s",1701),(116,"t",1704),(117,"u",1707),(118,"v",1710),(119,"w",1713),(120,"x",1716),(121,"y",1719),(122,"z",1722)]
noncomputable def o254_14e (P:Params) : Obj := ⟨.type "list",none,.seq lo254_14e.toArray 0,#[]⟩
noncomputable def o257_14e (P:Params) : Obj := fO "bytes_iterator" [.none,.int 67 0]
noncomputable def o258_14e (P:Params) : Obj := tU [] 0
noncomputable def o259_14e (P:Params) : Obj := fO "StopIteration" [.ref 258,.none,.none,.none,.bool false,.none]
noncomputable def T14e (P:Params) : BT := ups (T14h P) [(3,o3_14e P),(254,o254_14e P),(257,o257_14e P),(258,o258_14e P),(259,o259_14e P)]
noncomputable def o3_14 (P:Params) : Obj := ⟨.type "dict",none,.dict #[en P "__name__" 165 (zV "cpy313.email.quoprimime" 1621),en P "__doc__" 166 .none,en P "__package__" 167 .none,en P "__loader__" 168 (.builtin "__main__.__loader__#opaque"),en P "__spec__" 169 .none,en P "__annotations__" 170 (.ref 6),en P "__builtins__" 171 (.ref 4),en P "__file__" 173 (zV "/claim/cut.py" 172),en P "__cached__" 174 .none,en P "_wall" 193 (.ref 21),en P "_tuplegetter" 252 (.ref 60),en P "Match" 380 (.ref 135),en P "_calculate_ratio" 388 (.ref 145),en P "SequenceMatcher" 582 (.ref 242),en P "_QUOPRI_MAP" 1610 (.ref 249),en P "_QUOPRI_HEADER_MAP" 1611 (.ref 254),en P "_QUOPRI_BODY_MAP" 1612 (.ref 256),en P "ascii_lowercase" 1614 (zV "abcdefghijklmnopqrstuvwxyz" 1613),en P "ascii_uppercase" 1616 (zV "ABCDEFGHIJKLMNOPQRSTUVWXYZ" 1615),en P "ascii_letters" 1618 (zV "abcdefghijklmnopqrstuvwxyzABCDEFGHIJKLMNOPQRSTUVWXYZ" 1617),en P "digits" 1620 (zV "0123456789" 1619),en P "c" 1631 (.int 57 1828)] 22,#[]⟩
noncomputable def o254_14 (P:Params) : Obj := ⟨.type "list",none,.seq lo254_14e.toArray 0,#[]⟩
noncomputable def o257_14 (P:Params) : Obj := fO "bytes_iterator" [.none,.int 67 0]
noncomputable def o259_14 (P:Params) : Obj := fO "StopIteration" [.ref 258,.none,.none,.none,.bool false,.none]
noncomputable def T14 (P:Params) : BT := ups (T14e P) [(3,o3_14 P),(254,o254_14 P),(257,o257_14 P),(259,o259_14 P)]
noncomputable def S14 (w:World) (os:OsState) : SharedT := ⟨T14 w.params,260,{},#[],{},1831,os⟩
noncomputable def lo254_15 : List Value := qs [(32,"_",1831),(33,"!",1635),(42,"*",1638),(43,"+",1641),(45,"-",1632),(47,"/",1644),(48,"0",1803),(49,"1",1806),(50,"2",1809),(51,"3",1812),(52,"4",1815),(53,"5",1818),(54,"6",1821),(55,"7",1824),(56,"8",1827),(57,"9",1830),(65,"A",1725),(66,"B",1728),(67,"C",1731),(68,"D",1734),(69,"E",1737),(70,"F",1740),(71,"G",1743),(72,"H",1746),(73,"I",1749),(74,"J",1752),(75,"K",1755),(76,"L",1758),(77,"M",1761),(78,"N",1764),(79,"O",1767),(80,"P",1770),(81,"Q",1773),(82,"R",1776),(83,"S",1779),(84,"T",1782),(85,"U",1785),(86,"V",1788),(87,"W",1791),(88,"X",1794),(89,"Y",1797),(90,"Z",1800),(97,"a",1647),(98,"b",1650),(99,"c",1653),(100,"d",1656),(101,"e",1659),(102,"f",1662),(103,"g",1665),(104,"h",1668),(105,"i",1671),(106,"j",1674),(107,"k",1677),(108,"l",1680),(109,"m",1683),(110,"n",1686),(111,"o",1689),(112,"p",1692),(113,"q",1695),(114,"r",1698),(115,"s",1701),(116,"t",1704),(117,"u",1707),(118,"v",1710),(119,"w",1713),(120,"x",1716),(121,"y",1719),(122,"z",1722)]
noncomputable def o254_15 (P:Params) : Obj := ⟨.type "list",none,.seq lo254_15.toArray 0,#[]⟩
noncomputable def T15 (P:Params) : BT := ups (T14 P) [(254,o254_15 P)]
noncomputable def S15 (w:World) (os:OsState) : SharedT := ⟨T15 w.params,260,{},#[],{},1834,os⟩
noncomputable def o260_16h (P:Params) : Obj := fO "bytes_iterator" [.bytes #[32,33,34,35,36,37,38,39,40,41,42,43,44,45,46,47,48,49,50,51,52,53,54,55,56,57,58,59,60,62,63,64,65,66,67,68,69,70,71,72,73,74,75,76,77,78,79,80,81,82,83,84,85,86,87,88,89,90,91,92,93,94,95,96,97,98,99,100,101,102,103,104,105,106,107,108,109,110,111,112,113,114,115,116,117,118,119,120,121,122,123,124,125,126,9] 1834,.int 0 0]
noncomputable def T16h (P:Params) : BT := ups (T15 P) [(260,o260_16h P)]
noncomputable def S16h (w:World) (os:OsState) : SharedT := ⟨T16h w.params,261,{},#[],{},1835,os⟩
noncomputable def o3_16e (P:Params) : Obj := ⟨.type "dict",none,.dict #[en P "__name__" 165 (zV "cpy313.email.quoprimime" 1621),en P "__doc__" 166 .none,en P "__package__" 167 .none,en P "__loader__" 168 (.builtin "__main__.__loader__#opaque"),en P "__spec__" 169 .none,en P "__annotations__" 170 (.ref 6),en P "__builtins__" 171 (.ref 4),en P "__file__" 173 (zV "/claim/cut.py" 172),en P "__cached__" 174 .none,en P "_wall" 193 (.ref 21),en P "_tuplegetter" 252 (.ref 60),en P "Match" 380 (.ref 135),en P "_calculate_ratio" 388 (.ref 145),en P "SequenceMatcher" 582 (.ref 242),en P "_QUOPRI_MAP" 1610 (.ref 249),en P "_QUOPRI_HEADER_MAP" 1611 (.ref 254),en P "_QUOPRI_BODY_MAP" 1612 (.ref 256),en P "ascii_lowercase" 1614 (zV "abcdefghijklmnopqrstuvwxyz" 1613),en P "ascii_uppercase" 1616 (zV "ABCDEFGHIJKLMNOPQRSTUVWXYZ" 1615),en P "ascii_letters" 1618 (zV "abcdefghijklmnopqrstuvwxyzABCDEFGHIJKLMNOPQRSTUVWXYZ" 1617),en P "digits" 1620 (zV "0123456789" 1619),en P "c" 1631 (.int 9 2117)] 22,#[]⟩
noncomputable def lo256_16e : List Value := qs [(9,"\t",2119),(32," ",1837),(33,"!",1840),(34,"\"",1843),(35,"#",1846),(36,"$",1849),(37,"%",1852),(38,"&",1855),(39,"'",1858),(40,"(",1861),(41,")",1864),(42,"*",1867),(43,"+",1870),(44,",",1873),(45,"-",1876),(46,".",1879),(47,"/",1882),(48,"0",1885),(49,"1",1888),(50,"2",1891),(51,"3",1894),(52,"4",1897),(53,"5",1900),(54,"6",1903),(55,"7",1906),(56,"8",1909),(57,"9",1912),(58,":",1915),(59,";",1918),(60,"<",1921),(62,">",1924),(63,"?",1927),(64,"@",1930),(65,"A",1933),(66,"B",1936),(67,"C",1939),(68,"D",1942),(69,"E",1945),(70,"F",1948),(71,"G",1951),(72,"H",1954),(73,"I",1957),(74,"J",1960),(75,"K",1963),(76,"L",1966),(77,"M",1969),(78,"N",1972),(79,"O",1975),(80,"P",1978),(81,"Q",1981),(82,"R",1984),(83,"S",1987),(84,"T",1990),(85,"U",1993),(86,"V",1996),(87,"W",1999),(88,"X",2002),(89,"Y",2005),(90,"Z",2008),(91,"[",2011),(92,"\\",2014),(93,"]",2017),(94,"^",2020),(95,"_",2023),(96,"`",2026),(97,"a",2029),(98,"b",2032),(99,"c",2035),(100,"d",2038),(101,"e",2041),(102,"f",2044),(103,"g",2047),(104,"h",2050),(105,"i",2053),(106,"j",2056),(107,"k",2059),(108,"l",2062),(109,"m",2065),(110,"n",2068),(111,"o",2071),(112,"p",2074),(113,"q",2077),(114,"r",2080),(115,"s",2083),(116,"t",2086),(117,"u",2089),(118,"v",2092),(119,"w",2095),(120,"x",2098),(121,"y",2101),(122,"z",2104),(123,"{",2107),(124,"|",2110),(125,"}",2113),(126,"~",2116)]
noncomputable def o256_16e (P:Params) : Obj := ⟨.type "list",none,.seq lo256_16e.toArray 0,#[]⟩
noncomputable def o260_16e (P:Params) : Obj := fO "bytes_iterator" [.none,.int 95 0]
noncomputable def o261_16e (P:Params) : Obj := tU [] 0
noncomputable def o262_16e (P:Params) : Obj := fO "StopIteration" [.ref 261,.none,.none,.none,.bool false,.none]
noncomputable def T16e (P:Params) : BT := ups (T16h P) [(3,o3_16e P),(256,o256_16e P),(260,o260_16e P),(261,o261_16e P),(262,o262_16e P)]
noncomputable def o3_16 (P:Params) : Obj := ⟨.type "dict",none,.dict #[en P "__name__" 165 (zV "cpy313.email.quoprimime" 1621),en P "__doc__" 166 .none,en P "__package__" 167 .none,en P "__loader__" 168 (.builtin "__main__.__loader__#opaque"),en P "__spec__" 169 .none,en P "__annotations__" 170 (.ref 6),en P "__builtins__" 171 (.ref 4),en P "__file__" 173 (zV "/claim/cut.py" 172),en P "__cached__" 174 .none,en P "_wall" 193 (.ref 21),en P "_tuplegetter" 252 (.ref 60),en P "Match" 380 (.ref 135),en P "_calculate_ratio" 388 (.ref 145),en P "SequenceMatcher" 582 (.ref 242),en P "_QUOPRI_MAP" 1610 (.ref 249),en P "_QUOPRI_HEADER_MAP" 1611 (.ref 254),en P "_QUOPRI_BODY_MAP" 1612 (.ref 256),en P "ascii_lowercase" 1614 (zV "abcdefghijklmnopqrstuvwxyz" 1613),en P "ascii_uppercase" 1616 (zV "ABCDEFGHIJKLMNOPQRSTUVWXYZ" 1615),en P "ascii_letters" 1618 (zV "abcdefghijklmnopqrstuvwxyzABCDEFGHIJKLMNOPQRSTUVWXYZ" 1617),en P "digits" 1620 (zV "0123456789" 1619),en P "c" 1631 (.int 9 2117)] 22,#[]⟩
noncomputable def o256_16 (P:Params) : Obj := ⟨.type "list",none,.seq lo256_16e.toArray 0,#[]⟩
noncomputable def o260_16 (P:Params) : Obj := fO "bytes_iterator" [.none,.int 95 0]
noncomputable def o262_16 (P:Params) : Obj := fO "StopIteration" [.ref 261,.none,.none,.none,.bool false,.none]
noncomputable def T16 (P:Params) : BT := ups (T16e P) [(3,o3_16 P),(256,o256_16 P),(260,o260_16 P),(262,o262_16 P)]
noncomputable def S16 (w:World) (os:OsState) : SharedT := ⟨T16 w.params,263,{},#[],{},2120,os⟩
noncomputable def o3_32 (P:Params) : Obj := ⟨.type "dict",none,.dict #[en P "__name__" 165 (zV "law_pd0125_01" 2147),en P "__doc__" 166 .none,en P "__package__" 167 .none,en P "__loader__" 168 (.builtin "__main__.__loader__#opaque"),en P "__spec__" 169 .none,en P "__annotations__" 170 (.ref 6),en P "__builtins__" 171 (.ref 4),en P "__file__" 173 (zV "/claim/cut.py" 172),en P "__cached__" 174 .none,en P "_wall" 193 (.ref 21),en P "_tuplegetter" 252 (.ref 60),en P "Match" 380 (.ref 135),en P "_calculate_ratio" 388 (.ref 145),en P "SequenceMatcher" 582 (.ref 242),en P "_QUOPRI_MAP" 1610 (.ref 249),en P "_QUOPRI_HEADER_MAP" 1611 (.ref 254),en P "_QUOPRI_BODY_MAP" 1612 (.ref 256),en P "ascii_lowercase" 1614 (zV "abcdefghijklmnopqrstuvwxyz" 1613),en P "ascii_uppercase" 1616 (zV "ABCDEFGHIJKLMNOPQRSTUVWXYZ" 1615),en P "ascii_letters" 1618 (zV "abcdefghijklmnopqrstuvwxyzABCDEFGHIJKLMNOPQRSTUVWXYZ" 1617),en P "digits" 1620 (zV "0123456789" 1619),en P "header_check" 2127 (.ref 269),en P "header_encode" 2138 (.ref 277),en P "_QUOPRI_BODY_ENCODE_MAP" 2139 (.ref 279),en P "_law_octet" 2155 (.ref 289),en P "_law_rows" 2166 (.ref 296),en P "_law_kept" 2174 (.ref 303),en P "_law_written" 2184 (.ref 310),en P "_law_beside" 2190 (.ref 315),en P "_law_block" 2196 (.ref 320),en P "_law_pairs" 2202 (.ref 325),en P "_law_told" 2217 (.ref 332),en P "_law_edited" 2234 (.ref 339),en P "law" 2240 (.ref 344)] 36,#[]⟩
noncomputable def o12_32 (P:Params) : Obj := nO (.fields #[.int 1 0,.int 0 0,.ref 20,.int 5 0,.int 0 0,.ref 27,.int 23 0,.int 0 0,.ref 71,.int 66 0,.int 0 0,.ref 144,.int 70 0,.int 0 0,.ref 151,.int 475 0,.int 0 0,.ref 268,.int 478 0,.int 0 0,.ref 276,.int 498 0,.int 0 0,.ref 288,.int 500 0,.int 0 0,.ref 295,.int 511 0,.int 0 0,.ref 302,.int 514 0,.int 0 0,.ref 309,.int 525 0,.int 0 0,.ref 314,.int 527 0,.int 0 0,.ref 319,.int 541 0,.int 0 0,.ref 324,.int 551 0,.int 0 0,.ref 331,.int 563 0,.int 0 0,.ref 338,.int 570 0,.int 0 0,.ref 343])
noncomputable def o263_32 (P:Params) : Obj := tU [] 0
noncomputable def o264_32 (P:Params) : Obj := nO (.fields #[])
noncomputable def o265_32 (P:Params) : Obj := tU [zV "octet" 2123] 0
noncomputable def o266_32 (P:Params) : Obj := tU [] 0
noncomputable def o267_32 (P:Params) : Obj := nO (fnD (yS "header_check") (yS "header_check") (cell 17) 0 .none .none .none .none none .none .none 0)
noncomputable def o268_32 (P:Params) : Obj := fO "code" [zV "header_check" 2120,zV "header_check" 2121,zV "/claim/cut.py" 2122,.int 475 0,.int 1 0,.int 0 0,.int 0 0,.int 3 0,.ref 263,.bool true,.int 181 0,.ref 264,.none,.ref 265,.ref 266,.ref 267,.int 2124 0,.int 475 0,zV "/claim/cut.py" 2125]
noncomputable def o269_32 (P:Params) : Obj := ⟨.type "function",none,fnD (yS "header_check") (yS "header_check") (cell 17) 3 .none .none (.str (dOf (cell 17)) 2126) (zV "cpy313.email.quoprimime" 1621) none (.ref 268) .none 0,#[]⟩
noncomputable def o270_32 (P:Params) : Obj := tU [zV "iso-8859-1" 2128] 0
noncomputable def o271_32 (P:Params) : Obj := tU [] 0
noncomputable def o272_32 (P:Params) : Obj := nO (.fields #[])
noncomputable def o273_32 (P:Params) : Obj := tU [zV "header_bytes" 2132,zV "charset" 2133,zV "encoded" 2134] 0
noncomputable def o274_32 (P:Params) : Obj := tU [] 0
noncomputable def o275_32 (P:Params) : Obj := nO (fnD (yS "header_encode") (yS "header_encode") (cell 18) 0 .none .none .none .none none .none .none 0)
noncomputable def o276_32 (P:Params) : Obj := fO "code" [zV "header_encode" 2129,zV "header_encode" 2130,zV "/claim/cut.py" 2131,.int 478 0,.int 2 0,.int 0 0,.int 0 0,.int 3 0,.ref 271,.bool true,.int 181 0,.ref 272,.none,.ref 273,.ref 274,.ref 275,.int 2135 0,.int 478 0,zV "/claim/cut.py" 2136]
noncomputable def o277_32 (P:Params) : Obj := ⟨.type "function",none,fnD (yS "header_encode") (yS "header_encode") (cell 18) 3 (.ref 270) .none (.str (dOf (cell 18)) 2137) (zV "cpy313.email.quoprimime" 1621) none (.ref 276) .none 0,#[]⟩
noncomputable def o278_32 (P:Params) : Obj := fO "slice" [.none,.none,.none]
noncomputable def lo279_32 : List Value := qs [(9,"\t",2119),(10,"\n",2146),(13,"\x0d",2143),(32," ",1837),(33,"!",1840),(34,"\"",1843),(35,"#",1846),(36,"$",1849),(37,"%",1852),(38,"&",1855),(39,"'",1858),(40,"(",1861),(41,")",1864),(42,"*",1867),(43,"+",1870),(44,",",1873),(45,"-",1876),(46,".",1879),(47,"/",1882),(48,"0",1885),(49,"1",1888),(50,"2",1891),(51,"3",1894),(52,"4",1897),(53,"5",1900),(54,"6",1903),(55,"7",1906),(56,"8",1909),(57,"9",1912),(58,":",1915),(59,";",1918),(60,"<",1921),(62,">",1924),(63,"?",1927),(64,"@",1930),(65,"A",1933),(66,"B",1936),(67,"C",1939),(68,"D",1942),(69,"E",1945),(70,"F",1948),(71,"G",1951),(72,"H",1954),(73,"I",1957),(74,"J",1960),(75,"K",1963),(76,"L",1966),(77,"M",1969),(78,"N",1972),(79,"O",1975),(80,"P",1978),(81,"Q",1981),(82,"R",1984),(83,"S",1987),(84,"T",1990),(85,"U",1993),(86,"V",1996),(87,"W",1999),(88,"X",2002),(89,"Y",2005),(90,"Z",2008),(91,"[",2011),(92,"\\",2014),(93,"]",2017),(94,"^",2020),(95,"_",2023),(96,"`",2026),(97,"a",2029),(98,"b",2032),(99,"c",2035),(100,"d",2038),(101,"e",2041),(102,"f",2044),(103,"g",2047),(104,"h",2050),(105,"i",2053),(106,"j",2056),(107,"k",2059),(108,"l",2062),(109,"m",2065),(110,"n",2068),(111,"o",2071),(112,"p",2074),(113,"q",2077),(114,"r",2080),(115,"s",2083),(116,"t",2086),(117,"u",2089),(118,"v",2092),(119,"w",2095),(120,"x",2098),(121,"y",2101),(122,"z",2104),(123,"{",2107),(124,"|",2110),(125,"}",2113),(126,"~",2116)]
noncomputable def o279_32 (P:Params) : Obj := ⟨.type "list",none,.seq lo279_32.toArray 0,#[]⟩
noncomputable def o280_32 (P:Params) : Obj := fO "bytes_iterator" [.none,.int 2 0]
noncomputable def o281_32 (P:Params) : Obj := tU [] 0
noncomputable def o282_32 (P:Params) : Obj := fO "StopIteration" [.ref 281,.none,.none,.none,.bool false,.none]
noncomputable def o283_32 (P:Params) : Obj := tU [] 0
noncomputable def o284_32 (P:Params) : Obj := nO (.fields #[])
noncomputable def o285_32 (P:Params) : Obj := tU [zV "q" 2152] 0
noncomputable def o286_32 (P:Params) : Obj := tU [] 0
noncomputable def o287_32 (P:Params) : Obj := nO (fnD (yS "_law_octet") (yS "_law_octet") (cell 23) 0 .none .none .none .none none .none .none 0)
noncomputable def o288_32 (P:Params) : Obj := fO "code" [zV "_law_octet" 2149,zV "_law_octet" 2150,zV "/claim/cut.py" 2151,.int 498 0,.int 1 0,.int 0 0,.int 0 0,.int 3 0,.ref 283,.bool true,.int 181 0,.ref 284,.none,.ref 285,.ref 286,.ref 287,.int 2153 0,.int 498 0,zV "/claim/cut.py" 2154]
noncomputable def o289_32 (P:Params) : Obj := ⟨.type "function",none,fnD (yS "_law_octet") (yS "_law_octet") (cell 23) 3 .none .none .none (zV "law_pd0125_01" 2147) none (.ref 288) .none 0,#[]⟩
noncomputable def o290_32 (P:Params) : Obj := tU [] 0
noncomputable def o291_32 (P:Params) : Obj := nO (.fields #[])
noncomputable def o292_32 (P:Params) : Obj := tU [zV "numbers" 2159,zV "many" 2160,zV "left" 2161,zV "right" 2162,zV "n" 2163] 0
noncomputable def o293_32 (P:Params) : Obj := tU [] 0
noncomputable def o294_32 (P:Params) : Obj := nO (fnD (yS "_law_rows") (yS "_law_rows") (cell 24) 0 .none .none .none .none none .none .none 0)
noncomputable def o295_32 (P:Params) : Obj := fO "code" [zV "_law_rows" 2156,zV "_law_rows" 2157,zV "/claim/cut.py" 2158,.int 500 0,.int 1 0,.int 0 0,.int 0 0,.int 3 0,.ref 290,.bool true,.int 181 0,.ref 291,.none,.ref 292,.ref 293,.ref 294,.int 2164 0,.int 500 0,zV "/claim/cut.py" 2165]
noncomputable def o296_32 (P:Params) : Obj := ⟨.type "function",none,fnD (yS "_law_rows") (yS "_law_rows") (cell 24) 3 .none .none .none (zV "law_pd0125_01" 2147) none (.ref 295) .none 0,#[]⟩
noncomputable def o297_32 (P:Params) : Obj := tU [] 0
noncomputable def o298_32 (P:Params) : Obj := nO (.fields #[])
noncomputable def o299_32 (P:Params) : Obj := tU [zV "octet" 2170,zV "sign" 2171] 0
noncomputable def o300_32 (P:Params) : Obj := tU [] 0
noncomputable def o301_32 (P:Params) : Obj := nO (fnD (yS "_law_kept") (yS "_law_kept") (cell 25) 0 .none .none .none .none none .none .none 0)
noncomputable def o302_32 (P:Params) : Obj := fO "code" [zV "_law_kept" 2167,zV "_law_kept" 2168,zV "/claim/cut.py" 2169,.int 511 0,.int 1 0,.int 0 0,.int 0 0,.int 3 0,.ref 297,.bool true,.int 181 0,.ref 298,.none,.ref 299,.ref 300,.ref 301,.int 2172 0,.int 511 0,zV "/claim/cut.py" 2173]
noncomputable def o303_32 (P:Params) : Obj := ⟨.type "function",none,fnD (yS "_law_kept") (yS "_law_kept") (cell 25) 3 .none .none .none (zV "law_pd0125_01" 2147) none (.ref 302) .none 0,#[]⟩
noncomputable def o304_32 (P:Params) : Obj := tU [] 0
noncomputable def o305_32 (P:Params) : Obj := nO (.fields #[])
noncomputable def o306_32 (P:Params) : Obj := tU [zV "row" 2178,zV "figures" 2179,zV "signs" 2180,zV "octet" 2181] 0
noncomputable def o307_32 (P:Params) : Obj := tU [] 0
noncomputable def o308_32 (P:Params) : Obj := nO (fnD (yS "_law_written") (yS "_law_written") (cell 26) 0 .none .none .none .none none .none .none 0)
noncomputable def o309_32 (P:Params) : Obj := fO "code" [zV "_law_written" 2175,zV "_law_written" 2176,zV "/claim/cut.py" 2177,.int 514 0,.int 1 0,.int 0 0,.int 0 0,.int 3 0,.ref 304,.bool true,.int 181 0,.ref 305,.none,.ref 306,.ref 307,.ref 308,.int 2182 0,.int 514 0,zV "/claim/cut.py" 2183]
noncomputable def o310_32 (P:Params) : Obj := ⟨.type "function",none,fnD (yS "_law_written") (yS "_law_written") (cell 26) 3 .none .none .none (zV "law_pd0125_01" 2147) none (.ref 309) .none 0,#[]⟩
noncomputable def o311_32 (P:Params) : Obj := tU [] 0
noncomputable def o312_32 (P:Params) : Obj := nO (.fields #[])
noncomputable def o313_32 (P:Params) : Obj := nO (fnD (yS "_law_beside") (yS "_law_beside") (cell 27) 0 .none .none .none .none none .none .none 0)
noncomputable def o314_32 (P:Params) : Obj := fO "code" [zV "_law_beside" 2185,zV "_law_beside" 2186,zV "/claim/cut.py" 2187,.int 525 0,.int 3 0,.int 0 0,.int 0 0,.int 3 0,.ref 311,.bool true,.int 181 0,.ref 312,.none,.none,.none,.ref 313,.int 2188 0,.int 525 0,zV "/claim/cut.py" 2189]
noncomputable def o315_32 (P:Params) : Obj := ⟨.type "function",none,fnD (yS "_law_beside") (yS "_law_beside") (cell 27) 3 .none .none .none (zV "law_pd0125_01" 2147) none (.ref 314) .none 0,#[]⟩
noncomputable def o316_32 (P:Params) : Obj := tU [] 0
noncomputable def o317_32 (P:Params) : Obj := nO (.fields #[])
noncomputable def o318_32 (P:Params) : Obj := nO (fnD (yS "_law_block") (yS "_law_block") (cell 28) 0 .none .none .none .none none .none .none 0)
noncomputable def o319_32 (P:Params) : Obj := fO "code" [zV "_law_block" 2191,zV "_law_block" 2192,zV "/claim/cut.py" 2193,.int 527 0,.int 4 0,.int 0 0,.int 0 0,.int 3 0,.ref 316,.bool true,.int 181 0,.ref 317,.none,.none,.none,.ref 318,.int 2194 0,.int 527 0,zV "/claim/cut.py" 2195]
noncomputable def o320_32 (P:Params) : Obj := ⟨.type "function",none,fnD (yS "_law_block") (yS "_law_block") (cell 28) 3 .none .none .none (zV "law_pd0125_01" 2147) none (.ref 319) .none 0,#[]⟩
noncomputable def o321_32 (P:Params) : Obj := tU [] 0
noncomputable def o322_32 (P:Params) : Obj := nO (.fields #[])
noncomputable def o323_32 (P:Params) : Obj := nO (fnD (yS "_law_pairs") (yS "_law_pairs") (cell 29) 0 .none .none .none .none none .none .none 0)
noncomputable def o324_32 (P:Params) : Obj := fO "code" [zV "_law_pairs" 2197,zV "_law_pairs" 2198,zV "/claim/cut.py" 2199,.int 541 0,.int 4 0,.int 0 0,.int 0 0,.int 3 0,.ref 321,.bool true,.int 181 0,.ref 322,.none,.none,.none,.ref 323,.int 2200 0,.int 541 0,zV "/claim/cut.py" 2201]
noncomputable def o325_32 (P:Params) : Obj := ⟨.type "function",none,fnD (yS "_law_pairs") (yS "_law_pairs") (cell 29) 3 .none .none .none (zV "law_pd0125_01" 2147) none (.ref 324) .none 0,#[]⟩
noncomputable def o326_32 (P:Params) : Obj := tU [] 0
noncomputable def o327_32 (P:Params) : Obj := nO (.fields #[])
noncomputable def o328_32 (P:Params) : Obj := tU [zV "pairs" 2206,zV "many" 2207,zV "others" 2208,zV "told" 2209,zV "i" 2210,zV "j" 2211,zV "x" 2212,zV "y" 2213,zV "tag" 2214] 0
noncomputable def o329_32 (P:Params) : Obj := tU [] 0
noncomputable def o330_32 (P:Params) : Obj := nO (fnD (yS "_law_told") (yS "_law_told") (cell 30) 0 .none .none .none .none none .none .none 0)
noncomputable def o331_32 (P:Params) : Obj := fO "code" [zV "_law_told" 2203,zV "_law_told" 2204,zV "/claim/cut.py" 2205,.int 551 0,.int 3 0,.int 0 0,.int 0 0,.int 3 0,.ref 326,.bool true,.int 181 0,.ref 327,.none,.ref 328,.ref 329,.ref 330,.int 2215 0,.int 551 0,zV "/claim/cut.py" 2216]
noncomputable def o332_32 (P:Params) : Obj := ⟨.type "function",none,fnD (yS "_law_told") (yS "_law_told") (cell 30) 3 .none .none .none (zV "law_pd0125_01" 2147) none (.ref 331) .none 0,#[]⟩
noncomputable def o333_32 (P:Params) : Obj := tU [] 0
noncomputable def o334_32 (P:Params) : Obj := nO (.fields #[])
noncomputable def o335_32 (P:Params) : Obj := tU [zV "told" 2221,zV "left" 2222,zV "right" 2223,zV "letter" 2224,zV "tag" 2225,zV "i1" 2226,zV "i2" 2227,zV "j1" 2228,zV "j2" 2229,zV "begin" 2230,zV "end" 2231] 0
noncomputable def o336_32 (P:Params) : Obj := tU [] 0
noncomputable def o337_32 (P:Params) : Obj := nO (fnD (yS "_law_edited") (yS "_law_edited") (cell 31) 0 .none .none .none .none none .none .none 0)
noncomputable def o338_32 (P:Params) : Obj := fO "code" [zV "_law_edited" 2218,zV "_law_edited" 2219,zV "/claim/cut.py" 2220,.int 563 0,.int 3 0,.int 0 0,.int 0 0,.int 3 0,.ref 333,.bool true,.int 181 0,.ref 334,.none,.ref 335,.ref 336,.ref 337,.int 2232 0,.int 563 0,zV "/claim/cut.py" 2233]
noncomputable def o339_32 (P:Params) : Obj := ⟨.type "function",none,fnD (yS "_law_edited") (yS "_law_edited") (cell 31) 3 .none .none .none (zV "law_pd0125_01" 2147) none (.ref 338) .none 0,#[]⟩
noncomputable def o340_32 (P:Params) : Obj := tU [] 0
noncomputable def o341_32 (P:Params) : Obj := nO (.fields #[])
noncomputable def o342_32 (P:Params) : Obj := nO (fnD (yS "law") (yS "law") (cell 32) 0 .none .none .none .none none .none .none 0)
noncomputable def o343_32 (P:Params) : Obj := fO "code" [zV "law" 2235,zV "law" 2236,zV "/claim/cut.py" 2237,.int 570 0,.int 1 0,.int 0 0,.int 0 0,.int 3 0,.ref 340,.bool true,.int 181 0,.ref 341,.none,.none,.none,.ref 342,.int 2238 0,.int 570 0,zV "/claim/cut.py" 2239]
noncomputable def o344_32 (P:Params) : Obj := ⟨.type "function",none,fnD (yS "law") (yS "law") (cell 32) 3 .none .none .none (zV "law_pd0125_01" 2147) none (.ref 343) .none 0,#[]⟩
noncomputable def T32 (P:Params) : BT := ups (T16 P) [(3,o3_32 P),(12,o12_32 P),(263,o263_32 P),(264,o264_32 P),(265,o265_32 P),(266,o266_32 P),(267,o267_32 P),(268,o268_32 P),(269,o269_32 P),(270,o270_32 P),(271,o271_32 P),(272,o272_32 P),(273,o273_32 P),(274,o274_32 P),(275,o275_32 P),(276,o276_32 P),(277,o277_32 P),(278,o278_32 P),(279,o279_32 P),(280,o280_32 P),(281,o281_32 P),(282,o282_32 P),(283,o283_32 P),(284,o284_32 P),(285,o285_32 P),(286,o286_32 P),(287,o287_32 P),(288,o288_32 P),(289,o289_32 P),(290,o290_32 P),(291,o291_32 P),(292,o292_32 P),(293,o293_32 P),(294,o294_32 P),(295,o295_32 P),(296,o296_32 P),(297,o297_32 P),(298,o298_32 P),(299,o299_32 P),(300,o300_32 P),(301,o301_32 P),(302,o302_32 P),(303,o303_32 P),(304,o304_32 P),(305,o305_32 P),(306,o306_32 P),(307,o307_32 P),(308,o308_32 P),(309,o309_32 P),(310,o310_32 P),(311,o311_32 P),(312,o312_32 P),(313,o313_32 P),(314,o314_32 P),(315,o315_32 P),(316,o316_32 P),(317,o317_32 P),(318,o318_32 P),(319,o319_32 P),(320,o320_32 P),(321,o321_32 P),(322,o322_32 P),(323,o323_32 P),(324,o324_32 P),(325,o325_32 P),(326,o326_32 P),(327,o327_32 P),(328,o328_32 P),(329,o329_32 P),(330,o330_32 P),(331,o331_32 P),(332,o332_32 P),(333,o333_32 P),(334,o334_32 P),(335,o335_32 P),(336,o336_32 P),(337,o337_32 P),(338,o338_32 P),(339,o339_32 P),(340,o340_32 P),(341,o341_32 P),(342,o342_32 P),(343,o343_32 P),(344,o344_32 P)]
noncomputable def H32 (P:Params) : Heap := ⟨⟨[o0_B P,o1_B P,o2_B P,o3_32 P,o4_B P,o5_B P,o6_B P,o7_B P,o8_B P,o9_B P,o10_B P,o11_B P,o12_32 P,o13_B P,o14_B P,o15_4 P,o16_4 P,o17_4 P,o18_4 P,o19_4 P,o20_4 P,o21_4 P,o22_4 P,o23_4 P,o24_4 P,o25_4 P,o26_4 P,o27_4 P,o28_4 P,o29_4 P,o30_4 P,o31_4 P,o32_4 P,o33_4 P,o34_4 P,o35_4 P,o36_4 P,o37_4 P,o38_4 P,o39_4 P,o40_4 P,o41_4 P,o42_4 P,o43_4 P,o44_4 P,o45_4 P,o46_4 P,o47_4 P,o48_4 P,o49_4 P,o50_4 P,o51_4 P,o52_4 P,o53_4 P,o54_4 P,o55_4 P,o56_4 P,o57_4 P,o58_4 P,o59_4 P,o60_4 P,o61_4 P,o62_4 P,o63_4 P,o64_4 P,o65_4 P,o66_4 P,o67_4 P,o68_4 P,o69_4 P,o70_4 P,o71_4 P,o72_4 P,o73_4 P,o74_4 P,o75_4 P,o76_4 P,o77_4 P,o78_4 P,o79_4 P,o80_4 P,o81_4 P,o82_4 P,o83_4 P,o84_4 P,o85_4 P,o86_4 P,o87_4 P,o88_4 P,o89_4 P,o90_4 P,o91_4 P,o92_4 P,o93_4 P,o94_4 P,o95_4 P,o96_4 P,o97_4 P,o98_4 P,o99_4 P,o100_4 P,o101_4 P,o102_4 P,o103_4 P,o104_4 P,o105_4 P,o106_4 P,o107_4 P,o108_4 P,o109_4 P,o110_4 P,o111_4 P,o112_4 P,o113_4 P,o114_4 P,o115_4 P,o116_4 P,o117_4 P,o118_4 P,o119_4 P,o120_4 P,o121_4 P,o122_4 P,o123_4 P,o124_4 P,o125_4 P,o126_4 P,o127_4 P,o128_4 P,o129_4 P,o130_4 P,o131_4 P,o132_4 P,o133_4 P,o134_4 P,o135_4 P,o136_4 P,o137_4 P,o138_4 P,o139_4 P,o140_4 P,o141_4 P,o142_4 P,o143_4 P,o144_4 P,o145_4 P,o146_5 P,o147_5 P,o148_5 P,o149_5 P,o150_5 P,o151_5 P,o152_5 P,o153_5 P,o154_5 P,o155_5 P,o156_5 P,o157_5 P,o158_5 P,o159_5 P,o160_5 P,o161_5 P,o162_5 P,o163_5 P,o164_5 P,o165_5 P,o166_5 P,o167_5 P,o168_5 P,o169_5 P,o170_5 P,o171_5 P,o172_5 P,o173_5 P,o174_5 P,o175_5 P,o176_5 P,o177_5 P,o178_5 P,o179_5 P,o180_5 P,o181_5 P,o182_5 P,o183_5 P,o184_5 P,o185_5 P,o186_5 P,o187_5 P,o188_5 P,o189_5 P,o190_5 P,o191_5 P,o192_5 P,o193_5 P,o194_5 P,o195_5 P,o196_5 P,o197_5 P,o198_5 P,o199_5 P,o200_5 P,o201_5 P,o202_5 P,o203_5 P,o204_5 P,o205_5 P,o206_5 P,o207_5 P,o208_5 P,o209_5 P,o210_5 P,o211_5 P,o212_5 P,o213_5 P,o214_5 P,o215_5 P,o216_5 P,o217_5 P,o218_5 P,o219_5 P,o220_5 P,o221_5 P,o222_5 P,o223_5 P,o224_5 P,o225_5 P,o226_5 P,o227_5 P,o228_5 P,o229_5 P,o230_5 P,o231_5 P,o232_5 P,o233_5 P,o234_5 P,o235_5 P,o236_5 P,o237_5 P,o238_5 P,o239_5 P,o240_5 P,o241_5 P,o242_5 P,o243_5 P,o244_5 P,o245_5 P,o246_5 P,o247_6 P,o248_6 P,o249_6 P,o250_6 P,o251_6e P,o252_6 P,o253_13 P,o254_15 P,o255_13 P,o256_16 P,o257_14 P,o258_14e P,o259_14 P,o260_16 P,o261_16e P,o262_16 P,o263_32 P,o264_32 P,o265_32 P,o266_32 P,o267_32 P,o268_32 P,o269_32 P,o270_32 P,o271_32 P,o272_32 P,o273_32 P,o274_32 P,o275_32 P,o276_32 P,o277_32 P,o278_32 P,o279_32 P,o280_32 P,o281_32 P,o282_32 P,o283_32 P,o284_32 P,o285_32 P,o286_32 P,o287_32 P,o288_32 P,o289_32 P,o290_32 P,o291_32 P,o292_32 P,o293_32 P,o294_32 P,o295_32 P,o296_32 P,o297_32 P,o298_32 P,o299_32 P,o300_32 P,o301_32 P,o302_32 P,o303_32 P,o304_32 P,o305_32 P,o306_32 P,o307_32 P,o308_32 P,o309_32 P,o310_32 P,o311_32 P,o312_32 P,o313_32 P,o314_32 P,o315_32 P,o316_32 P,o317_32 P,o318_32 P,o319_32 P,o320_32 P,o321_32 P,o322_32 P,o323_32 P,o324_32 P,o325_32 P,o326_32 P,o327_32 P,o328_32 P,o329_32 P,o330_32 P,o331_32 P,o332_32 P,o333_32 P,o334_32 P,o335_32 P,o336_32 P,o337_32 P,o338_32 P,o339_32 P,o340_32 P,o341_32 P,o342_32 P,o343_32 P,o344_32 P]⟩,{}⟩
noncomputable def S32 (w:World) (os:OsState) : SharedT := ⟨T32 w.params,345,{},#[],{},2241,os⟩
noncomputable def p0 : Pos := ⟨0,0,0,0⟩
noncomputable def envM : Env := { scope := pw.main.scope,locals := mainNs,globals := mainNs,cells := [],code := .ref 13,frame := some 14 }
noncomputable def cM : Code := .body (behindTheImports pw) envM
noncomputable def fr : List Frame := [topFrame p0]
noncomputable def annM : Option Value := some (.ref 6)
noncomputable abbrev sR := @PySem.W.Fast.tw10110043849684766642
noncomputable abbrev sG := @PySem.W.Fast.tw10295753902157049106
noncomputable abbrev tT := @PySem.W.Fast.tw14364793385576792824
noncomputable abbrev dnQ := @PySem.W.Fast.tw11892475500146522536
theorem sR_eq : @segRunT = sR := PySem.W.Fast.te10110043849684766642
theorem sG_eq : @segGoT = sG := PySem.W.Fast.te10295753902157049106
theorem tT_eq : @treeTable = tT := PySem.W.Fast.te14364793385576792824
theorem ex_eq : @execs = @PySem.W.Fast.tw12563942051412417395 := PySem.W.Fast.te12563942051412417395
theorem dn_eq : @denote = dnQ := PySem.W.Fast.te11892475500146522536
noncomputable def pcQ (b:List Stmt) (env:Env) (c:Code) (p:Pos) (fs:List Frame) : Thread := ⟨(PySem.W.Fast.tw12563942051412417395 b env).wrap doneF deadEnd id id,c,p,fs⟩
theorem pc_eq (b:List Stmt) (env:Env) (c:Code) (p:Pos) (fs:List Frame) : piecesOf b env c p fs = pcQ b env c p fs := by
  unfold piecesOf pcQ
  rw [ex_eq]
noncomputable def anyL (a:Array Nat) (p:Nat → Bool) (i j:Nat) : Bool := if i = 0 ∧ j = a.size then a.toList.any p else a.any p i j
theorem any_l : @Array.any Nat = anyL := by
  funext a p i j
  unfold anyL
  split
  · rename_i h
    obtain ⟨rfl,rfl⟩ := h
    exact Array.any_toList.symm
  · rfl
noncomputable abbrev tnT := @PySem.W.Fast.tw4202317264376624991
theorem tn_eq : @Builtin.«type.__new__» = tnT := PySem.W.Fast.te4202317264376624991
noncomputable def typeNewF : Builtin := by
  exact (?f : (fun (_:tnT = ?f)=>Builtin) (by
    delta tnT PySem.W.Fast.tw4202317264376624991
    rw [any_l]))
theorem typeNewF_eq : tnT = typeNewF := by
  delta tnT PySem.W.Fast.tw4202317264376624991 typeNewF
  rw [any_l]
noncomputable def tb5 : String → Option Builtin := fun id=>if id = "type.__new__" then some typeNewF else tT id
theorem ofS (l:List Nat) (h:(l.map Char.ofNat).map Char.toNat = l) : Str.ofString (String.ofList (l.map Char.ofNat)) = ⟨l.toArray⟩ := by rw [Str.ofString_eq_toList,String.toList_ofList,h]
noncomputable def cell5 (x:Str) : Stmt := match cell 5 with
  | .ClassDef a b c (.Expr (.Constant (.str _) k p) q :: r) d e f g h i j=>.ClassDef a b c (.Expr (.Constant (.str x) k p) q :: r) d e f g h i j
  | s=>s
theorem doc_ok : (docL.map Char.ofNat).map Char.toNat = docL := by kernel_rfl
theorem c5_eq : cell 5 = cell5 (Str.ofString (String.ofList (docL.map Char.ofNat))) := by kernel_rfl
theorem c5 : cell 5 = cell5 docC := c5_eq.trans (congrArg cell5 (ofS docL doc_ok))
noncomputable def wc (w:World) (c:Bool) : World := w.withFollow "comprehension-iter-twice" c
noncomputable def ws (w:World) (s:Bool) : World := w.withFollow "special-get-raises" s
theorem q04 (w:World) (os:OsState) : sR tT pw w 11 annM 1 1438 (SB w os) (pcQ [cell 0,cell 1,cell 2,cell 3,cell 4] envM cM p0 fr) = some (Flow.next,S4 w os,cM,(⟨66,0,69,14⟩ : Pos)) := by kernel_rfl
theorem e04 (w:World) (os:OsState) : segRunT treeTable pw w 11 annM 1 1438 (SB w os) (piecesOf [cell 0,cell 1,cell 2,cell 3,cell 4] envM cM p0 fr) = some (Flow.next,S4 w os,cM,(⟨66,0,69,14⟩ : Pos)) := by
  rw [sR_eq,tT_eq,pc_eq]
  exact q04 w os
theorem q05 (w:World) (os:OsState) : sR tb5 pw w 11 annM 1 657 (S4 w os) (pcQ [cell5 docC] envM cM ⟨66,0,69,14⟩ fr) = some (Flow.next,S5 w os,cM,(⟨70,0,461,16⟩ : Pos)) := by kernel_rfl
theorem e05 (w:World) (os:OsState) : segRunT tb5 pw w 11 annM 1 657 (S4 w os) (piecesOf [cell5 docC] envM cM ⟨66,0,69,14⟩ fr) = some (Flow.next,S5 w os,cM,(⟨70,0,461,16⟩ : Pos)) := by
  rw [sR_eq,pc_eq]
  exact q05 w os
noncomputable def lc6 : PySem.Expr := match cell 6 with | .Assign _ v _=>v | _=>.Name (PySem.Str.ofString "") p0
noncomputable def sc6 : Scope := match lc6 with | .ListComp _ _ s _=>s | _=>pw.main.scope
noncomputable def env6 : Env := { envM with scope := sc6,locals := 250 }
noncomputable def code6 : Code := .compLoop lc6 0 (.ref 248) (.ref 249) env6
noncomputable def pos6 : Pos := ⟨462,36,462,46⟩
noncomputable def st6 (k:Result → Sem PySem.Fin) : List Frame := .ret k none true [.ref 250,.ref 249] cM pos6 [] :: fr
noncomputable def th6 (k:Result → Sem PySem.Fin) : Thread := ⟨dnQ tT code6,code6,pos6,st6 k⟩
noncomputable def en6 (k:Result → Sem PySem.Fin) : Thread := ⟨.pure (.done .next),code6,pos6,st6 k⟩
noncomputable def wh6 : Thread := piecesOf [cell 6] envM cM ⟨70,0,461,16⟩ fr
noncomputable def wq6 : Thread := pcQ [cell 6] envM cM ⟨70,0,461,16⟩ fr
noncomputable def kOf (r:Option (SharedT × Thread)) : Result → Sem PySem.Fin := match r with
  | some (_,⟨_,_,_,.ret k _ _ _ _ _ _ :: _⟩)=>k
  | _=>fun _=>.pure (.done .next)
theorem q6 (k:Result → Sem PySem.Fin) (w:World) (os:OsState) : sG tT pw w 11 annM 1 9486 (S6h w os) (th6 k) = some (S6e w os,en6 k) := by kernel_rfl
theorem e6 (k:Result → Sem PySem.Fin) (w:World) (os:OsState) : segGoT treeTable pw w 11 annM 1 9486 (S6h w os) (th6 k) = some (S6e w os,en6 k) := by
  rw [sG_eq,tT_eq]
  exact q6 k w os
noncomputable def k6tt (w:World) (os:OsState) : Result → Sem PySem.Fin := kOf (sG tT pw (ws (wc w true) true) 11 annM 1 42 (S5 (ws (wc w true) true) os) wq6)
theorem q6att (w:World) (os:OsState) : sG tT pw (ws (wc w true) true) 11 annM 1 42 (S5 (ws (wc w true) true) os) wq6 = some (S6h (ws (wc w true) true) os,th6 (k6tt w os)) := by kernel_rfl
theorem e6att (w:World) (os:OsState) : segGoT treeTable pw (ws (wc w true) true) 11 annM 1 42 (S5 (ws (wc w true) true) os) wh6 = some (S6h (ws (wc w true) true) os,th6 (k6tt w os)) := by
  unfold wh6
  rw [sG_eq,tT_eq,pc_eq]
  exact q6att w os
theorem q6btt (w:World) (os:OsState) : sR tT pw (ws (wc w true) true) 11 annM 1 14 (S6e (ws (wc w true) true) os) (en6 (k6tt w os)) = some (Flow.next,S6 (ws (wc w true) true) os,cM,(⟨462,0,462,11⟩ : Pos)) := by kernel_rfl
theorem e6btt (w:World) (os:OsState) : segRunT treeTable pw (ws (wc w true) true) 11 annM 1 14 (S6e (ws (wc w true) true) os) (en6 (k6tt w os)) = some (Flow.next,S6 (ws (wc w true) true) os,cM,(⟨462,0,462,11⟩ : Pos)) := by
  rw [sR_eq,tT_eq]
  exact q6btt w os
noncomputable def k6tf (w:World) (os:OsState) : Result → Sem PySem.Fin := kOf (sG tT pw (ws (wc w true) false) 11 annM 1 42 (S5 (ws (wc w true) false) os) wq6)
theorem q6atf (w:World) (os:OsState) : sG tT pw (ws (wc w true) false) 11 annM 1 42 (S5 (ws (wc w true) false) os) wq6 = some (S6h (ws (wc w true) false) os,th6 (k6tf w os)) := by kernel_rfl
theorem e6atf (w:World) (os:OsState) : segGoT treeTable pw (ws (wc w true) false) 11 annM 1 42 (S5 (ws (wc w true) false) os) wh6 = some (S6h (ws (wc w true) false) os,th6 (k6tf w os)) := by
  unfold wh6
  rw [sG_eq,tT_eq,pc_eq]
  exact q6atf w os
theorem q6btf (w:World) (os:OsState) : sR tT pw (ws (wc w true) false) 11 annM 1 14 (S6e (ws (wc w true) false) os) (en6 (k6tf w os)) = some (Flow.next,S6 (ws (wc w true) false) os,cM,(⟨462,0,462,11⟩ : Pos)) := by kernel_rfl
theorem e6btf (w:World) (os:OsState) : segRunT treeTable pw (ws (wc w true) false) 11 annM 1 14 (S6e (ws (wc w true) false) os) (en6 (k6tf w os)) = some (Flow.next,S6 (ws (wc w true) false) os,cM,(⟨462,0,462,11⟩ : Pos)) := by
  rw [sR_eq,tT_eq]
  exact q6btf w os
noncomputable def k6ft (w:World) (os:OsState) : Result → Sem PySem.Fin := kOf (sG tT pw (ws (wc w false) true) 11 annM 1 52 (S5 (ws (wc w false) true) os) wq6)
theorem q6aft (w:World) (os:OsState) : sG tT pw (ws (wc w false) true) 11 annM 1 52 (S5 (ws (wc w false) true) os) wq6 = some (S6h (ws (wc w false) true) os,th6 (k6ft w os)) := by kernel_rfl
theorem e6aft (w:World) (os:OsState) : segGoT treeTable pw (ws (wc w false) true) 11 annM 1 52 (S5 (ws (wc w false) true) os) wh6 = some (S6h (ws (wc w false) true) os,th6 (k6ft w os)) := by
  unfold wh6
  rw [sG_eq,tT_eq,pc_eq]
  exact q6aft w os
theorem q6bft (w:World) (os:OsState) : sR tT pw (ws (wc w false) true) 11 annM 1 14 (S6e (ws (wc w false) true) os) (en6 (k6ft w os)) = some (Flow.next,S6 (ws (wc w false) true) os,cM,(⟨462,0,462,11⟩ : Pos)) := by kernel_rfl
theorem e6bft (w:World) (os:OsState) : segRunT treeTable pw (ws (wc w false) true) 11 annM 1 14 (S6e (ws (wc w false) true) os) (en6 (k6ft w os)) = some (Flow.next,S6 (ws (wc w false) true) os,cM,(⟨462,0,462,11⟩ : Pos)) := by
  rw [sR_eq,tT_eq]
  exact q6bft w os
noncomputable def k6ff (w:World) (os:OsState) : Result → Sem PySem.Fin := kOf (sG tT pw (ws (wc w false) false) 11 annM 1 52 (S5 (ws (wc w false) false) os) wq6)
theorem q6aff (w:World) (os:OsState) : sG tT pw (ws (wc w false) false) 11 annM 1 52 (S5 (ws (wc w false) false) os) wq6 = some (S6h (ws (wc w false) false) os,th6 (k6ff w os)) := by kernel_rfl
theorem e6aff (w:World) (os:OsState) : segGoT treeTable pw (ws (wc w false) false) 11 annM 1 52 (S5 (ws (wc w false) false) os) wh6 = some (S6h (ws (wc w false) false) os,th6 (k6ff w os)) := by
  unfold wh6
  rw [sG_eq,tT_eq,pc_eq]
  exact q6aff w os
theorem q6bff (w:World) (os:OsState) : sR tT pw (ws (wc w false) false) 11 annM 1 14 (S6e (ws (wc w false) false) os) (en6 (k6ff w os)) = some (Flow.next,S6 (ws (wc w false) false) os,cM,(⟨462,0,462,11⟩ : Pos)) := by kernel_rfl
theorem e6bff (w:World) (os:OsState) : segRunT treeTable pw (ws (wc w false) false) 11 annM 1 14 (S6e (ws (wc w false) false) os) (en6 (k6ff w os)) = some (Flow.next,S6 (ws (wc w false) false) os,cM,(⟨462,0,462,11⟩ : Pos)) := by
  rw [sR_eq,tT_eq]
  exact q6bff w os
theorem q7 (w:World) (os:OsState) : sR tT pw w 11 annM 1 109 (S6 w os) (pcQ [cell 7,cell 8,cell 9,cell 10,cell 11,cell 12,cell 13] envM cM ⟨462,0,462,11⟩ fr) = some (Flow.next,S13 w os,cM,(⟨469,0,469,8⟩ : Pos)) := by kernel_rfl
theorem e7 (w:World) (os:OsState) : segRunT treeTable pw w 11 annM 1 109 (S6 w os) (piecesOf [cell 7,cell 8,cell 9,cell 10,cell 11,cell 12,cell 13] envM cM ⟨462,0,462,11⟩ fr) = some (Flow.next,S13 w os,cM,(⟨469,0,469,8⟩ : Pos)) := by
  rw [sR_eq,tT_eq,pc_eq]
  exact q7 w os
noncomputable def tg14 : PySem.Expr := match cell 14 with | .For t _ _ _ _=>t | _=>.Name (PySem.Str.ofString "") p0
noncomputable def bd14 : List Stmt := match cell 14 with | .For _ _ b _ _=>b | _=>[]
noncomputable def code14 : Code := .forLoop tg14 (.ref 257) bd14 [] envM
noncomputable def stk14 (k:Result → Sem PySem.Fin) : List Frame := .ret k none false [] cM ⟨470,9,470,74⟩ [] :: fr
noncomputable def th14 (k:Result → Sem PySem.Fin) : Thread := ⟨dnQ tT code14,code14,⟨470,9,470,74⟩,stk14 k⟩
noncomputable def en14 (k:Result → Sem PySem.Fin) : Thread := ⟨dnQ tT (.block [] envM),.block [] envM,⟨470,4,470,5⟩,stk14 k⟩
noncomputable def wh14 : Thread := piecesOf [cell 14] envM cM ⟨469,0,469,8⟩ fr
noncomputable def wq14 : Thread := pcQ [cell 14] envM cM ⟨469,0,469,8⟩ fr
theorem q14 (k:Result → Sem PySem.Fin) (w:World) (os:OsState) : sG tT pw w 11 annM 1 3031 (S14h w os) (th14 k) = some (S14 w os,en14 k) := by kernel_rfl
theorem e14 (k:Result → Sem PySem.Fin) (w:World) (os:OsState) : segGoT treeTable pw w 11 annM 1 3031 (S14h w os) (th14 k) = some (S14 w os,en14 k) := by
  rw [sG_eq,tT_eq]
  exact q14 k w os
noncomputable def k14t (w:World) (os:OsState) : Result → Sem PySem.Fin := kOf (sG tT pw (ws w true) 11 annM 1 44 (S13 (ws w true) os) wq14)
theorem q14at (w:World) (os:OsState) : sG tT pw (ws w true) 11 annM 1 44 (S13 (ws w true) os) wq14 = some (S14h (ws w true) os,th14 (k14t w os)) := by kernel_rfl
theorem e14at (w:World) (os:OsState) : segGoT treeTable pw (ws w true) 11 annM 1 44 (S13 (ws w true) os) wh14 = some (S14h (ws w true) os,th14 (k14t w os)) := by
  unfold wh14
  rw [sG_eq,tT_eq,pc_eq]
  exact q14at w os
theorem q14bt (w:World) (os:OsState) : sR tT pw (ws w true) 11 annM 1 2 (S14 (ws w true) os) (en14 (k14t w os)) = some (Flow.next,S14 (ws w true) os,cM,(⟨470,9,470,74⟩ : Pos)) := by kernel_rfl
theorem e14bt (w:World) (os:OsState) : segRunT treeTable pw (ws w true) 11 annM 1 2 (S14 (ws w true) os) (en14 (k14t w os)) = some (Flow.next,S14 (ws w true) os,cM,(⟨470,9,470,74⟩ : Pos)) := by
  rw [sR_eq,tT_eq]
  exact q14bt w os
noncomputable def k14f (w:World) (os:OsState) : Result → Sem PySem.Fin := kOf (sG tT pw (ws w false) 11 annM 1 44 (S13 (ws w false) os) wq14)
theorem q14af (w:World) (os:OsState) : sG tT pw (ws w false) 11 annM 1 44 (S13 (ws w false) os) wq14 = some (S14h (ws w false) os,th14 (k14f w os)) := by kernel_rfl
theorem e14af (w:World) (os:OsState) : segGoT treeTable pw (ws w false) 11 annM 1 44 (S13 (ws w false) os) wh14 = some (S14h (ws w false) os,th14 (k14f w os)) := by
  unfold wh14
  rw [sG_eq,tT_eq,pc_eq]
  exact q14af w os
theorem q14bf (w:World) (os:OsState) : sR tT pw (ws w false) 11 annM 1 2 (S14 (ws w false) os) (en14 (k14f w os)) = some (Flow.next,S14 (ws w false) os,cM,(⟨470,9,470,74⟩ : Pos)) := by kernel_rfl
theorem e14bf (w:World) (os:OsState) : segRunT treeTable pw (ws w false) 11 annM 1 2 (S14 (ws w false) os) (en14 (k14f w os)) = some (Flow.next,S14 (ws w false) os,cM,(⟨470,9,470,74⟩ : Pos)) := by
  rw [sR_eq,tT_eq]
  exact q14bf w os
theorem q15 (w:World) (os:OsState) : sR tT pw w 11 annM 1 25 (S14 w os) (pcQ [cell 15] envM cM ⟨470,9,470,74⟩ fr) = some (Flow.next,S15 w os,cM,(⟨472,0,472,28⟩ : Pos)) := by kernel_rfl
theorem e15 (w:World) (os:OsState) : segRunT treeTable pw w 11 annM 1 25 (S14 w os) (piecesOf [cell 15] envM cM ⟨470,9,470,74⟩ fr) = some (Flow.next,S15 w os,cM,(⟨472,0,472,28⟩ : Pos)) := by
  rw [sR_eq,tT_eq,pc_eq]
  exact q15 w os
noncomputable def tg16 : PySem.Expr := match cell 16 with | .For t _ _ _ _=>t | _=>.Name (PySem.Str.ofString "") p0
noncomputable def bd16 : List Stmt := match cell 16 with | .For _ _ b _ _=>b | _=>[]
noncomputable def code16 : Code := .forLoop tg16 (.ref 260) bd16 [] envM
noncomputable def stk16 (k:Result → Sem PySem.Fin) : List Frame := .ret k none false [] cM ⟨473,9,473,110⟩ [] :: fr
noncomputable def th16 (k:Result → Sem PySem.Fin) : Thread := ⟨dnQ tT code16,code16,⟨473,9,473,110⟩,stk16 k⟩
noncomputable def en16 (k:Result → Sem PySem.Fin) : Thread := ⟨dnQ tT (.block [] envM),.block [] envM,⟨473,4,473,5⟩,stk16 k⟩
noncomputable def wh16 : Thread := piecesOf [cell 16] envM cM ⟨472,0,472,28⟩ fr
noncomputable def wq16 : Thread := pcQ [cell 16] envM cM ⟨472,0,472,28⟩ fr
theorem q16 (k:Result → Sem PySem.Fin) (w:World) (os:OsState) : sG tT pw w 11 annM 1 4291 (S16h w os) (th16 k) = some (S16 w os,en16 k) := by kernel_rfl
theorem e16 (k:Result → Sem PySem.Fin) (w:World) (os:OsState) : segGoT treeTable pw w 11 annM 1 4291 (S16h w os) (th16 k) = some (S16 w os,en16 k) := by
  rw [sG_eq,tT_eq]
  exact q16 k w os
noncomputable def k16t (w:World) (os:OsState) : Result → Sem PySem.Fin := kOf (sG tT pw (ws w true) 11 annM 1 10 (S15 (ws w true) os) wq16)
theorem q16at (w:World) (os:OsState) : sG tT pw (ws w true) 11 annM 1 10 (S15 (ws w true) os) wq16 = some (S16h (ws w true) os,th16 (k16t w os)) := by kernel_rfl
theorem e16at (w:World) (os:OsState) : segGoT treeTable pw (ws w true) 11 annM 1 10 (S15 (ws w true) os) wh16 = some (S16h (ws w true) os,th16 (k16t w os)) := by
  unfold wh16
  rw [sG_eq,tT_eq,pc_eq]
  exact q16at w os
theorem q16bt (w:World) (os:OsState) : sR tT pw (ws w true) 11 annM 1 2 (S16 (ws w true) os) (en16 (k16t w os)) = some (Flow.next,S16 (ws w true) os,cM,(⟨473,9,473,110⟩ : Pos)) := by kernel_rfl
theorem e16bt (w:World) (os:OsState) : segRunT treeTable pw (ws w true) 11 annM 1 2 (S16 (ws w true) os) (en16 (k16t w os)) = some (Flow.next,S16 (ws w true) os,cM,(⟨473,9,473,110⟩ : Pos)) := by
  rw [sR_eq,tT_eq]
  exact q16bt w os
noncomputable def k16f (w:World) (os:OsState) : Result → Sem PySem.Fin := kOf (sG tT pw (ws w false) 11 annM 1 10 (S15 (ws w false) os) wq16)
theorem q16af (w:World) (os:OsState) : sG tT pw (ws w false) 11 annM 1 10 (S15 (ws w false) os) wq16 = some (S16h (ws w false) os,th16 (k16f w os)) := by kernel_rfl
theorem e16af (w:World) (os:OsState) : segGoT treeTable pw (ws w false) 11 annM 1 10 (S15 (ws w false) os) wh16 = some (S16h (ws w false) os,th16 (k16f w os)) := by
  unfold wh16
  rw [sG_eq,tT_eq,pc_eq]
  exact q16af w os
theorem q16bf (w:World) (os:OsState) : sR tT pw (ws w false) 11 annM 1 2 (S16 (ws w false) os) (en16 (k16f w os)) = some (Flow.next,S16 (ws w false) os,cM,(⟨473,9,473,110⟩ : Pos)) := by kernel_rfl
theorem e16bf (w:World) (os:OsState) : segRunT treeTable pw (ws w false) 11 annM 1 2 (S16 (ws w false) os) (en16 (k16f w os)) = some (Flow.next,S16 (ws w false) os,cM,(⟨473,9,473,110⟩ : Pos)) := by
  rw [sR_eq,tT_eq]
  exact q16bf w os
theorem q17t (w:World) (os:OsState) : sR tT pw (ws w true) 11 annM 1 528 (S16 (ws w true) os) (pcQ [cell 17,cell 18,cell 19,cell 20,cell 21,cell 22,cell 23,cell 24,cell 25,cell 26,cell 27,cell 28,cell 29,cell 30,cell 31,cell 32] envM cM ⟨473,9,473,110⟩ fr) = some (Flow.next,S32 (ws w true) os,cM,(⟨570,0,588,82⟩ : Pos)) := by kernel_rfl
theorem e17t (w:World) (os:OsState) : segRunT treeTable pw (ws w true) 11 annM 1 528 (S16 (ws w true) os) (piecesOf [cell 17,cell 18,cell 19,cell 20,cell 21,cell 22,cell 23,cell 24,cell 25,cell 26,cell 27,cell 28,cell 29,cell 30,cell 31,cell 32] envM cM ⟨473,9,473,110⟩ fr) = some (Flow.next,S32 (ws w true) os,cM,(⟨570,0,588,82⟩ : Pos)) := by
  rw [sR_eq,tT_eq,pc_eq]
  exact q17t w os
theorem q17f (w:World) (os:OsState) : sR tT pw (ws w false) 11 annM 1 528 (S16 (ws w false) os) (pcQ [cell 17,cell 18,cell 19,cell 20,cell 21,cell 22,cell 23,cell 24,cell 25,cell 26,cell 27,cell 28,cell 29,cell 30,cell 31,cell 32] envM cM ⟨473,9,473,110⟩ fr) = some (Flow.next,S32 (ws w false) os,cM,(⟨570,0,588,82⟩ : Pos)) := by kernel_rfl
theorem e17f (w:World) (os:OsState) : segRunT treeTable pw (ws w false) 11 annM 1 528 (S16 (ws w false) os) (piecesOf [cell 17,cell 18,cell 19,cell 20,cell 21,cell 22,cell 23,cell 24,cell 25,cell 26,cell 27,cell 28,cell 29,cell 30,cell 31,cell 32] envM cM ⟨473,9,473,110⟩ fr) = some (Flow.next,S32 (ws w false) os,cM,(⟨570,0,588,82⟩ : Pos)) := by
  rw [sR_eq,tT_eq,pc_eq]
  exact q17f w os
theorem segRun_mono {tb:String → Option Builtin} {p:Program} {w:World} {n₀:Nat} {ann:Option Value} {b:Nat} (k:Nat) : ∀ (n:Nat) (s:Shared) (t:Thread) (r:Flow × Shared × Code × Pos),
    segRun tb p w n₀ ann b n s t = some r → segRun tb p w n₀ ann b (n + k) s t = some r
  | 0,_,_,_,h=>by simp [segRun] at h
  | n + 1,s,t,r,h=>by
    rw [show n + 1 + k = n + k + 1 by lia]
    unfold segRun at h ⊢
    cases he : endAt b t with
    | some f=>rw [he] at h; exact h
    | none =>
      rw [he] at h
      cases hk : stepOk n₀ ann t with
      | false=>rw [hk] at h; cases h
      | true =>
        rw [hk] at h
        cases hs : step (denote tb) p w s t with
        | halt o s'=>rw [hs] at h; cases h
        | go s' t'=>rw [hs] at h; exact segRun_mono k n s' t' r h
theorem at_new : treeTable "type.__new__" = some Builtin.«type.__new__» := by kernel_rfl
theorem tb5_eq : tb5 = treeTable := by
  funext id
  unfold tb5
  split
  · rename_i h
    subst h
    rw [at_new,tn_eq,typeNewF_eq]
  · rw [tT_eq]
theorem run04 (w:World) (os:OsState) : segRun treeTable pw w 11 annM 1 1438 (SB w os).abs (piecesOf [cell 0,cell 1,cell 2,cell 3,cell 4] envM cM p0 [topFrame p0]) = some (.next,(S4 w os).abs,cM,⟨66,0,69,14⟩) := segRun_of (e04 w os)
theorem run05 (w:World) (os:OsState) : segRun treeTable pw w 11 annM 1 657 (S4 w os).abs (piecesOf [cell 5] envM cM ⟨66,0,69,14⟩ [topFrame p0]) = some (.next,(S5 w os).abs,cM,⟨70,0,461,16⟩) := by
  have h : segRunT tb5 pw w 11 annM 1 657 (S4 w os) (piecesOf [cell5 docC] envM cM ⟨66,0,69,14⟩ fr) = some (Flow.next,S5 w os,cM,(⟨70,0,461,16⟩ : Pos)) := e05 w os
  rw [tb5_eq,← c5] at h
  exact segRun_of h
abbrev P6 (w:World) : Prop := ∀ os,segRun treeTable pw w 11 annM 1 9560 (S5 w os).abs (piecesOf [cell 6] envM cM ⟨70,0,461,16⟩ [topFrame p0]) = some (.next,(S6 w os).abs,cM,⟨462,0,462,11⟩)
theorem p6tt (w:World) : P6 (ws (wc w true) true) := fun os=>by
  have h := seg_go (segGo_of (e6att w os)) (seg_go (segGo_of (e6 (k6tt w os) (ws (wc w true) true) os)) (segRun_of (e6btt w os)))
  exact segRun_mono 18 _ _ _ _ h
theorem p6tf (w:World) : P6 (ws (wc w true) false) := fun os=>by
  have h := seg_go (segGo_of (e6atf w os)) (seg_go (segGo_of (e6 (k6tf w os) (ws (wc w true) false) os)) (segRun_of (e6btf w os)))
  exact segRun_mono 18 _ _ _ _ h
theorem p6ft (w:World) : P6 (ws (wc w false) true) := fun os=>by
  have h := seg_go (segGo_of (e6aft w os)) (seg_go (segGo_of (e6 (k6ft w os) (ws (wc w false) true) os)) (segRun_of (e6bft w os)))
  exact segRun_mono 8 _ _ _ _ h
theorem p6ff (w:World) : P6 (ws (wc w false) false) := fun os=>by
  have h := seg_go (segGo_of (e6aff w os)) (seg_go (segGo_of (e6 (k6ff w os) (ws (wc w false) false) os)) (segRun_of (e6bff w os)))
  exact segRun_mono 8 _ _ _ _ h
theorem run6 (w:World) : P6 w := byRow2 "special-get-raises" (P := P6) (fun w'=>byRow2 "comprehension-iter-twice" (P := fun w'=>P6 (ws w' false)) p6ff p6tf w') (fun w'=>byRow2 "comprehension-iter-twice" (P := fun w'=>P6 (ws w' true)) p6ft p6tt w') w
theorem run7 (w:World) (os:OsState) : segRun treeTable pw w 11 annM 1 109 (S6 w os).abs (piecesOf [cell 7,cell 8,cell 9,cell 10,cell 11,cell 12,cell 13] envM cM ⟨462,0,462,11⟩ [topFrame p0]) = some (.next,(S13 w os).abs,cM,⟨469,0,469,8⟩) := segRun_of (e7 w os)
abbrev P14 (w:World) : Prop := ∀ os,segRun treeTable pw w 11 annM 1 (44 + (3031 + 2)) (S13 w os).abs (piecesOf [cell 14] envM cM ⟨469,0,469,8⟩ [topFrame p0]) = some (.next,(S14 w os).abs,cM,⟨470,9,470,74⟩)
theorem p14t (w:World) : P14 (ws w true) := fun os =>
  seg_go (segGo_of (e14at w os)) (seg_go (segGo_of (e14 (k14t w os) (ws w true) os)) (segRun_of (e14bt w os)))
theorem p14f (w:World) : P14 (ws w false) := fun os =>
  seg_go (segGo_of (e14af w os)) (seg_go (segGo_of (e14 (k14f w os) (ws w false) os)) (segRun_of (e14bf w os)))
theorem run14 (w:World) : P14 w := byRow2 "special-get-raises" (P := P14) p14f p14t w
abbrev P16 (w:World) : Prop := ∀ os,segRun treeTable pw w 11 annM 1 (10 + (4291 + 2)) (S15 w os).abs (piecesOf [cell 16] envM cM ⟨472,0,472,28⟩ [topFrame p0]) = some (.next,(S16 w os).abs,cM,⟨473,9,473,110⟩)
theorem p16t (w:World) : P16 (ws w true) := fun os =>
  seg_go (segGo_of (e16at w os)) (seg_go (segGo_of (e16 (k16t w os) (ws w true) os)) (segRun_of (e16bt w os)))
theorem p16f (w:World) : P16 (ws w false) := fun os =>
  seg_go (segGo_of (e16af w os)) (seg_go (segGo_of (e16 (k16f w os) (ws w false) os)) (segRun_of (e16bf w os)))
theorem run16 (w:World) : P16 w := byRow2 "special-get-raises" (P := P16) p16f p16t w
theorem run15 (w:World) (os:OsState) : segRun treeTable pw w 11 annM 1 25 (S14 w os).abs (piecesOf [cell 15] envM cM ⟨470,9,470,74⟩ [topFrame p0]) = some (.next,(S15 w os).abs,cM,⟨472,0,472,28⟩) := segRun_of (e15 w os)
abbrev P17 (w:World) : Prop := ∀ os,segRun treeTable pw w 11 annM 1 528 (S16 w os).abs (piecesOf [cell 17,cell 18,cell 19,cell 20,cell 21,cell 22,cell 23,cell 24,cell 25,cell 26,cell 27,cell 28,cell 29,cell 30,cell 31,cell 32] envM cM ⟨473,9,473,110⟩ [topFrame p0]) = some (.next,(S32 w os).abs,cM,⟨570,0,588,82⟩)
theorem run17 (w:World) : P17 w := byRow2 "special-get-raises" (P := P17) (fun w os=>segRun_of (e17f w os)) (fun w os=>segRun_of (e17t w os)) w
noncomputable abbrev tG := @PySem.W.Fast.tw15667345088766844465
theorem tG_eq : @topGo = tG := PySem.W.Fast.te15667345088766844465
noncomputable abbrev sS := @PySem.W.Fast.tw14374325043358763698
theorem sS_eq : @segRun = sS := PySem.W.Fast.te14374325043358763698
noncomputable abbrev tR := @PySem.W.Fast.tw14082659384304107361
theorem tR_eq : @topRun = tR := PySem.W.Fast.te14082659384304107361
theorem qpre (w:World) (os:OsState) : tG tT pw w 11 annM 12 ⟨boot_heap w.params,⟨[]⟩,boot_drawn,boot_toks,os⟩ (topStub pw) = some ((SB w os).abs,(⟨dnQ tT cM,cM,p0,fr⟩ : Thread)) := by kernel_rfl
theorem epre (w:World) (os:OsState) : topGo treeTable pw w 11 annM 12 ⟨boot_heap w.params,⟨[]⟩,boot_drawn,boot_toks,os⟩ (topStub pw) = some ((SB w os).abs,(⟨denote treeTable cM,cM,p0,fr⟩ : Thread)) := by
  rw [tG_eq,tT_eq,dn_eq]
  exact qpre w os
theorem qblk (w:World) (os:OsState) : sS tT pw w 11 annM 1 1 (SB w os).abs (blockOf (behindTheImports pw) envM cM p0 fr) = some (Flow.next,(SB w os).abs,cM,p0) := by kernel_rfl
theorem eblk (w:World) (os:OsState) : segRun treeTable pw w 11 annM 1 1 (SB w os).abs (blockOf (behindTheImports pw) envM cM p0 fr) = some (Flow.next,(SB w os).abs,cM,p0) := by
  rw [sS_eq,tT_eq]
  exact qblk w os
theorem qfin (w:World) (os:OsState) : tR tT pw w 11 annM 2 (S32 w os).abs ⟨doneF .next,cM,⟨570,0,588,82⟩,fr⟩ = some (⟨H32 w.params,⟨[]⟩,{},2241,os⟩ : Shared) := by kernel_rfl
theorem efin (w:World) (os:OsState) : topRun treeTable pw w 11 annM 2 (S32 w os).abs ⟨doneF .next,cM,⟨570,0,588,82⟩,fr⟩ = some (⟨H32 w.params,⟨[]⟩,{},2241,os⟩ : Shared) := by
  rw [tR_eq,tT_eq]
  exact qfin w os
theorem parts_eq : [cell 0,cell 1,cell 2,cell 3,cell 4] ++ ([cell 5] ++ ([cell 6] ++ ([cell 7,cell 8,cell 9,cell 10,cell 11,cell 12,cell 13] ++ ([cell 14] ++ ([cell 15] ++ ([cell 16] ++ ([cell 17,cell 18,cell 19,cell 20,cell 21,cell 22,cell 23,cell 24,cell 25,cell 26,cell 27,cell 28,cell 29,cell 30,cell 31,cell 32] ++ []))))))) = behindTheImports pw := by kernel_rfl
noncomputable abbrev steps : Nat := 12 + (1 + (1438 + (657 + (9560 + (109 + (3077 + (25 + (4303 + (528 + 2)))))))))
theorem run (w:World) (os:OsState) : topRun treeTable pw w 11 annM steps ⟨boot_heap w.params,⟨[]⟩,boot_drawn,boot_toks,os⟩ (topStub pw) = some ⟨H32 w.params,⟨[]⟩,{},2241,os⟩ := by
  have k9 : topRun treeTable pw w 11 annM 2 (S32 w os).abs (restOf [] envM cM ⟨570,0,588,82⟩ [topFrame p0]) = some ⟨H32 w.params,⟨[]⟩,{},2241,os⟩ := efin w os
  have k8 := piece_app (run17 w os) k9
  have k7 := piece_app (run16 w os) k8
  have k6 := piece_app (run15 w os) k7
  have k5 := piece_app (run14 w os) k6
  have k4 := piece_app (run7 w os) k5
  have k3 := piece_app (run6 w os) k4
  have k2 := piece_app (run05 w os) k3
  have k1 := piece_app (run04 w os) k2
  rw [parts_eq] at k1
  have k0 := piece_block (eblk w os) k1
  exact go_top (epre w os) k0
noncomputable def qv : Program := view pw [0,2,3,4,5,6,7,8,9,10,11,12,17,19,23,24,25,26,27,28,29,30,31,32]
noncomputable def looseM : List Str := [PySem.Str.ofString "_tuplegetter",PySem.Str.ofString "Match",PySem.Str.ofString "SequenceMatcher",PySem.Str.ofString "_QUOPRI_MAP",PySem.Str.ofString "_QUOPRI_HEADER_MAP",PySem.Str.ofString "_QUOPRI_BODY_MAP",PySem.Str.ofString "ascii_letters",PySem.Str.ofString "header_encode",PySem.Str.ofString "_QUOPRI_BODY_ENCODE_MAP"]
noncomputable def KM (P:Params) : Frag := (nat_lit 2,o2_B P) :: (nat_lit 3,o3_32 P) :: (nat_lit 15,o15_4 P) :: (nat_lit 17,o17_4 P) :: (nat_lit 18,o18_4 P) :: (nat_lit 20,o20_4 P) :: (nat_lit 21,o21_4 P) :: (nat_lit 29,o29_4 P) :: (nat_lit 31,o31_4 P) :: (nat_lit 32,o32_4 P) :: (nat_lit 34,o34_4 P) :: (nat_lit 35,o35_4 P) :: (nat_lit 36,o36_4 P) :: (nat_lit 37,o37_4 P) :: (nat_lit 39,o39_4 P) :: (nat_lit 40,o40_4 P) :: (nat_lit 42,o42_4 P) :: (nat_lit 43,o43_4 P) :: (nat_lit 44,o44_4 P) :: (nat_lit 46,o46_4 P) :: (nat_lit 47,o47_4 P) :: (nat_lit 49,o49_4 P) :: (nat_lit 50,o50_4 P) :: (nat_lit 51,o51_4 P) :: (nat_lit 53,o53_4 P) :: (nat_lit 54,o54_4 P) :: (nat_lit 56,o56_4 P) :: (nat_lit 57,o57_4 P) :: (nat_lit 58,o58_4 P) :: (nat_lit 59,o59_4 P) :: (nat_lit 60,o60_4 P) :: (nat_lit 61,o61_4 P) :: (nat_lit 62,o62_4 P) :: (nat_lit 65,o65_4 P) :: (nat_lit 68,o68_4 P) :: (nat_lit 73,o73_4 P) :: (nat_lit 74,o74_4 P) :: (nat_lit 75,o75_4 P) :: (nat_lit 76,o76_4 P) :: (nat_lit 78,o78_4 P) :: (nat_lit 79,o79_4 P) :: (nat_lit 81,o81_4 P) :: (nat_lit 82,o82_4 P) :: (nat_lit 83,o83_4 P) :: (nat_lit 85,o85_4 P) :: (nat_lit 86,o86_4 P) :: (nat_lit 88,o88_4 P) :: (nat_lit 89,o89_4 P) :: (nat_lit 90,o90_4 P) :: (nat_lit 91,o91_4 P) :: (nat_lit 92,o92_4 P) :: (nat_lit 93,o93_4 P) :: (nat_lit 94,o94_4 P) :: (nat_lit 96,o96_4 P) :: (nat_lit 97,o97_4 P) :: (nat_lit 99,o99_4 P) :: (nat_lit 100,o100_4 P) :: (nat_lit 101,o101_4 P) :: (nat_lit 103,o103_4 P) :: (nat_lit 104,o104_4 P) :: (nat_lit 106,o106_4 P) :: (nat_lit 107,o107_4 P) :: (nat_lit 108,o108_4 P) :: (nat_lit 110,o110_4 P) :: (nat_lit 111,o111_4 P) :: (nat_lit 113,o113_4 P) :: (nat_lit 114,o114_4 P) :: (nat_lit 115,o115_4 P) :: (nat_lit 117,o117_4 P) :: (nat_lit 118,o118_4 P) :: (nat_lit 120,o120_4 P) :: (nat_lit 121,o121_4 P) :: (nat_lit 122,o122_4 P) :: (nat_lit 123,o123_4 P) :: (nat_lit 124,o124_4 P) :: (nat_lit 126,o126_4 P) :: (nat_lit 127,o127_4 P) :: (nat_lit 129,o129_4 P) :: (nat_lit 130,o130_4 P) :: (nat_lit 132,o132_4 P) :: (nat_lit 134,o134_4 P) :: (nat_lit 135,o135_4 P) :: (nat_lit 136,o136_4 P) :: (nat_lit 139,o139_4 P) :: (nat_lit 141,o141_4 P) :: (nat_lit 142,o142_4 P) :: (nat_lit 144,o144_4 P) :: (nat_lit 145,o145_4 P) :: (nat_lit 153,o153_5 P) :: (nat_lit 154,o154_5 P) :: (nat_lit 156,o156_5 P) :: (nat_lit 157,o157_5 P) :: (nat_lit 159,o159_5 P) :: (nat_lit 160,o160_5 P) :: (nat_lit 161,o161_5 P) :: (nat_lit 163,o163_5 P) :: (nat_lit 164,o164_5 P) :: (nat_lit 166,o166_5 P) :: (nat_lit 167,o167_5 P) :: (nat_lit 168,o168_5 P) :: (nat_lit 170,o170_5 P) :: (nat_lit 171,o171_5 P) :: (nat_lit 173,o173_5 P) :: (nat_lit 174,o174_5 P) :: (nat_lit 175,o175_5 P) :: (nat_lit 177,o177_5 P) :: (nat_lit 178,o178_5 P) :: (nat_lit 180,o180_5 P) :: (nat_lit 181,o181_5 P) :: (nat_lit 182,o182_5 P) :: (nat_lit 184,o184_5 P) :: (nat_lit 185,o185_5 P) :: (nat_lit 187,o187_5 P) :: (nat_lit 188,o188_5 P) :: (nat_lit 189,o189_5 P) :: (nat_lit 190,o190_5 P) :: (nat_lit 192,o192_5 P) :: (nat_lit 193,o193_5 P) :: (nat_lit 195,o195_5 P) :: (nat_lit 196,o196_5 P) :: (nat_lit 197,o197_5 P) :: (nat_lit 199,o199_5 P) :: (nat_lit 200,o200_5 P) :: (nat_lit 202,o202_5 P) :: (nat_lit 203,o203_5 P) :: (nat_lit 204,o204_5 P) :: (nat_lit 206,o206_5 P) :: (nat_lit 207,o207_5 P) :: (nat_lit 209,o209_5 P) :: (nat_lit 210,o210_5 P) :: (nat_lit 211,o211_5 P) :: (nat_lit 212,o212_5 P) :: (nat_lit 214,o214_5 P) :: (nat_lit 215,o215_5 P) :: (nat_lit 217,o217_5 P) :: (nat_lit 218,o218_5 P) :: (nat_lit 219,o219_5 P) :: (nat_lit 221,o221_5 P) :: (nat_lit 222,o222_5 P) :: (nat_lit 224,o224_5 P) :: (nat_lit 225,o225_5 P) :: (nat_lit 226,o226_5 P) :: (nat_lit 228,o228_5 P) :: (nat_lit 229,o229_5 P) :: (nat_lit 231,o231_5 P) :: (nat_lit 232,o232_5 P) :: (nat_lit 233,o233_5 P) :: (nat_lit 235,o235_5 P) :: (nat_lit 236,o236_5 P) :: (nat_lit 238,o238_5 P) :: (nat_lit 239,o239_5 P) :: (nat_lit 240,o240_5 P) :: (nat_lit 241,o241_5 P) :: (nat_lit 242,o242_5 P) :: (nat_lit 243,o243_5 P) :: (nat_lit 244,o244_5 P) :: (nat_lit 254,o254_15 P) :: (nat_lit 263,o263_32 P) :: (nat_lit 265,o265_32 P) :: (nat_lit 266,o266_32 P) :: (nat_lit 268,o268_32 P) :: (nat_lit 269,o269_32 P) :: (nat_lit 270,o270_32 P) :: (nat_lit 271,o271_32 P) :: (nat_lit 273,o273_32 P) :: (nat_lit 274,o274_32 P) :: (nat_lit 276,o276_32 P) :: (nat_lit 277,o277_32 P) :: (nat_lit 283,o283_32 P) :: (nat_lit 285,o285_32 P) :: (nat_lit 286,o286_32 P) :: (nat_lit 288,o288_32 P) :: (nat_lit 289,o289_32 P) :: (nat_lit 290,o290_32 P) :: (nat_lit 292,o292_32 P) :: (nat_lit 293,o293_32 P) :: (nat_lit 295,o295_32 P) :: (nat_lit 296,o296_32 P) :: (nat_lit 297,o297_32 P) :: (nat_lit 299,o299_32 P) :: (nat_lit 300,o300_32 P) :: (nat_lit 302,o302_32 P) :: (nat_lit 303,o303_32 P) :: (nat_lit 304,o304_32 P) :: (nat_lit 306,o306_32 P) :: (nat_lit 307,o307_32 P) :: (nat_lit 309,o309_32 P) :: (nat_lit 310,o310_32 P) :: (nat_lit 311,o311_32 P) :: (nat_lit 314,o314_32 P) :: (nat_lit 315,o315_32 P) :: (nat_lit 316,o316_32 P) :: (nat_lit 319,o319_32 P) :: (nat_lit 320,o320_32 P) :: (nat_lit 321,o321_32 P) :: (nat_lit 324,o324_32 P) :: (nat_lit 325,o325_32 P) :: (nat_lit 326,o326_32 P) :: (nat_lit 328,o328_32 P) :: (nat_lit 329,o329_32 P) :: (nat_lit 331,o331_32 P) :: (nat_lit 332,o332_32 P) :: (nat_lit 333,o333_32 P) :: (nat_lit 335,o335_32 P) :: (nat_lit 336,o336_32 P) :: (nat_lit 338,o338_32 P) :: (nat_lit 339,o339_32 P) :: (nat_lit 340,o340_32 P) :: (nat_lit 343,o343_32 P) :: (nat_lit 344,o344_32 P) :: []
theorem in_nil (h:Heap) : Frag.In [] h := fun a o e=>by cases e
theorem in_cons {a:Addr} {o:Obj} {K:Frag} {h:Heap} (e:h.get? a = some o) (x:K.In h) : Frag.In ((a,o) :: K) h := fun b p q=>by
  rw [List.lookup_cons] at q
  split at q
  · rename_i z
    cases q
    rw [beq_iff_eq.mp z]
    exact e
  · exact x b p q
theorem in_app {K K':Frag} {h:Heap} (x:K.In h) (y:K'.In h) : Frag.In (K ++ K') h := fun a o e=>by
  rw [List.lookup_append] at e
  cases q : K.lookup a with
  | some o'=>rw [q] at e; cases e; exact x a _ q
  | none=>rw [q] at e; exact y a o e
noncomputable def K0 (P:Params) : Frag := [(nat_lit 2,o2_B P),(nat_lit 3,o3_32 P),(nat_lit 15,o15_4 P),(nat_lit 17,o17_4 P),(nat_lit 18,o18_4 P),(nat_lit 20,o20_4 P),(nat_lit 21,o21_4 P),(nat_lit 29,o29_4 P),(nat_lit 31,o31_4 P),(nat_lit 32,o32_4 P),(nat_lit 34,o34_4 P),(nat_lit 35,o35_4 P),(nat_lit 36,o36_4 P),(nat_lit 37,o37_4 P),(nat_lit 39,o39_4 P),(nat_lit 40,o40_4 P),(nat_lit 42,o42_4 P),(nat_lit 43,o43_4 P),(nat_lit 44,o44_4 P),(nat_lit 46,o46_4 P),(nat_lit 47,o47_4 P),(nat_lit 49,o49_4 P),(nat_lit 50,o50_4 P),(nat_lit 51,o51_4 P),(nat_lit 53,o53_4 P),(nat_lit 54,o54_4 P),(nat_lit 56,o56_4 P),(nat_lit 57,o57_4 P),(nat_lit 58,o58_4 P),(nat_lit 59,o59_4 P)]
theorem kin0 (P:Params) : (K0 P).In (H32 P) := in_cons rfl (in_cons rfl (in_cons rfl (in_cons rfl (in_cons rfl (in_cons rfl (in_cons rfl (in_cons rfl (in_cons rfl (in_cons rfl (in_cons rfl (in_cons rfl (in_cons rfl (in_cons rfl (in_cons rfl (in_cons rfl (in_cons rfl (in_cons rfl (in_cons rfl (in_cons rfl (in_cons rfl (in_cons rfl (in_cons rfl (in_cons rfl (in_cons rfl (in_cons rfl (in_cons rfl (in_cons rfl (in_cons rfl (in_cons rfl (in_nil _))))))))))))))))))))))))))))))
noncomputable def K1 (P:Params) : Frag := [(nat_lit 60,o60_4 P),(nat_lit 61,o61_4 P),(nat_lit 62,o62_4 P),(nat_lit 65,o65_4 P),(nat_lit 68,o68_4 P),(nat_lit 73,o73_4 P),(nat_lit 74,o74_4 P),(nat_lit 75,o75_4 P),(nat_lit 76,o76_4 P),(nat_lit 78,o78_4 P),(nat_lit 79,o79_4 P),(nat_lit 81,o81_4 P),(nat_lit 82,o82_4 P),(nat_lit 83,o83_4 P),(nat_lit 85,o85_4 P),(nat_lit 86,o86_4 P),(nat_lit 88,o88_4 P),(nat_lit 89,o89_4 P),(nat_lit 90,o90_4 P),(nat_lit 91,o91_4 P),(nat_lit 92,o92_4 P),(nat_lit 93,o93_4 P),(nat_lit 94,o94_4 P),(nat_lit 96,o96_4 P),(nat_lit 97,o97_4 P),(nat_lit 99,o99_4 P),(nat_lit 100,o100_4 P),(nat_lit 101,o101_4 P),(nat_lit 103,o103_4 P),(nat_lit 104,o104_4 P)]
theorem kin1 (P:Params) : (K1 P).In (H32 P) := in_cons rfl (in_cons rfl (in_cons rfl (in_cons rfl (in_cons rfl (in_cons rfl (in_cons rfl (in_cons rfl (in_cons rfl (in_cons rfl (in_cons rfl (in_cons rfl (in_cons rfl (in_cons rfl (in_cons rfl (in_cons rfl (in_cons rfl (in_cons rfl (in_cons rfl (in_cons rfl (in_cons rfl (in_cons rfl (in_cons rfl (in_cons rfl (in_cons rfl (in_cons rfl (in_cons rfl (in_cons rfl (in_cons rfl (in_cons rfl (in_nil _))))))))))))))))))))))))))))))
noncomputable def K2 (P:Params) : Frag := [(nat_lit 106,o106_4 P),(nat_lit 107,o107_4 P),(nat_lit 108,o108_4 P),(nat_lit 110,o110_4 P),(nat_lit 111,o111_4 P),(nat_lit 113,o113_4 P),(nat_lit 114,o114_4 P),(nat_lit 115,o115_4 P),(nat_lit 117,o117_4 P),(nat_lit 118,o118_4 P),(nat_lit 120,o120_4 P),(nat_lit 121,o121_4 P),(nat_lit 122,o122_4 P),(nat_lit 123,o123_4 P),(nat_lit 124,o124_4 P),(nat_lit 126,o126_4 P),(nat_lit 127,o127_4 P),(nat_lit 129,o129_4 P),(nat_lit 130,o130_4 P),(nat_lit 132,o132_4 P),(nat_lit 134,o134_4 P),(nat_lit 135,o135_4 P),(nat_lit 136,o136_4 P),(nat_lit 139,o139_4 P),(nat_lit 141,o141_4 P),(nat_lit 142,o142_4 P),(nat_lit 144,o144_4 P),(nat_lit 145,o145_4 P),(nat_lit 153,o153_5 P),(nat_lit 154,o154_5 P)]
theorem kin2 (P:Params) : (K2 P).In (H32 P) := in_cons rfl (in_cons rfl (in_cons rfl (in_cons rfl (in_cons rfl (in_cons rfl (in_cons rfl (in_cons rfl (in_cons rfl (in_cons rfl (in_cons rfl (in_cons rfl (in_cons rfl (in_cons rfl (in_cons rfl (in_cons rfl (in_cons rfl (in_cons rfl (in_cons rfl (in_cons rfl (in_cons rfl (in_cons rfl (in_cons rfl (in_cons rfl (in_cons rfl (in_cons rfl (in_cons rfl (in_cons rfl (in_cons rfl (in_cons rfl (in_nil _))))))))))))))))))))))))))))))
noncomputable def K3 (P:Params) : Frag := [(nat_lit 156,o156_5 P),(nat_lit 157,o157_5 P),(nat_lit 159,o159_5 P),(nat_lit 160,o160_5 P),(nat_lit 161,o161_5 P),(nat_lit 163,o163_5 P),(nat_lit 164,o164_5 P),(nat_lit 166,o166_5 P),(nat_lit 167,o167_5 P),(nat_lit 168,o168_5 P),(nat_lit 170,o170_5 P),(nat_lit 171,o171_5 P),(nat_lit 173,o173_5 P),(nat_lit 174,o174_5 P),(nat_lit 175,o175_5 P),(nat_lit 177,o177_5 P),(nat_lit 178,o178_5 P),(nat_lit 180,o180_5 P),(nat_lit 181,o181_5 P),(nat_lit 182,o182_5 P),(nat_lit 184,o184_5 P),(nat_lit 185,o185_5 P),(nat_lit 187,o187_5 P),(nat_lit 188,o188_5 P),(nat_lit 189,o189_5 P),(nat_lit 190,o190_5 P),(nat_lit 192,o192_5 P),(nat_lit 193,o193_5 P),(nat_lit 195,o195_5 P),(nat_lit 196,o196_5 P)]
theorem kin3 (P:Params) : (K3 P).In (H32 P) := in_cons rfl (in_cons rfl (in_cons rfl (in_cons rfl (in_cons rfl (in_cons rfl (in_cons rfl (in_cons rfl (in_cons rfl (in_cons rfl (in_cons rfl (in_cons rfl (in_cons rfl (in_cons rfl (in_cons rfl (in_cons rfl (in_cons rfl (in_cons rfl (in_cons rfl (in_cons rfl (in_cons rfl (in_cons rfl (in_cons rfl (in_cons rfl (in_cons rfl (in_cons rfl (in_cons rfl (in_cons rfl (in_cons rfl (in_cons rfl (in_nil _))))))))))))))))))))))))))))))
noncomputable def K4 (P:Params) : Frag := [(nat_lit 197,o197_5 P),(nat_lit 199,o199_5 P),(nat_lit 200,o200_5 P),(nat_lit 202,o202_5 P),(nat_lit 203,o203_5 P),(nat_lit 204,o204_5 P),(nat_lit 206,o206_5 P),(nat_lit 207,o207_5 P),(nat_lit 209,o209_5 P),(nat_lit 210,o210_5 P),(nat_lit 211,o211_5 P),(nat_lit 212,o212_5 P),(nat_lit 214,o214_5 P),(nat_lit 215,o215_5 P),(nat_lit 217,o217_5 P),(nat_lit 218,o218_5 P),(nat_lit 219,o219_5 P),(nat_lit 221,o221_5 P),(nat_lit 222,o222_5 P),(nat_lit 224,o224_5 P),(nat_lit 225,o225_5 P),(nat_lit 226,o226_5 P),(nat_lit 228,o228_5 P),(nat_lit 229,o229_5 P),(nat_lit 231,o231_5 P),(nat_lit 232,o232_5 P),(nat_lit 233,o233_5 P),(nat_lit 235,o235_5 P),(nat_lit 236,o236_5 P),(nat_lit 238,o238_5 P)]
theorem kin4 (P:Params) : (K4 P).In (H32 P) := in_cons rfl (in_cons rfl (in_cons rfl (in_cons rfl (in_cons rfl (in_cons rfl (in_cons rfl (in_cons rfl (in_cons rfl (in_cons rfl (in_cons rfl (in_cons rfl (in_cons rfl (in_cons rfl (in_cons rfl (in_cons rfl (in_cons rfl (in_cons rfl (in_cons rfl (in_cons rfl (in_cons rfl (in_cons rfl (in_cons rfl (in_cons rfl (in_cons rfl (in_cons rfl (in_cons rfl (in_cons rfl (in_cons rfl (in_cons rfl (in_nil _))))))))))))))))))))))))))))))
noncomputable def K5 (P:Params) : Frag := [(nat_lit 239,o239_5 P),(nat_lit 240,o240_5 P),(nat_lit 241,o241_5 P),(nat_lit 242,o242_5 P),(nat_lit 243,o243_5 P),(nat_lit 244,o244_5 P),(nat_lit 254,o254_15 P),(nat_lit 263,o263_32 P),(nat_lit 265,o265_32 P),(nat_lit 266,o266_32 P),(nat_lit 268,o268_32 P),(nat_lit 269,o269_32 P),(nat_lit 270,o270_32 P),(nat_lit 271,o271_32 P),(nat_lit 273,o273_32 P),(nat_lit 274,o274_32 P),(nat_lit 276,o276_32 P),(nat_lit 277,o277_32 P),(nat_lit 283,o283_32 P),(nat_lit 285,o285_32 P),(nat_lit 286,o286_32 P),(nat_lit 288,o288_32 P),(nat_lit 289,o289_32 P),(nat_lit 290,o290_32 P),(nat_lit 292,o292_32 P),(nat_lit 293,o293_32 P),(nat_lit 295,o295_32 P),(nat_lit 296,o296_32 P),(nat_lit 297,o297_32 P),(nat_lit 299,o299_32 P)]
theorem kin5 (P:Params) : (K5 P).In (H32 P) := in_cons rfl (in_cons rfl (in_cons rfl (in_cons rfl (in_cons rfl (in_cons rfl (in_cons rfl (in_cons rfl (in_cons rfl (in_cons rfl (in_cons rfl (in_cons rfl (in_cons rfl (in_cons rfl (in_cons rfl (in_cons rfl (in_cons rfl (in_cons rfl (in_cons rfl (in_cons rfl (in_cons rfl (in_cons rfl (in_cons rfl (in_cons rfl (in_cons rfl (in_cons rfl (in_cons rfl (in_cons rfl (in_cons rfl (in_cons rfl (in_nil _))))))))))))))))))))))))))))))
noncomputable def K6 (P:Params) : Frag := [(nat_lit 300,o300_32 P),(nat_lit 302,o302_32 P),(nat_lit 303,o303_32 P),(nat_lit 304,o304_32 P),(nat_lit 306,o306_32 P),(nat_lit 307,o307_32 P),(nat_lit 309,o309_32 P),(nat_lit 310,o310_32 P),(nat_lit 311,o311_32 P),(nat_lit 314,o314_32 P),(nat_lit 315,o315_32 P),(nat_lit 316,o316_32 P),(nat_lit 319,o319_32 P),(nat_lit 320,o320_32 P),(nat_lit 321,o321_32 P),(nat_lit 324,o324_32 P),(nat_lit 325,o325_32 P),(nat_lit 326,o326_32 P),(nat_lit 328,o328_32 P),(nat_lit 329,o329_32 P),(nat_lit 331,o331_32 P),(nat_lit 332,o332_32 P),(nat_lit 333,o333_32 P),(nat_lit 335,o335_32 P),(nat_lit 336,o336_32 P),(nat_lit 338,o338_32 P),(nat_lit 339,o339_32 P),(nat_lit 340,o340_32 P),(nat_lit 343,o343_32 P),(nat_lit 344,o344_32 P)]
theorem kin6 (P:Params) : (K6 P).In (H32 P) := in_cons rfl (in_cons rfl (in_cons rfl (in_cons rfl (in_cons rfl (in_cons rfl (in_cons rfl (in_cons rfl (in_cons rfl (in_cons rfl (in_cons rfl (in_cons rfl (in_cons rfl (in_cons rfl (in_cons rfl (in_cons rfl (in_cons rfl (in_cons rfl (in_cons rfl (in_cons rfl (in_cons rfl (in_cons rfl (in_cons rfl (in_cons rfl (in_cons rfl (in_cons rfl (in_cons rfl (in_cons rfl (in_cons rfl (in_cons rfl (in_nil _))))))))))))))))))))))))))))))
theorem KM_eq (P:Params) : KM P = K0 P ++ (K1 P ++ (K2 P ++ (K3 P ++ (K4 P ++ (K5 P ++ (K6 P)))))) := rfl
theorem kin (P:Params) : (KM P).In (H32 P) := by rw [KM_eq]; exact in_app (kin0 P) (in_app (kin1 P) (in_app (kin2 P) (in_app (kin3 P) (in_app (kin4 P) (in_app (kin5 P) (kin6 P))))))
noncomputable def HM : Hook := ⟨Heap,fun s=>s.heap,fun w=>H32 w.params,fun w h=>(KM w.params).In h,fun w s e=>by show (KM w.params).In s.heap; rw [e]; exact kin _,fun _ _ _ x k=>Frag.In.keeps x k⟩
noncomputable def modsM : List Str := importedModules pw.main.body
noncomputable def recM : WRecords := []
noncomputable def XtM : Shared → Bool := fun s=>xlAt qv [] s && recOk recM s
noncomputable def sF (w:World) (os:OsState) : Shared := ⟨H32 w.params,⟨[]⟩,{},2241,os⟩
theorem ns_eq : @Heap.nsMap = PySem.W.Fast.tw8920871248978507458 := PySem.W.Fast.te8920871248978507458
theorem esz (w:World) : ((boot_heap w.params).isNs mainGlobals && (⟨[]⟩ : Array GenState).size == 0,(boot_heap w.params).objs.size,(boot_heap w.params).nsMap mainGlobals (PySem.Str.ofString "__annotations__")) = ((true,11,annM) : Bool × Nat × Option Value) := by
  rw [ns_eq]
  kernel_rfl
theorem ek0 (w:World) (os:OsState) : (staticsOk modsM (boot_heap w.params) (H32 w.params) && namesBound pw (H32 w.params) && gensDone (sF w os) && laidKept (boot_heap w.params) (H32 w.params)) = true := by
  unfold staticsOk namesBound gensDone laidKept
  rw [ns_eq,PySem.W.Fast.te1584917186373303978,PySem.W.Fast.te14846217769314788766,PySem.W.Fast.te12749700546528644094,PySem.W.Fast.te18344453789297297638,PySem.W.Fast.te4857012375875476094]
  kernel_rfl
noncomputable abbrev oS := @PySem.W.Fast.tw4187177175401517315
theorem oS_eq : @openSeen = oS := PySem.W.Fast.te4187177175401517315
theorem ekA (w:World) (os:OsState) : openSeen qv looseM modsM XtM true (sF w os) = openGood qv looseM := by
  rw [oS_eq]
  kernel_rfl
theorem ebt (w:World) : ((importEnds treeTable (opening pw) w 600 (start (opening pw)).1 (start (opening pw)).2).map fun s=>(s.heap,s.gens,s.drawn,s.toks)) = some (boot_heap w.params,(⟨[]⟩ : Array GenState),boot_drawn,boot_toks) := by
  rw [PySem.W.Fast.te10274390034422433532,tT_eq,PySem.W.Fast.te1435165496053646825]
  kernel_rfl
theorem fen : ∀ s,fenceModules? pw s = some s := fun s=>by kernel_rfl
theorem opn (w:World) : (fencedOpening treeTable pw w 39488).map (fun s=>(s.heap,s.gens,s.drawn,s.toks)) = some (boot_heap w.params,(⟨[]⟩ : Array GenState),boot_drawn,boot_toks) := by
  obtain ⟨s,hs,hv⟩ := Option.map_eq_some_iff.mp (ebt w)
  have m := importEnds_mono (39488 - 600) _ _ _ _ hs
  unfold fencedOpening
  rw [m]
  show ((fenceModules? pw s)).map _ = _
  rw [fen s]
  exact congrArg some hv
theorem left : LeftO pw qv looseM XtM HM.obs HM.val 39488 := by
  refine LeftO.of_pieces (H₀ := boot_heap) (H₁ := H32) (gs₀ := ⟨[]⟩) (gs₁ := ⟨[]⟩) (d₀ := boot_drawn) (d₁ := {}) (k₀ := boot_toks) (k₁ := 2241) (m₀ := 11) (ann := annM) (M := steps)
    opn (fun w=>esz w) run (by decide) fun w=>?_
  funext os
  have h0 := ek0 w os
  exact Prod.ext h0 (Prod.ext (ekA w os) rfl)
open PySem.Calls
abbrev rowM : OpenRow := (PySem.Challenge.rw_pd0125_01).row
abbrev lawN : Str := PySem.Str.ofString "law"
noncomputable def dLaw : DefRec := ⟨lawN,fA (cell 32),fB (cell 32),fS (cell 32),⟨570,0,588,82⟩⟩
theorem hdef : defOf qv lawN = some (dLaw,[]) := by kernel_rfl
theorem hthe : pw.theDef lawN = some (dLaw.params,dLaw.body,dLaw.scope) := by kernel_rfl
theorem hkw : kwWritten? dLaw.params.kwonlyargs dLaw.params.kw_defaults = some [] := by kernel_rfl
abbrev WalkM : Prop := WalkO qv looseM (XL qv []) HM.says rowM.toRowW dLaw [] fun f vs=>PySem.call f vs
theorem wsaid : OpenLaw.wellSaid PySem.Challenge.rw_pd0125_01 = true := by
  rw [PySem.W.Fast.te9446332074065402090]
  kernel_rfl
theorem hd (walk:WalkM) : PySem.Challenge.rw_pd0125_01.Holds := by
  w_on
  refine holds_law wsaid fun said=>?_
  refine holds_open (r := rowM) (q := qv) (loose := looseM) (Xt := XtM) (XP := XL qv []) (Yf := HM.obs) (Ya := HM.val) (YP := HM.says) (d := dLaw) (kwd := []) (N := 39488) left HM.of HM.keeps
    (fun s e=>xl_of s (Bool.and_eq_true_iff.mp e).1) XL.keeps hdef hthe hkw (fun s e=>recFacts_of (Bool.and_eq_true_iff.mp e).2) rfl (by assumption) (by decide +kernel) ⟨rfl,rfl,rfl,rfl,rfl,by decide +kernel⟩ ?hw walk
  case hw=>w_witness2
theorem fillW (P:Params) : (KM P,PySem.Challenge.rw_pd0125_01) = (KM P,PySem.Challenge.rw_pd0125_01) := by k_fill; rfl
section
noncomputable abbrev prg : Program := PySem.Challenge.rw_pd0125_01.prog
theorem pickE {α:Type} (i:Nonempty α) (p:α → Prop) : ∃ t,p t → ∀ t,p t := by
  by_cases h : ∀ t,p t
  · obtain ⟨t⟩ := i; exact ⟨t,fun _=>h⟩
  · obtain ⟨t,ht⟩ := Classical.not_forall.mp h; exact ⟨t,fun x=>absurd x ht⟩
noncomputable def pick1 {α:Type} (i:Nonempty α) (p:α → Prop) : {t:α // p t → ∀ t,p t} := Classical.indefiniteDescription _ (pickE i p)
noncomputable def un {α β γ:Type} (p:α → β → γ) : α × β → γ := fun t=>p t.1 t.2
theorem neA : Nonempty Around := ⟨{}⟩
theorem wNe : Nonempty World := ⟨fun _ _=>0,{ strHash := fun _=>0,shareClass := fun _=>0,mergeTok := id,idOf := fun _=>0,idOfShared := fun _ _=>0,followText := fun _=>false,idOfImm := fun _=>0 }⟩
noncomputable def pickF {α:Type} (i:Nonempty α) {p:α → Prop} {T:Prop} (f:(∀ a,p a) → T) : {t:α // p t → T} := ⟨(pick1 i p).1,fun x=>f ((pick1 i p).2 x)⟩
noncomputable def wS := pickF (T := WalkM) wNe fun h=>h
noncomputable def w : World := wS.1
abbrev Pt := Addr → Option Obj
abbrev OP := Obj → Prop
noncomputable def At (G:Pt) (a:Addr) (P:OP) : Prop := ∃ o,G a = some o ∧ P o
noncomputable def Sub (G G':Pt) : Prop := ∀ a o,G a = some o → G' a = some o
theorem Sub.rfl {G:Pt} : Sub G G := fun _ _ e=>e
theorem Sub.trans {G G' G'':Pt} (x:Sub G G') (y:Sub G' G'') : Sub G G'' := fun a o e=>y a o (x a o e)
theorem At.up {G G':Pt} {a:Addr} {P:OP} (x:At G a P) (s:Sub G G') : At G' a P := let ⟨o,e,p⟩ := x; ⟨o,s a o e,p⟩
theorem At.imp {G:Pt} {a:Addr} {P P':OP} (x:At G a P) (s:∀ o,P o → P' o) : At G a P' := let ⟨o,e,p⟩ := x; ⟨o,e,s o p⟩
noncomputable def LO (vs:List Value) : OP := fun o=>∃ n,o = { cls := .type "list",data := .seq vs.toArray n }
noncomputable def TO (vs:List Value) : OP := fun o=>∃ n,o = { cls := .type "tuple",data := .seq vs.toArray n }
theorem LO.plain {h:Heap} {a:Addr} {vs:List Value} (x:At h.get? a (LO vs)) : h.PlainList a vs.toArray := let ⟨o,e,n,p⟩ := x; ⟨n,p ▸ e⟩
theorem LO.of {h:Heap} {a:Addr} {vs:Array Value} (x:h.PlainList a vs) : At h.get? a (LO vs.toList) := let ⟨n,e⟩ := x; ⟨_,e,n,by simp⟩
theorem LO.isList {h:Heap} {a:Addr} {vs:List Value} (x:At h.get? a (LO vs)) : h.IsList a vs.toArray := (LO.plain x).isList
theorem TO.isTup {h:Heap} {a:Addr} {vs:List Value} (x:At h.get? a (TO vs)) : IsTup h a vs.toArray := let ⟨o,e,n,p⟩ := x; ⟨o,e,by rw [p],n,by rw [p]⟩
theorem TO.isTuple {h:Heap} {a:Addr} {vs:List Value} (x:At h.get? a (TO vs)) : h.IsTuple a vs.toArray := let ⟨o,e,n,p⟩ := x; ⟨o,e,by rw [p],n,by rw [p]⟩
noncomputable def CO (v:Option Value) : OP := fun o=>o.data = .cell v
section
variable (A:Around)
noncomputable def WP {α:Type} (t:Sem α) (Q:α → Heap → Prop) (h:Heap) : Prop :=
  ∀ (s:Shared) (tk:Nat),wpAny (model prg w) A t (fun a s'=>∃ h' tk',s' = { s with heap := h',toks := tk' } ∧ Q a h') (fun _ _=>False) { s with heap := h,toks := tk }
end
section
variable {A:Around} {α β:Type} {h:Heap}
theorem WP.go {t:Sem α} {Q:α → Heap → Prop} {h:Heap} (x:WP A t Q h) {s:Shared} {tk:Nat} {E:Value → Shared → Prop} {Q':α → Shared → Prop}
    (k:∀ a h' tk',Q a h' → Q' a { s with heap := h',toks := tk' }) : wpAny (model prg w) A t Q' E { s with heap := h,toks := tk } :=
  wpAny_mono (x s tk) (fun a s' ⟨h',tk',e,q⟩=>e ▸ k a h' tk' q) fun _ _ f=>f.elim
theorem WP_pure {a:α} {Q:α → Heap → Prop} (q:Q a h) : WP A (pure a:Sem α) Q h := fun s tk=>wpAny_pure ⟨h,tk,rfl,q⟩
theorem WP_bind {m:Sem α} {f:α → Sem β} {Q:β → Heap → Prop} (x:WP A m (fun a h'=>WP A (f a) Q h') h) : WP A (m >>= f) Q h :=
  fun s tk=>wpAny_bind (x.go fun a h' tk' q=>q s tk')
theorem WP.mono {t:Sem α} {Q Q':α → Heap → Prop} (x:WP A t Q h) (k:∀ a h',Q a h' → Q' a h') : WP A t Q' h :=
  fun s tk=>x.go fun a h' tk' q=>⟨h',tk',rfl,k a h' q⟩
theorem WP_holding {vs:List Value} {t:Sem α} {Q:α → Heap → Prop} (x:WP A t Q h) : WP A (holding vs t) Q h := fun s tk=>wpAny_holding (x s tk)
theorem WP_standAt {p:Pos} {Q:Unit → Heap → Prop} (q:Q () h) : WP A (standAt p) Q h := fun s tk=>wpAny_standAt ⟨h,tk,rfl,q⟩
theorem WP_rule {p:String} {Q:Unit → Heap → Prop} (q:Q () h) : WP A (rule p) Q h := fun s tk=>wpAny_rule ⟨h,tk,rfl,q⟩
theorem WP_operate {vs:List Value} {t:Sem Value} {Q:Value → Heap → Prop} (x:WP A t Q h) : WP A (operate vs t) Q h := fun s tk=>wpAny_operateT (x s tk)
theorem WP_release {vs ks:List Value} {Q:Unit → Heap → Prop} (q:Q () h) : WP A (release vs ks) Q h := fun s tk=>wpAny_release ⟨h,tk,rfl,q⟩
theorem WP_of_eq {t t':Sem α} {Q:α → Heap → Prop} (e:t = t') (x:WP A t' Q h) : WP A t Q h := e ▸ x
theorem WP_lib {t:Sem α} {Q:α → Heap → Prop}
    (x:∀ s : Shared,s.heap = h → wpAny (model prg w) A t (fun a s'=>∃ h' tk',s' = { s with heap := h',toks := tk' } ∧ Q a h') (fun _ _=>False) s) : WP A t Q h :=
  fun s tk=>wpAny_mono (x { s with heap := h,toks := tk } rfl) (fun a s' ⟨h',tk',e,q⟩=>⟨h',tk',e,q⟩) fun _ _ f=>f
theorem WP_load {a:Addr} {o:Obj} {Q:Obj → Heap → Prop} (e:h.get? a = some o) (q:Q o h) : WP A (load a) Q h := fun s tk=>wpAny_load e ⟨h,tk,rfl,q⟩
end
inductive E2 {α β:Type} (p:α → β → Prop) : Prop where
  | mk (a:α) (b:β) (h:p a b) : E2 p
inductive E3 {α β γ:Type} (p:α → β → γ → Prop) : Prop where
  | mk (a:α) (b:β) (c:γ) (h:p a b c) : E3 p
inductive E4 {α β γ δ:Type} (p:α → β → γ → δ → Prop) : Prop where
  | mk (a:α) (b:β) (c:γ) (d:δ) (h:p a b c d) : E4 p
inductive E5 {α β γ δ ε:Type} (p:α → β → γ → δ → ε → Prop) : Prop where
  | mk (a:α) (b:β) (c:γ) (d:δ) (e:ε) (h:p a b c d e) : E5 p
inductive E6 {α β γ δ ε ζ:Type} (p:α → β → γ → δ → ε → ζ → Prop) : Prop where
  | mk (a:α) (b:β) (c:γ) (d:δ) (e:ε) (f:ζ) (h:p a b c d e f) : E6 p
inductive C3 (a b c:Prop) : Prop where
  | mk (x:a) (y:b) (z:c) : C3 a b c
inductive C4 (a b c d:Prop) : Prop where
  | mk (x:a) (y:b) (z:c) (u:d) : C4 a b c d
inductive C5 (a b c d e:Prop) : Prop where
  | mk (x:a) (y:b) (z:c) (u:d) (v:e) : C5 a b c d e
@[reducible] noncomputable def nth {α:Type} : List α → Nat → Option α
  | [],_=>none
  | a :: _,0=>some a
  | _ :: l,n + 1=>nth l n
@[reducible] noncomputable def setAt {α:Type} : List α → Nat → α → List α
  | [],_,_=>[]
  | _ :: l,0,b=>b :: l
  | a :: l,n + 1,b=>a :: setAt l n b
theorem memI {α:Type} {p:α} : ∀ {L:List α} (i:Nat),nth L i = some p → p ∈ L
  | [],_,h=>nomatch h
  | _ :: _,0,h=>Option.some.inj h ▸ List.mem_cons_self
  | _ :: _,n + 1,h=>List.mem_cons_of_mem _ (memI n h)
@[reducible] noncomputable def tl {α:Type} : List α → List α
  | []=>[]
  | _ :: l=>l
@[reducible] noncomputable def tl8 {α:Type} (l:List α) : List α := tl (tl (tl (tl (tl (tl (tl (tl l)))))))
@[reducible] noncomputable def ne {α:Type} : List α → Bool
  | []=>false
  | _ :: _=>true
theorem midOk {l r f:Nat} (h:l < r) (hf:r - l ≤ f + 1) : l ≤ (l + r) / 2 ∧ (l + r) / 2 < r ∧ (l + r) / 2 - l ≤ f ∧ r - ((l + r) / 2 + 1) ≤ f := by omega
theorem small62 {n:Nat} (h:n ≤ 1000) : -(2 ^ 62) ≤ (n:Int) ∧ (n:Int) < 2 ^ 62 := by omega
theorem mem_tl {α:Type} {p:α} : ∀ {L:List α},p ∈ tl L → p ∈ L
  | [],h=>h
  | _ :: _,h=>List.mem_cons_of_mem _ h
theorem memD {α:Type} {p:α} {L:List α} (_:ne (tl8 L) = true) (h:p ∈ tl8 L) : p ∈ L := mem_tl (mem_tl (mem_tl (mem_tl (mem_tl (mem_tl (mem_tl (mem_tl h)))))))
inductive Put (x:Str) (v:Value) : List (Str × Option Value) → List (Str × Option Value) → Prop where
  | head {u r} : Put x v ((x,u) :: r) ((x,some v) :: r)
  | tail {p r r'} : Put x v r r' → Put x v (p :: r) (p :: r')
theorem putI {x:Str} {v:Value} {u:Option Value} : ∀ {m:List (Str × Option Value)} (i:Nat),nth m i = some (x,u) → Put x v m (setAt m i (x,some v))
  | [],_,h=>nomatch h
  | _ :: _,0,h=>by obtain rfl := Option.some.inj h; exact .head
  | _ :: _,n + 1,h=>.tail (putI n h)
theorem Put.keys {x v m m'} (p:Put x v m m') : m'.map (·.1) = m.map (·.1) := by
  induction p with
  | head=>rfl
  | tail _ ih=>rw [List.map_cons,List.map_cons,ih]
theorem Put.has {x v m m'} (p:Put x v m m') : x ∈ m.map (·.1) := by
  induction p with
  | head=>simp
  | tail _ ih=>rw [List.map_cons]; exact List.mem_cons_of_mem _ ih
theorem Put.mem {x v m m'} (p:Put x v m m') (nd:(m.map (·.1)).Nodup) : ∀ q ∈ m',∀ u,q.2 = some u → (q.1 = x ∧ u = v) ∨ (q.1 ≠ x ∧ q ∈ m) := by
  induction p with
  | head =>
    intro q hq u hu
    rw [List.map_cons,List.nodup_cons] at nd
    rcases List.mem_cons.mp hq with rfl | hq
    · exact .inl ⟨rfl,(Option.some.inj hu).symm⟩
    · refine .inr ⟨fun e=>nd.1 (show x ∈ _ from e ▸ List.mem_map_of_mem hq),List.mem_cons_of_mem _ hq⟩
  | tail p ih =>
    intro q hq u hu
    rw [List.map_cons,List.nodup_cons] at nd
    rcases List.mem_cons.mp hq with rfl | hq
    · refine .inr ⟨fun e=>?_,List.mem_cons_self⟩
      exact nd.1 (e ▸ p.has)
    · rcases ih nd.2 q hq u hu with h | h
      · exact .inl h
      · exact .inr ⟨h.1,List.mem_cons_of_mem _ h.2⟩
inductive Upd (a:Addr) (P':OP) : List (Addr × OP) → List (Addr × OP) → Prop where
  | head {P r} : Upd a P' ((a,P) :: r) ((a,P') :: r)
  | tail {p r r'} : Upd a P' r r' → Upd a P' (p :: r) (p :: r')
theorem updI {a:Addr} {P P':OP} : ∀ {M:List (Addr × OP)} (i:Nat),nth M i = some (a,P) → Upd a P' M (setAt M i (a,P'))
  | [],_,h=>nomatch h
  | _ :: _,0,h=>by obtain rfl := Option.some.inj h; exact .head
  | _ :: _,n + 1,h=>.tail (updI n h)
theorem Upd.keys {x v m m'} (p:Upd x v m m') : m'.map (·.1) = m.map (·.1) := by
  induction p with
  | head=>rfl
  | tail _ ih=>rw [List.map_cons,List.map_cons,ih]
theorem Upd.has {x v m m'} (p:Upd x v m m') : x ∈ m.map (·.1) := by
  induction p with
  | head=>simp
  | tail _ ih=>rw [List.map_cons]; exact List.mem_cons_of_mem _ ih
theorem Upd.mem {x v m m'} (p:Upd x v m m') (nd:(m.map (·.1)).Nodup) : ∀ q ∈ m',(q = (x,v)) ∨ (q.1 ≠ x ∧ q ∈ m) := by
  induction p with
  | head =>
    intro q hq
    rw [List.map_cons,List.nodup_cons] at nd
    rcases List.mem_cons.mp hq with rfl | hq
    · exact .inl rfl
    · refine .inr ⟨fun e=>nd.1 (show x ∈ _ from e ▸ List.mem_map_of_mem hq),List.mem_cons_of_mem _ hq⟩
  | tail p ih =>
    intro q hq
    rw [List.map_cons,List.nodup_cons] at nd
    rcases List.mem_cons.mp hq with rfl | hq
    · exact .inr ⟨fun e=>nd.1 (e ▸ p.has),List.mem_cons_self⟩
    · rcases ih nd.2 q hq with h | h
      · exact .inl h
      · exact .inr ⟨h.1,List.mem_cons_of_mem _ h.2⟩
structure St (K:Pt) (n₀:Nat) (env:Env) (m:List (Str × Option Value)) (N:Pt) (M:List (Addr × OP)) (h:Heap) : Prop where
  fn : env.scope.kind = .function
  loc : ∀ p ∈ m,env.kindOf p.1 = some .local
  ndk : (m.map (·.1)).Nodup
  ns : ∃ mm,h.Ns env.locals mm ∧ ∀ p ∈ m,∀ v,p.2 = some v → mm p.1 = some v
  keep : Sub K h.get?
  per : Sub N h.get?
  led : ∀ p ∈ M,At h.get? p.1 p.2
  newL : n₀ ≤ env.locals
  newN : ∀ a o,N a = some o → n₀ ≤ a
  offK : K env.locals = none
  offN : N env.locals = none
  offMK : ∀ p ∈ M,K p.1 = none
  offMN : ∀ p ∈ M,N p.1 = none
  nd : (env.locals :: M.map (·.1)).Nodup
section
variable {K N:Pt} {n₀:Nat} {env:Env} {m m':List (Str × Option Value)} {M M':List (Addr × OP)} {h h':Heap}
abbrev Keep (h h':Heap) : Prop := ∀ b o,h.get? b = some o → h'.get? b = some o
theorem get?_size_none (h:Heap) : h.get? h.objs.size = none := by
  cases e : h.get? h.objs.size with
  | none=>rfl
  | some o=>exact absurd (Heap.lt_size e) (Nat.lt_irrefl _)
theorem get?_none_of_ge {h:Heap} {a:Addr} (ha:h.objs.size ≤ a) : h.get? a = none := by
  cases e : h.get? a with
  | none=>rfl
  | some o=>exact absurd (Heap.lt_size e) (Nat.not_lt.mpr ha)
theorem St.keeps (S:St K n₀ env m N M h) (k:Keep h h') : St K n₀ env m N M h' :=
  { S with
    ns := let ⟨mm,hn,e⟩ := S.ns; ⟨mm,hn.keeps k,e⟩
    keep := fun a o e=>k a o (S.keep a o e)
    per := fun a o e=>k a o (S.per a o e)
    led := fun p hp=>(S.led p hp).up k }
theorem St.le (S:St K n₀ env m N M h) : n₀ < h.objs.size := let ⟨_,hn,_⟩ := S.ns; Nat.lt_of_le_of_lt S.newL hn.lt
theorem St.isL (S:St K n₀ env m N M h) : ∃ o,h.get? env.locals = some o := let ⟨_,⟨o,_,_,ho,_⟩,_⟩ := S.ns; ⟨o,ho⟩
theorem St.new {a:Addr} {P:OP} (S:St K n₀ env m N M h) (k:Keep h h') (hn:h.get? a = none) (ha:At h'.get? a P) : St K n₀ env m N ((a,P) :: M) h' :=
  { S.keeps k with
    led := fun p hp=>by
      rcases List.mem_cons.mp hp with rfl | hp
      · exact ha
      · exact (S.led p hp).up k
    offMK := fun p hp=>by
      rcases List.mem_cons.mp hp with rfl | hp
      · cases e : K a with
        | none=>rfl
        | some o=>rw [S.keep a o e] at hn; cases hn
      · exact S.offMK p hp
    offMN := fun p hp=>by
      rcases List.mem_cons.mp hp with rfl | hp
      · cases e : N a with
        | none=>rfl
        | some o=>rw [S.per a o e] at hn; cases hn
      · exact S.offMN p hp
    nd := by
      have nd := S.nd
      rw [List.nodup_cons] at nd
      have h1 : a ≠ env.locals := by
        rintro rfl
        obtain ⟨o,ho⟩ := S.isL
        rw [ho] at hn; cases hn
      have h2 : a ∉ M.map (·.1) := fun hm=>by
        obtain ⟨p,hp,rfl⟩ := List.mem_map.mp hm
        obtain ⟨o,ho,_⟩ := S.led p hp
        rw [ho] at hn; cases hn
      rw [List.map_cons,List.nodup_cons,List.nodup_cons]
      exact ⟨fun hm=>(List.mem_cons.mp hm).elim (fun e=>h1 e.symm) nd.1,h2,nd.2⟩ }
theorem St.upd {a:Addr} {P':OP} (S:St K n₀ env m N M h) (u:Upd a P' M M') (k:Heap.ExtBut a h h') (ha:At h'.get? a P') : St K n₀ env m N M' h' := by
  have nd := S.nd
  rw [List.nodup_cons] at nd
  obtain ⟨p₀,hp₀,e₀⟩ := List.mem_map.mp u.has
  have hK : K a = none := e₀ ▸ S.offMK p₀ hp₀
  have hN : N a = none := e₀ ▸ S.offMN p₀ hp₀
  have hL : env.locals ≠ a := fun e=>nd.1 (e ▸ u.has)
  refine { S with ns := ?_,keep := ?_,per := ?_,led := ?_,offMK := ?_,offMN := ?_,nd := ?_ }
  · obtain ⟨mm,hn,e⟩ := S.ns
    exact ⟨mm,hn.extBut k hL,e⟩
  · exact fun b o e=>k b o (by rintro rfl; rw [hK] at e; cases e) (S.keep b o e)
  · exact fun b o e=>k b o (by rintro rfl; rw [hN] at e; cases e) (S.per b o e)
  · intro p hp
    rcases u.mem nd.2 p hp with rfl | ⟨hne,hp⟩
    · exact ha
    · obtain ⟨o,ho,q⟩ := S.led p hp
      exact ⟨o,k _ _ hne ho,q⟩
  · intro p hp
    rcases u.mem nd.2 p hp with rfl | ⟨_,hp⟩
    · exact hK
    · exact S.offMK p hp
  · intro p hp
    rcases u.mem nd.2 p hp with rfl | ⟨_,hp⟩
    · exact hN
    · exact S.offMN p hp
  · rw [u.keys,List.nodup_cons]; exact nd
theorem St.put {x:Str} {v:Value} {mm:Str → Option Value} (S:St K n₀ env m N M h) (hm:∀ p ∈ m,∀ v,p.2 = some v → mm p.1 = some v) (p:Put x v m m') (hn:h'.Ns env.locals (fun y=>if y = x then some v else mm y)) (k:Heap.SameBut env.locals h h') : St K n₀ env m' N M h' := by
  have nd := S.nd
  rw [List.nodup_cons] at nd
  refine { S with loc := ?_,ndk := ?_,ns := ⟨_,hn,?_⟩,keep := ?_,per := ?_,led := ?_ }
  · intro q hq
    have : q.1 ∈ m.map (·.1) := p.keys ▸ List.mem_map_of_mem hq
    obtain ⟨q',hq',e⟩ := List.mem_map.mp this
    rw [← e]; exact S.loc q' hq'
  · rw [p.keys]; exact S.ndk
  · intro q hq u hu
    rcases p.mem S.ndk q hq u hu with ⟨e,rfl⟩ | ⟨hne,hq'⟩
    · simp [e]
    · simp only [if_neg hne]; exact hm q hq' u hu
  · exact fun b o e=>k.extBut b o (by rintro rfl; rw [S.offK] at e; cases e) (S.keep b o e)
  · exact fun b o e=>k.extBut b o (by rintro rfl; rw [S.offN] at e; cases e) (S.per b o e)
  · intro q hq
    obtain ⟨o,ho,r⟩ := S.led q hq
    exact ⟨o,k.extBut _ _ (fun e=>nd.1 (e ▸ List.mem_map_of_mem hq)) ho,r⟩
theorem St.sub (S:St K n₀ env m N M h) (s:∀ p ∈ M',p ∈ M) (nd:(M'.map (·.1)).Nodup) : St K n₀ env m N M' h :=
  { S with
    led := fun p hp=>S.led p (s p hp)
    offMK := fun p hp=>S.offMK p (s p hp)
    offMN := fun p hp=>S.offMN p (s p hp)
    nd := List.nodup_cons.mpr ⟨fun hm=>by
      obtain ⟨p,hp,e⟩ := List.mem_map.mp hm
      exact (List.nodup_cons.mp S.nd).1 (e ▸ List.mem_map_of_mem (s p hp)),nd⟩ }
theorem St.drop {p:Addr × OP} (S:St K n₀ env m N (p :: M) h) : St K n₀ env m N M h :=
  S.sub (fun q hq=>List.mem_cons_of_mem _ hq) (by have := S.nd; rw [List.map_cons,List.nodup_cons,List.nodup_cons] at this; exact this.2.2)
theorem St.swap {p q:Addr × OP} (S:St K n₀ env m N (p :: q :: M) h) : St K n₀ env m N (q :: p :: M) h :=
  S.sub (fun r hr=>by simp only [List.mem_cons] at hr ⊢; rcases hr with h | h | h <;> simp [h]) (by
    have := S.nd; simp only [List.map_cons,List.nodup_cons,List.mem_cons,not_or] at this ⊢
    exact ⟨⟨fun e=>this.2.1.1 e.symm,this.2.2.1⟩,this.2.1.2,this.2.2.2⟩)
theorem St.impl {a:Addr} {P P':OP} (S:St K n₀ env m N ((a,P) :: M) h) (k:∀ o,P o → P' o) : St K n₀ env m N ((a,P') :: M) h :=
  { S with
    led := fun p hp=>by
      rcases List.mem_cons.mp hp with rfl | hp
      · exact (S.led (a,P) List.mem_cons_self).imp k
      · exact S.led p (List.mem_cons_of_mem _ hp)
    offMK := fun p hp=>by
      rcases List.mem_cons.mp hp with rfl | hp
      · exact S.offMK (a,P) List.mem_cons_self
      · exact S.offMK p (List.mem_cons_of_mem _ hp)
    offMN := fun p hp=>by
      rcases List.mem_cons.mp hp with rfl | hp
      · exact S.offMN (a,P) List.mem_cons_self
      · exact S.offMN p (List.mem_cons_of_mem _ hp)
    nd := by have := S.nd; rw [List.map_cons] at this ⊢; exact this }
noncomputable def above (n:Nat) (N:Pt) (h:Heap) : Pt := fun a=>if a < n then N a else h.get? a
theorem above_sub {n:Nat} {N:Pt} {g:Heap} {h:Heap} (hn:∀ a o,N a = some o → g.get? a = some o) (hg:g.objs.size ≤ n) : Sub N (above n N h) := fun a o e=>by
  unfold above
  rw [if_pos (Nat.lt_of_lt_of_le (Heap.lt_size (hn a o e)) hg)]; exact e
theorem St.grow (S:St K n₀ env m N M h) (k:Keep h h') : St K n₀ env m (above h.objs.size N h') M h' :=
  { S.keeps k with
    per := fun a o e=>by
      unfold above at e
      split at e
      · exact k a o (S.per a o e)
      · exact e
    newN := fun a o e=>by
      unfold above at e
      split at e
      · exact S.newN a o e
      · rename_i hlt; exact Nat.le_trans (Nat.le_of_lt S.le) (Nat.not_lt.mp hlt)
    offN := by
      obtain ⟨o,ho⟩ := S.isL
      unfold above
      rw [if_pos (Heap.lt_size ho)]; exact S.offN
    offMN := fun p hp=>by
      obtain ⟨o,ho,_⟩ := S.led p hp
      unfold above
      rw [if_pos (Heap.lt_size ho)]; exact S.offMN p hp }
theorem St.grow_sub (S:St K n₀ env m N M h) : Sub N (above h.objs.size N h') := above_sub S.per (Nat.le_refl _)
noncomputable def plus (N:Pt) (a:Addr) (o:Obj) : Pt := fun b=>if b = a then some o else N b
theorem St.seal {a:Addr} {P:OP} (S:St K n₀ env m N ((a,P) :: M) h) (ha:n₀ ≤ a) : ∃ N',Sub N N' ∧ At N' a P ∧ St K n₀ env m N' M h := by
  obtain ⟨o,ho,hP⟩ := S.led (a,P) List.mem_cons_self
  have hN : N a = none := S.offMN (a,P) List.mem_cons_self
  have nd := S.nd
  simp only [List.map_cons,List.nodup_cons,List.mem_cons,not_or] at nd
  refine ⟨plus N a o,fun b o' e=>?_,⟨o,by simp [plus],hP⟩,{ S.drop with per := ?_,newN := ?_,offN := ?_,offMN := ?_ }⟩
  · unfold plus; rw [if_neg (by rintro rfl; rw [hN] at e; cases e)]; exact e
  · intro b o' e
    unfold plus at e
    split at e
    · rename_i hb; subst hb; exact ho.trans e
    · exact S.per b o' e
  · intro b o' e
    unfold plus at e
    split at e
    · rename_i hb; exact hb ▸ ha
    · exact S.newN b o' e
  · unfold plus; rw [if_neg nd.1.1]; exact S.offN
  · intro p hp
    unfold plus
    rw [if_neg (fun e:p.1 = a=>nd.2.1 (e ▸ List.mem_map_of_mem hp))]
    exact S.offMN p (List.mem_cons_of_mem _ hp)
theorem St.kk {a:Addr} {P:OP} (S:St K n₀ env m N M h) (x:At K a P) : At h.get? a P := x.up S.keep
theorem St.nn {a:Addr} {P:OP} (S:St K n₀ env m N M h) (x:At N a P) : At h.get? a P := x.up S.per
theorem St.mm {a:Addr} {P:OP} (S:St K n₀ env m N M h) (x:(a,P) ∈ M) : At h.get? a P := S.led _ x
theorem St.letm {X:Prop} (S:St K n₀ env m N M h) (k:let m1 := m; let M1 := M; St K n₀ env m1 N M1 h → X) : X := k S
theorem St.newer (S:St K n₀ env m N M h) : n₀ ≤ h.objs.size := Nat.le_of_lt S.le
end
structure Rm (A:Around) (n:Nat) : Prop where
  h : A.handled = none
  d : A.depth + n ≤ 900
  u : A.units + 10 * n ≤ 9000
theorem Rm.le {A:Around} {n k:Nat} (R:Rm A n) (hk:k ≤ n) : Rm A k := ⟨R.h,by have := R.d; lia,by have := R.u; lia⟩
theorem Rm.deeper {A:Around} {n:Nat} {env:Env} (R:Rm A (n + 1)) : Rm (A.deeper env) n := ⟨R.h,by have := R.d; simp only [Around.deeper]; lia,by have := R.u; simp only [Around.deeper]; lia⟩
theorem Rm.in1 {A:Around} {n:Nat} (R:Rm A (n + 1)) : Rm A.in1 n := ⟨R.h,by have := R.d; simp only [Around.in1]; lia,by have := R.u; simp only [Around.in1]; lia⟩
theorem Rm.room {A:Around} {n:Nat} (R:Rm A n) : A.depth < recursionLimit := by have := R.d; show _ < 1000; lia
theorem Rm.line {A:Around} {n:Nat} (R:Rm A n) : A.units + 64 < cLine := by have := R.u; show _ < 9900; lia
structure Stat (K:Pt) : Prop where
  ex : ∃ (hs:Heap) (mean:ExcName → Option Value) (mg mb:Str → Option Value),Sub hs.get? K ∧ (KM w.params).In hs ∧ Top qv (looseW qv looseM) mean mg mb hs
theorem Stat.up {K K':Pt} (Z:Stat K) (s:Sub K K') : Stat K' := let ⟨hs,a,b,c,d,e⟩ := Z.ex; ⟨hs,a,b,c,d.trans s,e⟩
theorem Stat.inn {h:Heap} (Z:Stat h.get?) : (KM w.params).In h := let ⟨hs,a,b,c,d,e,t⟩ := Z.ex; e.keeps d
theorem Stat.top {h:Heap} (Z:Stat h.get?) : ∃ mean mg mb,Top qv (looseW qv looseM) mean mg mb h := let ⟨hs,a,b,c,d,e,t⟩ := Z.ex; ⟨a,b,c,t.keeps d⟩
theorem Stat.nolimit {h:Heap} (Z:Stat h.get?) : h.NoLimit := let ⟨_,_,_,t⟩ := Z.top; t.nolimit
section
variable {A:Around} {K N:Pt} {n₀:Nat} {env:Env} {m m':List (Str × Option Value)} {M M':List (Addr × OP)} {h h':Heap}
theorem nth_get {α:Type} : ∀ (L:List α) (i:Nat),nth L i = L[i]?
  | [],_=>rfl
  | _ :: _,0=>rfl
  | _ :: l,n + 1=>nth_get l n
theorem pick_nodup {M:List (Addr × OP)} (nd:(M.map (·.1)).Nodup) : ∀ (is:List Nat) (M':List (Addr × OP)),is.Nodup → is.map (nth M) = M'.map some → (M'.map (·.1)).Nodup
  | [],[],_,_=>List.nodup_nil
  | [],_ :: _,_,e=>by cases e
  | _ :: _,[],_,e=>by cases e
  | i :: is,p :: M',hn,e=>by
    obtain ⟨e1,e2⟩ := List.cons.inj e
    obtain ⟨h1,h2⟩ := List.nodup_cons.mp hn
    refine List.nodup_cons.mpr ⟨fun hp=>h1 ?_,pick_nodup nd is M' h2 e2⟩
    obtain ⟨q,hq,hqp⟩ := List.mem_map.mp hp
    have : some q ∈ is.map (nth M) := e2 ▸ List.mem_map_of_mem hq
    obtain ⟨j,hj,ej⟩ := List.mem_map.mp this
    rw [nth_get] at e1 ej
    have k1 : (M.map (·.1))[i]? = some p.1 := by rw [List.getElem?_map,e1]; rfl
    have k2 : (M.map (·.1))[j]? = some p.1 := by rw [List.getElem?_map,ej]; exact congrArg some hqp
    have hlt : i < (M.map (·.1)).length := (List.getElem?_eq_some_iff.mp k1).1
    rw [(List.getElem?_inj hlt nd).mp (k1.trans k2.symm)]
    exact hj
theorem St.perm (S:St K n₀ env m N M h) (p:M.Perm M') : St K n₀ env m N M' h := S.sub (fun _ hq=>p.symm.subset hq) ((p.map (·.1)).nodup (List.nodup_cons.mp S.nd).2)
theorem St.pick (S:St K n₀ env m N M h) (is:List Nat) (hn:is.Nodup) (e:is.map (nth M) = M'.map some) : St K n₀ env m N M' h :=
  S.sub (fun p hp=>by
    have : some p ∈ is.map (nth M) := e ▸ List.mem_map_of_mem hp
    obtain ⟨j,_,ej⟩ := List.mem_map.mp this
    exact memI j ej) (pick_nodup (List.nodup_cons.mp S.nd).2 is M' hn e)
end
theorem St.eqM {K N:Pt} {n₀:Nat} {env:Env} {m:List (Str × Option Value)} {M M':List (Addr × OP)} {h:Heap} (S:St K n₀ env m N M h) (e:M = M') : St K n₀ env m N M' h := e ▸ S
theorem St.eqm {K N:Pt} {n₀:Nat} {env:Env} {m m':List (Str × Option Value)} {M:List (Addr × OP)} {h:Heap} (S:St K n₀ env m N M h) (e:m = m') : St K n₀ env m' N M h := e ▸ S
end
section
section
variable {A:Around} {h:Heap} {env:Env}
@[reducible] noncomputable def KBin2 (A:Around) (op:Operator) (a:Value) (Q:Value → Heap → Prop) : Value → Heap → Prop := fun b h2=>WP A (binaryOp op a b) Q h2
@[reducible] noncomputable def KBin (A:Around) (op:Operator) (r:Expr) (env:Env) (Q:Value → Heap → Prop) : Value → Heap → Prop := fun a h1=>WP A (eval r env) (KBin2 A op a Q) h1
@[reducible] noncomputable def KCmp2 (A:Around) (op:CmpOp) (a:Value) (Q:Value → Heap → Prop) : Value → Heap → Prop := fun b h2=>WP A (compareOp op a b) Q h2
@[reducible] noncomputable def KCmp (A:Around) (op:CmpOp) (r:Expr) (env:Env) (Q:Value → Heap → Prop) : Value → Heap → Prop := fun a h1=>WP A (eval r env) (KCmp2 A op a Q) h1
@[reducible] noncomputable def KTr (A:Around) (Q:Bool → Heap → Prop) : Value → Heap → Prop := fun c h3=>WP A (truthy c) Q h3
@[reducible] noncomputable def KSub2 (A:Around) (value slice:Expr) (o:Value) (Q:Value → Heap → Prop) : Value → Heap → Prop := fun i h2=>WP A (subscriptTail value slice o i) Q h2
@[reducible] noncomputable def KSub (A:Around) (value slice:Expr) (env:Env) (Q:Value → Heap → Prop) : Value → Heap → Prop := fun o h1=>WP A (eval slice env) (KSub2 A value slice o Q) h1
@[reducible] noncomputable def KArg2 (v:Value) (Q:List Value → Heap → Prop) : List Value → Heap → Prop := fun vs h2=>Q (v :: vs) h2
@[reducible] noncomputable def KArg (A:Around) (pos:Pos) (rest:List Expr) (env:Env) (Q:List Value → Heap → Prop) : Value → Heap → Prop := fun v h1=>WP A (spliced (backTo pos (starEach rest env))) (KArg2 v Q) h1
@[reducible] noncomputable def KTup (A:Around) (Q:Value → Heap → Prop) : List Value → Heap → Prop := fun vs h1=>WP A (newTuple vs) Q h1
@[reducible] noncomputable def KLst (A:Around) (Q:Value → Heap → Prop) : List Value → Heap → Prop := fun vs h1=>WP A (newList vs) Q h1
@[reducible] noncomputable def KRet (Q:Flow → Heap → Prop) : Value → Heap → Prop := fun v h1=>Q (.ret v) h1
@[reducible] noncomputable def KNx (Q:Flow → Heap → Prop) : Unit → Heap → Prop := fun _ h1=>Q .next h1
@[reducible] noncomputable def KExp (Q:Flow → Heap → Prop) : Value → Heap → Prop := fun v h1=>(∀ a,v ≠ .ref a) ∧ Q .next h1
@[reducible] noncomputable def KAsg (A:Around) (env:Env) (x:Str) (Q:Flow → Heap → Prop) : Value → Heap → Prop := fun v h1=>WP A (storeName env x v) (KNx Q) h1
theorem W_int {i k pos} {Q:Value → Heap → Prop} (q:∀ t,Q (.int i t) h) : WP A (eval (.Constant (.int i) k pos) env) Q h :=
  WP_lib fun s hs=>by subst hs; exact wpAny_Constant_int ⟨_,_,rfl,q _⟩
theorem W_str {x k pos} {Q:Value → Heap → Prop} (q:∀ t,Q (.str x t) h) : WP A (eval (.Constant (.str x) k pos) env) Q h :=
  WP_lib fun s hs=>by subst hs; exact wpAny_Constant_str ⟨_,_,rfl,q _⟩
theorem W_none {k pos} {Q:Value → Heap → Prop} (q:Q .none h) : WP A (eval (.Constant .none k pos) env) Q h :=
  WP_lib fun s hs=>by subst hs; exact wpAny_Constant_none ⟨_,_,rfl,q⟩
theorem W_BinOp {l op r pos} {Q:Value → Heap → Prop} (x:WP A (eval l env) (KBin A op r env Q) h) :
    WP A (eval (.BinOp l op r pos) env) Q h :=
  fun s tk=>wpAny_BinOp (x.go fun a h1 t1 y=>y.go fun b h2 t2 z=>z s t2)
theorem W_UnaryOp {op x pos} {Q:Value → Heap → Prop} (y:WP A (eval x env) (fun a h1=>WP A (unaryOp op a) Q h1) h) : WP A (eval (.UnaryOp op x pos) env) Q h :=
  fun s tk=>wpAny_UnaryOp (y.go fun a h1 t1 z=>z s t1)
theorem W_Compare1 {l op r pos} {Q:Value → Heap → Prop} (x:WP A (eval l env) (KCmp A op r env Q) h)
    (hm:behindInMarks op r = false) : WP A (eval (.Compare l [op] [r] pos) env) Q h :=
  fun s tk=>wpAny_Compare1 (x.go fun a h1 t1 y=>y.go fun b h2 t2 z=>z s t2) hm
theorem W_IfExp {test body orelse pos} {Q:Value → Heap → Prop} (x:WP A (isTrue test env (eval test env)) (fun b h1=>if b then WP A (eval body env) Q h1 else WP A (eval orelse env) Q h1) h) :
    WP A (eval (.IfExp test body orelse pos) env) Q h :=
  fun s tk=>wpAny_IfExp (x.go fun b h1 t1 y=>by cases b <;> exact y s t1)
theorem W_Subscript {value slice pos} {Q:Value → Heap → Prop} (x:WP A (eval value env) (KSub A value slice env Q) h) :
    WP A (eval (.Subscript value slice pos) env) Q h :=
  fun s tk=>Subscript_ (x.go fun a h1 t1 y=>y.go fun b h2 t2 z=>z s t2)
theorem W_args_nil {pos} {Q:List Value → Heap → Prop} (q:Q [] h) : WP A (spliced (backTo pos (starEach [] env))) Q h :=
  WP_lib fun s hs=>by subst hs; exact args_nil ⟨_,_,rfl,q⟩
theorem W_args_cons {pos e rest} {Q:List Value → Heap → Prop} (x:WP A (eval e env) (KArg A pos rest env Q) h)
    (he:starEach (e :: rest) env = (false,eval e env) :: starEach rest env) : WP A (spliced (backTo pos (starEach (e :: rest) env))) Q h :=
  fun s tk=>args_cons (x.go fun a h1 t1 y=>y.go fun b h2 t2 z=>⟨h2,t2,rfl,z⟩) he
theorem W_Tuple {elts k pos} {Q:Value → Heap → Prop} (x:WP A (spliced (backTo pos (starEach elts env))) (KTup A Q) h) : WP A (eval (.Tuple elts k pos) env) Q h :=
  fun s tk=>Tuple_ (x.go fun a h1 t1 y=>y s t1)
theorem W_List {elts pos} {Q:Value → Heap → Prop} (x:WP A (spliced (backTo pos (starEach elts env))) (KLst A Q) h) : WP A (eval (.List elts pos) env) Q h :=
  fun s tk=>List_ (x.go fun a h1 t1 y=>y s t1)
theorem W_isTrue_Compare1 {l op r pos whole} {Q:Bool → Heap → Prop} (x:WP A (eval l env) (KCmp A op r env (KTr A Q)) h)
    (hm:behindInMarks op r = false) : WP A (isTrue (.Compare l [op] [r] pos) env whole) Q h :=
  fun s tk=>wpAny_isTrue_Compare1 (x.go fun a h1 t1 y=>y.go fun b h2 t2 z=>z.go fun c h3 t3 u=>u s t3) hm
theorem W_isTrue_Not {x pos whole} {Q:Bool → Heap → Prop} (y:WP A (isTrue x env (eval x env)) (fun b h1=>Q (!b) h1) h) : WP A (isTrue (.UnaryOp .Not x pos) env whole) Q h :=
  fun s tk=>wpAny_isTrue_Not (y.go fun b h1 t1 z=>⟨h1,t1,rfl,z⟩)
theorem W_isTrue_BoolOp {op values pos whole} {Q:Bool → Heap → Prop} (x:WP A (allTrue op values env) Q h) : WP A (isTrue (.BoolOp op values pos) env whole) Q h :=
  fun s tk=>wpAny_isTrue_BoolOp (x s tk)
theorem W_all_nil {Q:Bool → Heap → Prop} (q:Q true h) : WP A (allTrue .And [] env) Q h := fun s tk=>wpAny_allTrue_And_nil ⟨_,_,rfl,q⟩
theorem W_any_nil {Q:Bool → Heap → Prop} (q:Q false h) : WP A (allTrue .Or [] env) Q h := fun s tk=>wpAny_allTrue_Or_nil ⟨_,_,rfl,q⟩
theorem W_all_cons {x rest} {Q:Bool → Heap → Prop} (y:WP A (isTrue x env (eval x env)) (fun b h1=>if b then WP A (allTrue .And rest env) Q h1 else Q false h1) h) : WP A (allTrue .And (x :: rest) env) Q h :=
  fun s tk=>wpAny_allTrue_And_cons (y.go fun b h1 t1 z=>by cases b; exact ⟨h1,t1,rfl,z⟩; exact z s t1)
theorem W_any_cons {x rest} {Q:Bool → Heap → Prop} (y:WP A (isTrue x env (eval x env)) (fun b h1=>if b then Q true h1 else WP A (allTrue .Or rest env) Q h1) h) : WP A (allTrue .Or (x :: rest) env) Q h :=
  fun s tk=>wpAny_allTrue_Or_cons (y.go fun b h1 t1 z=>by cases b; exact z s t1; exact ⟨h1,t1,rfl,z⟩)
theorem W_isTrue_value {e whole} {Q:Bool → Heap → Prop} (x:WP A whole (KTr A Q) h)
    (he:isTrue e env whole = (do let v ← whole; standAt e.pos; holding [v] (truthy v))) : WP A (isTrue e env whole) Q h :=
  fun s tk=>wpAny_isTrue_value (x.go fun a h1 t1 y=>y s t1) he
theorem W_truthy_bool {b} {Q:Bool → Heap → Prop} (q:Q b h) : WP A (truthy (.bool b)) Q h := fun s tk=>wpAny_truthy_bool ⟨_,_,rfl,q⟩
theorem W_chain {l op₁ op₂ ops r₁ r₂ rs pos} {Q:Value → Heap → Prop} (x:WP A (eval l env) (fun a h1=>WP A (compareChain pos a (op₁ :: op₂ :: ops) (eval r₁ env :: eval r₂ env :: evalEach rs env)) Q h1) h)
    (hm:lastMarks (op₁ :: op₂ :: ops) (r₁ :: r₂ :: rs) = false) : WP A (eval (.Compare l (op₁ :: op₂ :: ops) (r₁ :: r₂ :: rs) pos) env) Q h :=
  fun s tk=>Compare_chain (x.go fun a h1 t1 y=>y s t1) hm
theorem W_chain_link {pos a op op' ops} {r r':Sem Value} {rs} {Q:Value → Heap → Prop} (x:WP A r (fun b h1=>WP A (compareOp op a b) (fun c h2=>WP A (truthy c) (fun t h3=>if t then WP A (compareChain pos b (op' :: ops) (r' :: rs)) Q h3 else Q c h3) h2) h1) h) :
    WP A (compareChain pos a (op :: op' :: ops) (r :: r' :: rs)) Q h :=
  fun s tk=>chain_link (x.go fun b h1 t1 y=>y.go fun c h2 t2 z=>z.go fun t h3 t3 u=>by cases t; exact ⟨h3,t3,rfl,u⟩; exact u s t3)
theorem W_chain_last {pos a op} {r:Sem Value} {Q:Value → Heap → Prop} (x:WP A r (fun b h1=>WP A (compareOp op a b) Q h1) h) : WP A (compareChain pos a [op] [r]) Q h :=
  fun s tk=>chain_last (x.go fun b h1 t1 y=>y s t1)
theorem W_And_cons {pos} {x y:Sem Value} {rest} {Q:Value → Heap → Prop} (z:WP A x (fun v h1=>WP A (truthy v) (fun t h2=>if t then WP A (boolOp pos .And (y :: rest)) Q h2 else Q v h2) h1) h) :
    WP A (boolOp pos .And (x :: y :: rest)) Q h := by
  show WP A (do
    let v ← x
    standAt pos
    let t ← holding [v] (truthy v)
    match BoolOp.And,t with
    | .And,false | .Or,true=>pure v
    | _,_=>boolOp pos .And (y :: rest)) Q h
  refine WP_bind (z.mono fun v h1 h₁=>WP_bind (WP_standAt (WP_bind (WP_holding (h₁.mono fun t h2 h₂=>?_)))))
  cases t
  · exact WP_pure h₂
  · exact h₂
theorem W_Or_cons {pos} {x y:Sem Value} {rest} {Q:Value → Heap → Prop} (z:WP A x (fun v h1=>WP A (truthy v) (fun t h2=>if t then Q v h2 else WP A (boolOp pos .Or (y :: rest)) Q h2) h1) h) :
    WP A (boolOp pos .Or (x :: y :: rest)) Q h := by
  show WP A (do
    let v ← x
    standAt pos
    let t ← holding [v] (truthy v)
    match BoolOp.Or,t with
    | .And,false | .Or,true=>pure v
    | _,_=>boolOp pos .Or (y :: rest)) Q h
  refine WP_bind (z.mono fun v h1 h₁=>WP_bind (WP_standAt (WP_bind (WP_holding (h₁.mono fun t h2 h₂=>?_)))))
  cases t
  · exact h₂
  · exact WP_pure h₂
theorem W_BoolOp {op values pos} {Q:Value → Heap → Prop} (x:WP A (boolOp pos op (evalEach values env)) Q h) : WP A (eval (.BoolOp op values pos) env) Q h := by
  rw [arm_eval_BoolOp]; exact x
theorem W_Last {pos op x} {Q:Value → Heap → Prop} (y:WP A (eval x env) Q h) : WP A (boolOp pos op (evalEach [x] env)) Q h := y
theorem W_And {pos x y rest} {Q:Value → Heap → Prop} (z:WP A (eval x env) (fun v h1=>WP A (truthy v) (fun t h2=>if t then WP A (boolOp pos .And (evalEach (y :: rest) env)) Q h2 else Q v h2) h1) h) :
    WP A (boolOp pos .And (evalEach (x :: y :: rest) env)) Q h := W_And_cons z
theorem W_Or {pos x y rest} {Q:Value → Heap → Prop} (z:WP A (eval x env) (fun v h1=>WP A (truthy v) (fun t h2=>if t then Q v h2 else WP A (boolOp pos .Or (evalEach (y :: rest) env)) Q h2) h1) h) :
    WP A (boolOp pos .Or (evalEach (x :: y :: rest) env)) Q h := W_Or_cons z
theorem W_chain2 {l op₁ op₂ r₁ r₂ pos} {Q:Value → Heap → Prop} (x:WP A (eval l env) (fun a h1=>WP A (eval r₁ env) (fun b h2=>WP A (compareOp op₁ a b) (fun c h3=>WP A (truthy c) (fun t h4=>if t then WP A (eval r₂ env) (fun d h5=>WP A (compareOp op₂ b d) Q h5) h4 else Q c h4) h3) h2) h1) h)
    (hm:lastMarks [op₁,op₂] [r₁,r₂] = false) : WP A (eval (.Compare l [op₁,op₂] [r₁,r₂] pos) env) Q h :=
  W_chain (x.mono fun a h1 y=>W_chain_link (y.mono fun b h2 z=>z.mono fun c h3 u=>u.mono fun t h4 v=>by
    cases t
    · exact v
    · exact W_chain_last v)) hm
theorem W_nil {Q:Flow → Heap → Prop} (q:Q .next h) : WP A (execs [] env) Q h := fun s tk=>wpAny_execs_nil ⟨_,_,rfl,q⟩
noncomputable def SeqQ (A:Around) (rest:List Stmt) (env:Env) (Q:Flow → Heap → Prop) : Flow → Heap → Prop
  | .next,h=>WP A (execs rest env) Q h
  | f,h=>Q f h
theorem W_cons {st rest} {Q:Flow → Heap → Prop} (x:WP A (exec st env) (SeqQ A rest env Q) h) : WP A (execs (st :: rest) env) Q h :=
  fun s tk=>wpAny_execs_cons (x.go fun f h1 t1 y=>by cases f <;> first | exact y s t1 | exact ⟨h1,t1,rfl,y⟩)
theorem Seq_next {rest} {Q:Flow → Heap → Prop} (x:WP A (execs rest env) Q h) : SeqQ A rest env Q .next h := x
theorem Seq_ret {rest v} {Q:Flow → Heap → Prop} (x:Q (.ret v) h) : SeqQ A rest env Q (.ret v) h := x
theorem Seq_brk {rest} {Q:Flow → Heap → Prop} (x:Q .brk h) : SeqQ A rest env Q .brk h := x
theorem Seq_cont {rest} {Q:Flow → Heap → Prop} (x:Q .cont h) : SeqQ A rest env Q .cont h := x
theorem W_If {test body orelse pos} {Q:Flow → Heap → Prop} (x:WP A (isTrue test env (eval test env)) (fun b h1=>if b then WP A (execs body env) Q h1 else WP A (execs orelse env) Q h1) h) :
    WP A (exec (.If test body orelse pos) env) Q h :=
  fun s tk=>wpAny_If (x.go fun b h1 t1 y=>by cases b <;> exact y s t1)
theorem W_Return {e pos} {Q:Flow → Heap → Prop} (x:WP A (eval e env) (KRet Q) h) : WP A (exec (.Return (some e) pos) env) Q h :=
  fun s tk=>wpAny_Return_some (x.go fun v h1 t1 y=>⟨h1,t1,rfl,y⟩)
theorem W_Break {pos} {Q:Flow → Heap → Prop} (q:Q .brk h) : WP A (exec (.Break pos) env) Q h := fun s tk=>wpAny_Break ⟨_,_,rfl,q⟩
theorem W_Continue {pos} {Q:Flow → Heap → Prop} (q:Q .cont h) : WP A (exec (.Continue pos) env) Q h := fun s tk=>wpAny_Continue ⟨_,_,rfl,q⟩
theorem W_Expr {e pos} {Q:Flow → Heap → Prop} (x:WP A (eval e env) (KExp Q) h)
    (hi:interactive env = false) (hs:swapsWith e none pos.line env = pure false) : WP A (exec (.Expr e pos) env) Q h :=
  fun s tk=>wpAny_Expr (x.go fun v h1 t1 y=>by cases v <;> first | exact ⟨h1,t1,rfl,y.2⟩ | exact (y.1 _ rfl).elim) hi hs
theorem W_Assign {x pos' value pos} {Q:Flow → Heap → Prop} (y:WP A (eval value env) (KAsg A env x Q) h)
    (hs:swapsWith value (some (.Name x pos')) pos.line env = pure false) : WP A (exec (.Assign [.Name x pos'] value pos) env) Q h :=
  fun s tk=>wpAny_Assign_Name (y.go fun v h1 t1 z=>z.go fun _ h2 t2 u=>⟨h2,t2,rfl,u⟩) hs
theorem W_AugAssign {x pos' op value pos} {Q:Flow → Heap → Prop} (y:WP A (loadName env x) (fun old h1=>WP A (eval value env) (fun v h2=>WP A (inplaceOp op old v) (KAsg A env x Q) h2) h1) h) :
    WP A (exec (.AugAssign (.Name x pos') op value pos) env) Q h :=
  fun s tk=>wpAny_AugAssign_Name (y.go fun v h1 t1 z=>z.go fun _ h2 t2 u=>u.go fun _ h3 t3 p=>p.go fun _ h4 t4 q=>⟨h4,t4,rfl,q⟩)
theorem W_assign_Name {x pos v} {Q:Unit → Heap → Prop} (y:WP A (storeName env x v) Q h) : WP A (assign (.Name x pos) env v) Q h := fun s tk=>wpAny_assign_Name (y s tk)
end
noncomputable def GlobalIs (K:Pt) (x:Str) (v:Value) : Prop :=
  ∀ (env:Env) (h:Heap) (A:Around) (Q:Value → Heap → Prop),env.globals = mainGlobals → env.builtins = builtinsNs → Sub K h.get? → Q v h → WP A (loadGlobal env x) Q h
structure Sc (K:Pt) (env:Env) (cs:List (Str × Addr)) (gl:List (Str × Value)) : Prop where
  dbg : env.kindOf ("__debug__" : Str) = none
  g : env.globals = mainGlobals
  b : env.builtins = builtinsNs
  cel : ∀ p ∈ cs,env.kindOf p.1 = some .cell ∧ env.cells.lookup p.1 = some p.2
  glo : ∀ p ∈ gl,env.kindOf p.1 = some .globalImplicit ∧ GlobalIs K p.1 p.2
theorem glob_of {K:Pt} {x:Str} {v:Value} (Z:Stat K) (e:nsIn (KM w.params) mainGlobals x = some (some v)) : GlobalIs K x v :=
  fun env h A Q hg hb hs q=>WP_lib fun s e'=>by
    subst e'
    obtain ⟨mean,mg,mb,T⟩ := (Z.up hs).top
    exact loadGlobal_global (mg := mg) (hg ▸ T.g) (mg_of (Z.up hs).inn T.g e) ⟨_,_,rfl,q⟩
theorem built_of {K:Pt} {x:Str} {v:Value} (Z:Stat K) (e:nsIn (KM w.params) mainGlobals x = some none) (hb':bootBuiltins x = some v) (hx:x ≠ "__name__") : GlobalIs K x v :=
  fun env h A Q hg hb hs q=>WP_lib fun s e'=>by
    subst e'
    obtain ⟨mean,mg,mb,T⟩ := (Z.up hs).top
    exact loadGlobal_builtin (mg := mg) (mb := mb) (hg ▸ T.g) (mg_none_of (Z.up hs).inn T.g e) (hb ▸ T.b) ((T.builtins x hx).trans hb') ⟨_,_,rfl,q⟩
section
variable {A:Around} {K N:Pt} {n₀:Nat} {env:Env} {m m':List (Str × Option Value)} {M M':List (Addr × OP)} {h:Heap} {cs:List (Str × Addr)} {gl:List (Str × Value)}
theorem Sc.nd (C:Sc K env cs gl) {x:Str} {k:NameKind} (e:env.kindOf x = some k) : (x == ("__debug__" : Str)) = false := by
  cases hx : x == ("__debug__" : Str) with
  | false=>rfl
  | true=>have := eq_of_beq hx; subst this; rw [C.dbg] at e; cases e
theorem St.quiet (S:St K n₀ env m N M h) : interactive env = false := by unfold interactive; rw [S.fn]; rfl
theorem W_ExprS {e pos} {Q:Flow → Heap → Prop} (S:St K n₀ env m N M h) (x:WP A (eval e env) (KExp Q) h) (hs:swapsWith e none pos.line env = pure false) : WP A (exec (.Expr e pos) env) Q h :=
  W_Expr x S.quiet hs
theorem W_doc {x k p pos} {Q:Flow → Heap → Prop} (S:St K n₀ env m N M h) (q:Q .next h) : WP A (exec (.Expr (.Constant (.str x) k p) pos) env) Q h :=
  W_Expr (W_str fun t=>⟨(fun _ e=>nomatch e),q⟩) S.quiet rfl
theorem load_local {x v} {Q:Value → Heap → Prop} (S:St K n₀ env m N M h) (hm:(x,some v) ∈ m) (q:Q v h) : WP A (loadName env x) Q h :=
  WP_lib fun s hs=>by
    subst hs
    obtain ⟨mm,hn,e⟩ := S.ns
    exact wpAny_loadName_local S.fn (S.loc _ hm) hn (e _ hm v rfl) ⟨_,_,rfl,q⟩
theorem W_local {x v pos} {Q:Value → Heap → Prop} (S:St K n₀ env m N M h) (C:Sc K env cs gl) (hm:(x,some v) ∈ m) (q:Q v h) : WP A (eval (.Name x pos) env) Q h :=
  fun s tk=>wpAny_Name (load_local S hm q s tk) (C.nd (S.loc _ hm))
theorem load_cell {x v c} {Q:Value → Heap → Prop} (S:St K n₀ env m N M h) (C:Sc K env cs gl) (hc:(x,c) ∈ cs) (hm:(c,CO (some v)) ∈ M) (q:Q v h) : WP A (loadName env x) Q h :=
  WP_lib fun s hs=>by
    subst hs
    exact wpAny_loadName_cell S.fn (C.cel _ hc).1 (C.cel _ hc).2 (S.mm hm) ⟨_,_,rfl,q⟩
theorem W_cell {x v c pos} {Q:Value → Heap → Prop} (S:St K n₀ env m N M h) (C:Sc K env cs gl) (hc:(x,c) ∈ cs) (hm:(c,CO (some v)) ∈ M) (q:Q v h) : WP A (eval (.Name x pos) env) Q h :=
  fun s tk=>wpAny_Name (load_cell S C hc hm q s tk) (C.nd (C.cel _ hc).1)
theorem W_glob {x v pos} {Q:Value → Heap → Prop} (S:St K n₀ env m N M h) (C:Sc K env cs gl) (hg:(x,v) ∈ gl) (q:Q v h) : WP A (eval (.Name x pos) env) Q h := by
  obtain ⟨e,G⟩ := C.glo _ hg
  intro s tk
  refine Name_function_global S.fn e ?_ (C.nd e)
  exact G env h A Q C.g C.b S.keep q s tk
theorem store_local {x v} {Q:Unit → Heap → Prop} (S:St K n₀ env m N M h) (p:Put x v m m') (q:∀ h',St K n₀ env m' N M h' → Q () h') : WP A (storeName env x v) Q h :=
  WP_lib fun s hs=>by
    subst hs
    obtain ⟨mm,hn,e⟩ := S.ns
    obtain ⟨p₀,hp₀,e₀⟩ := List.mem_map.mp p.has
    refine wpAny_storeName_local (e₀ ▸ S.loc p₀ hp₀) hn (fun h' hn' hs'=>⟨h',_,rfl,q h' (S.put e p hn' hs')⟩) ?_
    rw [S.fn]; rfl
theorem store_cell {x v c} {Q:Unit → Heap → Prop} (S:St K n₀ env m N M h) (C:Sc K env cs gl) (hc:(x,c) ∈ cs) (u:Upd c (CO (some v)) M M') {P₀:OP} (hm:(c,P₀) ∈ M) (hP:∀ o,P₀ o → ∃ v₀,o.data = .cell v₀) (q:∀ h',St K n₀ env m N M' h' → Q () h') : WP A (storeName env x v) Q h :=
  WP_lib fun s hs=>by
    subst hs
    obtain ⟨o,ho,hp⟩ := S.mm hm
    obtain ⟨v₀,hd⟩ := hP o hp
    exact wpAny_storeName_cell (v₀ := v₀) S.fn (C.cel _ hc).1 (C.cel _ hc).2 ⟨o,ho,hd⟩ fun h' hc' hs'=>⟨h',_,rfl,q h' (S.upd u hs'.extBut hc')⟩
theorem store_cell' {x v v₀ c} {Q:Unit → Heap → Prop} (S:St K n₀ env m N M h) (C:Sc K env cs gl) (hc:(x,c) ∈ cs) (hm:(c,CO v₀) ∈ M) (u:Upd c (CO (some v)) M M') (q:∀ h',St K n₀ env m N M' h' → Q () h') : WP A (storeName env x v) Q h :=
  store_cell S C hc u hm (fun o e=>⟨v₀,e⟩) q
theorem store_localL {x v} {Q:Unit → Heap → Prop} (S:St K n₀ env m N M h) (p:Put x v m m') (q:let m1 := m'; ∀ h',St K n₀ env m1 N M h' → Q () h') : WP A (storeName env x v) Q h := store_local S p q
theorem store_cellL {x v v₀ c} {Q:Unit → Heap → Prop} (S:St K n₀ env m N M h) (C:Sc K env cs gl) (hc:(x,c) ∈ cs) (hm:(c,CO v₀) ∈ M) (u:Upd c (CO (some v)) M M') (q:let M1 := M'; ∀ h',St K n₀ env m N M1 h' → Q () h') : WP A (storeName env x v) Q h := store_cell' S C hc hm u q
theorem W_newTuple {vs} {Q:Value → Heap → Prop} (S:St K n₀ env m N M h) (q:∀ a h',n₀ ≤ a → h.objs.size ≤ a → Keep h h' → St K n₀ env m N ((a,TO vs) :: M) h' → Q (.ref a) h') (hsz:vs.length ≤ sizeLine) : WP A (newTuple vs) Q h :=
  WP_lib fun s hs=>by
    subst hs
    refine wpAny_newObj_type ⟨_,_,rfl,q s.heap.objs.size _ S.newer (Nat.le_refl _) (fun b o e=>Heap.get?_push_of_some _ e) (S.new (fun b o e=>Heap.get?_push_of_some _ e) (get?_size_none _) ⟨_,Heap.get?_push_size _ rfl,0,rfl⟩)⟩ ?_
    show vs.toArray.size ≤ sizeLine; rw [List.size_toArray]; exact hsz
theorem W_newList {vs} {Q:Value → Heap → Prop} (S:St K n₀ env m N M h) (q:∀ a h',n₀ ≤ a → h.objs.size ≤ a → Keep h h' → St K n₀ env m N ((a,LO vs) :: M) h' → Q (.ref a) h') (hsz:vs.length ≤ sizeLine) : WP A (newList vs) Q h :=
  WP_lib fun s hs=>by
    subst hs
    refine wpAny_newObj_type ⟨_,_,rfl,q s.heap.objs.size _ S.newer (Nat.le_refl _) (fun b o e=>Heap.get?_push_of_some _ e) (S.new (fun b o e=>Heap.get?_push_of_some _ e) (get?_size_none _) ⟨_,Heap.get?_push_size _ rfl,0,rfl⟩)⟩ ?_
    show vs.toArray.size ≤ sizeLine; rw [List.size_toArray]; exact hsz
end
section
variable {A:Around} {h:Heap} {a b:Int} {t u:Tok} {x y:Str}
theorem O_add {Q:Value → Heap → Prop} (q:∀ t,Q (.int (a + b) t) h) : WP A (binaryOp .Add (.int a t) (.int b u)) Q h := WP_lib fun s hs=>by subst hs; exact add_int ⟨_,_,rfl,q _⟩
theorem O_sub {Q:Value → Heap → Prop} (q:∀ t,Q (.int (a - b) t) h) : WP A (binaryOp .Sub (.int a t) (.int b u)) Q h := WP_lib fun s hs=>by subst hs; exact sub_int ⟨_,_,rfl,q _⟩
theorem O_iadd {Q:Value → Heap → Prop} (q:∀ t,Q (.int (a + b) t) h) : WP A (inplaceOp .Add (.int a t) (.int b u)) Q h := WP_lib fun s hs=>by subst hs; exact wpAny_iadd_int ⟨_,_,rfl,q _⟩
theorem O_div {Q:Value → Heap → Prop} (q:∀ t,Q (.int (a.fdiv b) t) h) (hb:b ≠ 0) (hp:Builtin.divisionGoesByPylong a b = false) : WP A (binaryOp .FloorDiv (.int a t) (.int b u)) Q h :=
  WP_lib fun s hs=>by subst hs; exact floordiv_int hb ⟨_,_,rfl,q _⟩ (.inl hp)
theorem O_mod {Q:Value → Heap → Prop} (q:∀ t,Q (.int (a.fmod b) t) h) (hb:b ≠ 0) : WP A (binaryOp .Mod (.int a t) (.int b u)) Q h :=
  WP_lib fun s hs=>by subst hs; exact mod_int' hb ⟨_,_,rfl,q _⟩
theorem O_neg {Q:Value → Heap → Prop} (q:∀ t,Q (.int (-a) t) h) : WP A (unaryOp .USub (.int a t)) Q h := WP_lib fun s hs=>by subst hs; exact neg_int ⟨_,_,rfl,q _⟩
theorem O_eq {Q:Value → Heap → Prop} (q:Q (.bool (a == b)) h) : WP A (compareOp .Eq (.int a t) (.int b u)) Q h := WP_lib fun s hs=>by subst hs; exact eq_int ⟨_,_,rfl,q⟩
theorem O_ne {Q:Value → Heap → Prop} (q:Q (.bool (a != b)) h) : WP A (compareOp .NotEq (.int a t) (.int b u)) Q h := WP_lib fun s hs=>by subst hs; exact ne_int ⟨_,_,rfl,q⟩
theorem O_lt {Q:Value → Heap → Prop} (q:Q (.bool (decide (a < b))) h) : WP A (compareOp .Lt (.int a t) (.int b u)) Q h := WP_lib fun s hs=>by subst hs; exact lt_int ⟨_,_,rfl,q⟩
theorem O_gt {Q:Value → Heap → Prop} (q:Q (.bool (decide (b < a))) h) : WP A (compareOp .Gt (.int a t) (.int b u)) Q h := WP_lib fun s hs=>by subst hs; exact gt_int ⟨_,_,rfl,q⟩
theorem O_ge {Q:Value → Heap → Prop} (q:Q (.bool (decide (b ≤ a))) h) : WP A (compareOp .GtE (.int a t) (.int b u)) Q h := WP_lib fun s hs=>by subst hs; exact ge_int ⟨_,_,rfl,q⟩
theorem O_seq {Q:Value → Heap → Prop} (q:Q (.bool (x == y)) h) : WP A (compareOp .Eq (.str x t) (.str y u)) Q h := WP_lib fun s hs=>by subst hs; exact PyProof.Rows.eq_str ⟨_,_,rfl,q⟩
theorem O_sne {Q:Value → Heap → Prop} (q:Q (.bool (x != y)) h) : WP A (compareOp .NotEq (.str x t) (.str y u)) Q h := WP_lib fun s hs=>by subst hs; exact PyProof.Rows.ne_str ⟨_,_,rfl,q⟩
theorem O_sadd {Q:Value → Heap → Prop} (q:∀ t,Q (.str (x ++ y) t) h) (hsz:x.length + y.length ≤ sizeLine) : WP A (binaryOp .Add (.str x t) (.str y u)) Q h := WP_lib fun s hs=>by subst hs; exact PyProof.Rows.add_str (fun t' tk=>⟨_,_,rfl,q _⟩) hsz
theorem O_is_none {v:Value} {Q:Value → Heap → Prop} (q:Q (.bool (v == .none)) h) : WP A (compareOp .Is v .none) Q h := WP_lib fun s hs=>by subst hs; exact is_none ⟨_,_,rfl,q⟩
theorem O_isnot_none {v:Value} {Q:Value → Heap → Prop} (q:Q (.bool (!(v == .none))) h) : WP A (compareOp .IsNot v .none) Q h := WP_lib fun s hs=>by subst hs; exact isNot_none ⟨_,_,rfl,q⟩
end
end
section
section
variable {A:Around} {h:Heap} {env:Env}
theorem W_point {Q:Unit → Heap → Prop} (q:Q () h) : WP A point Q h := fun s tk=>wpAny_point ⟨_,_,rfl,q⟩
theorem W_keep {α:Type} {vs:List Value} {t:Sem α} {Q:α → Heap → Prop} (x:WP A t Q h) : WP A (t.keep vs) Q h := fun s tk=>wpAny_keep (x s tk)
theorem W_evalArgs {f:Value} {trees:List (Bool × Sem Value)} {Q:Args → Heap → Prop} (hpl:trees.any (·.1) = false) (x:WP A (spliced trees) (fun vs h1=>Q ⟨vs,[]⟩ h1) h) :
    WP A (evalArgs f true trees []) Q h := by
  intro s tk
  cases trees with
  | nil =>
    unfold evalArgs
    show wpAny _ A (spliced [] >>= _) _ _ _
    refine wpAny_bind (x.go fun vs h1 t1 q=>?_)
    refine wpAny_holding ?_
    exact wpAny_bind (wpAny_pure (wpAny_bind (wpAny_pure (wpAny_pure ⟨h1,t1,rfl,q⟩))))
  | cons p r =>
    obtain ⟨b,t⟩ := p
    cases b with
    | true=>simp at hpl
    | false=>exact evalArgs_plain (x.go fun vs h1 t1 q=>⟨h1,t1,rfl,q⟩)
noncomputable def Kp (A:Around) (f:Value) (h:Heap) : Prop := WP A (keeperOf f) (fun _ h'=>h' = h) h
theorem Kp_builtin {id:String} : Kp A (.builtin id) h := by unfold Kp keeperOf; exact WP_pure rfl
theorem Kp_type {id:String} : Kp A (.type id) h := by unfold Kp keeperOf; exact WP_pure rfl
theorem Kp_func {a:Addr} {o:Obj} {fd:FuncData} (ho:h.get? a = some o) (hd:o.data = .func fd) : Kp A (.ref a) h := by
  unfold Kp keeperOf
  refine WP_bind (WP_load ho ?_)
  rw [hd]; exact WP_pure rfl
theorem W_callWith {pos:Pos} {f:Value} {first:List Value} {trees:List (Bool × Sem Value)} {Q:Value → Heap → Prop} (hpl:trees.any (·.1) = false)
    (x:WP A (spliced trees) (fun vs h1=>Kp A f h1 ∧ WP A (call f (first ++ vs)) Q h1) h) : WP A (callWith pos f first trees []) Q h := by
  unfold callWith
  refine WP_bind (WP_holding (W_evalArgs hpl (x.mono fun vs h1 q=>?_)))
  refine WP_bind (WP_standAt ?_)
  dsimp only
  refine WP_bind (q.1.mono fun kp h2 e=>?_)
  subst e
  have fin : ∀ {t:Sem Value},WP A t Q h2 → WP A (t >>= fun r=>holding [r] point >>= fun _=>pure r) Q h2 := fun y =>
    WP_bind (y.mono fun r h3 q3=>WP_bind (WP_holding (W_point (WP_pure q3))))
  simp only [hpl,List.any_nil,Bool.or_false]
  cases kp with
  | frame =>
    dsimp only
    split
    · exact fin q.2
    · exact fin (by unfold callMarked; exact W_keep q.2)
  | boundFrame =>
    dsimp only
    split
    · exact fin q.2
    · exact fin (by unfold callMarked; exact W_keep q.2)
  | machine=>exact fin q.2
  | caller=>exact fin (WP_operate q.2)
@[reducible] noncomputable def KCall2 (A:Around) (f:Value) (Q:Value → Heap → Prop) : List Value → Heap → Prop := fun vs h2=>Kp A f h2 ∧ WP A (call f vs) Q h2
@[reducible] noncomputable def KCall (A:Around) (pos:Pos) (args:List Expr) (env:Env) (Q:Value → Heap → Prop) : Value → Heap → Prop := fun f h1=>WP A (spliced (backTo pos (starEach args env))) (KCall2 A f Q) h1
theorem W_Call {func:Expr} {args:List Expr} {pos:Pos} {Q:Value → Heap → Prop}
    (x:WP A (eval func env) (KCall A pos args env Q) h)
    (he:eval (.Call func args [] pos) env = (do callWith pos (← eval func env) [] (backTo pos (starEach args env)) (backToKw pos (keywordEach [] env))))
    (hpl:(backTo pos (starEach args env)).any (·.1) = false) : WP A (eval (.Call func args [] pos) env) Q h := by
  rw [he]
  exact WP_bind (x.mono fun f h1 y=>W_callWith hpl y)
end
theorem lookup_reverse_of_nodup {binds:List (Str × Value)} (nd:(binds.map (·.1)).Nodup) {p:Str × Value} (hp:p ∈ binds) : binds.reverse.lookup p.1 = some p.2 := by
  have key : ∀ l : List (Str × Value),(l.map (·.1)).Nodup → p ∈ l → l.lookup p.1 = some p.2 := by
    intro l
    induction l with
    | nil=>intro _ h; exact nomatch h
    | cons q r ih =>
      intro nd h
      rw [List.map_cons,List.nodup_cons] at nd
      obtain ⟨k,v⟩ := q
      rcases List.mem_cons.mp h with rfl | h
      · simp
      · have : p.1 ≠ k := fun e=>nd.1 (show k ∈ _ from e ▸ List.mem_map_of_mem h)
        rw [List.lookup_cons]
        rw [beq_eq_false_iff_ne.mpr this]
        exact ih nd.2 h
  refine key _ ?_ (List.mem_reverse.mpr hp)
  rw [List.map_reverse]
  exact (List.reverse_perm _).nodup_iff.mpr nd
noncomputable def mk0 (binds:List (Str × Value)) (rest:List Str) : List (Str × Option Value) := binds.map (fun p=>(p.1,some p.2)) ++ rest.map fun x=>(x,none)
noncomputable def okScope (scope:Scope) (bs rest:List Str) : Bool := (bs ++ rest).all (fun x=>scope.names.lookup x == some .local) && decide (bs ++ rest).Nodup && (scope.names.lookup ("__debug__" : Str)).isNone
theorem mk0_keys (binds:List (Str × Value)) (rest:List Str) : (mk0 binds rest).map (·.1) = binds.map (·.1) ++ rest := by
  simp [mk0,List.map_map,Function.comp_def]
section
variable {A:Around} {h:Heap} {n:Nat}
theorem enter {name qual:Str} {params:Arguments} {body:List Stmt} {scope:Scope} {dV kV doc pm cdv ct oc:Value} {an od:Option Addr} {osl:Array (Option Value)} {f:Addr} {args:Args} {binds:List (Str × Value)} {rest:List Str} {Q:Value → Heap → Prop}
    (Z:Stat h.get?) (R:Rm A (n + 1))
    (ho:(KM w.params).lookup f = some ⟨oc,od,.func (fnOf name qual params body scope dV kV doc pm an cdv ct),osl⟩) (hcd:codeIn (KM w.params) cdv qual = true)
    (hbind:∀ s : Shared,s.heap = h → BindsTo s (fnOf name qual params body scope dV kV doc pm an cdv ct) args binds)
    (hsc:okScope scope (binds.map (·.1)) rest = true)
    (hco:scope.isCoroutine = false) (hgen:scope.isGenerator = false) (hk:scope.kind = .function) (hcell:∀ x ∈ scope.names,x.2 ≠ .cell)
    (k:∀ L h₁,Keep h h₁ → St h.get? h.objs.size (envOf qual scope L f cdv) (mk0 binds rest) (fun _=>none) [] h₁ →
      WP (A.deeper (envOf qual scope L f cdv)) (execs body (envOf qual scope L f cdv)) (fun fl h'=>Q (match fl with | .ret v=>v | _=>.none) h') h₁) :
    WP A (call (.ref f) args.pos args.kw) Q h := by
  intro s tk
  simp only [okScope,Bool.and_eq_true,List.all_eq_true,beq_iff_eq,decide_eq_true_eq] at hsc
  obtain ⟨⟨hl,hnd⟩,hdb⟩ := hsc
  have hlb : ∀ y ∈ binds,scope.names.lookup y.1 = some .local := fun y hy=>hl y.1 (List.mem_append_left _ (List.mem_map_of_mem hy))
  refine wpAny_call ?_
  refine codeAny_call_def (fd := fnOf name qual params body scope dV kV doc pm an cdv ct) (body := body) (binds := binds) R.room (Z.inn _ _ ho) rfl Z.nolimit (codeRec_of Z.inn hcd) rfl (hbind _ rfl) hcell hlb (fun h₁ hns hk₁=>?_) hco hgen hk
  have S : St h.get? h.objs.size (envOf qual scope h.objs.size f cdv) (mk0 binds rest) (fun _=>none) [] h₁ := by
    refine ⟨hk,?_,?_,⟨_,hns,?_⟩,hk₁,(fun _ _ e=>nomatch e),(fun _ hp=>nomatch hp),Nat.le_refl _,(fun _ _ e=>nomatch e),get?_size_none h,rfl,(fun _ hp=>nomatch hp),(fun _ hp=>nomatch hp),by simp⟩
    · intro p hp
      refine hl p.1 ?_
      rw [← mk0_keys]; exact List.mem_map_of_mem hp
    · rw [mk0_keys]; exact hnd
    · intro p hp v hv
      unfold mk0 at hp
      rcases List.mem_append.mp hp with hp | hp
      · obtain ⟨q,hq,rfl⟩ := List.mem_map.mp hp
        cases hv
        exact lookup_reverse_of_nodup (List.nodup_append.mp hnd).1 hq
      · obtain ⟨x,_,rfl⟩ := List.mem_map.mp hp
        cases hv
  exact wpAny_mono (k h.objs.size h₁ hk₁ S s _) (fun fl s' ⟨h',tk',e,q⟩=>⟨h',tk',e,q⟩) fun _ _ x=>x.elim
end
end
section
section
variable {A:Around} {h:Heap} {n:Nat}
noncomputable def GL : List (Str × Value) := [(Str.ofString "len",.builtin "len"),(Str.ofString "chr",.builtin "chr"),(Str.ofString "max",.builtin "max"),(Str.ofString "min",.builtin "min"),(Str.ofString "sorted",.builtin "sorted"),
  (Str.ofString "range",.type "range"),(Str.ofString "bytes",.type "bytes"),(Str.ofString "reversed",.type "reversed"),(Str.ofString "enumerate",.type "enumerate"),(Str.ofString "set",.type "set"),(Str.ofString "list",.type "list"),(Str.ofString "map",.type "map"),(Str.ofString "tuple",.type "tuple"),
  (Str.ofString "Match",.ref 135),(Str.ofString "SequenceMatcher",.ref 242),(Str.ofString "_QUOPRI_HEADER_MAP",.ref 254),(Str.ofString "header_check",.ref 269),(Str.ofString "header_encode",.ref 277),
  (Str.ofString "_law_octet",.ref 289),(Str.ofString "_law_rows",.ref 296),(Str.ofString "_law_kept",.ref 303),(Str.ofString "_law_written",.ref 310),(Str.ofString "_law_beside",.ref 315),(Str.ofString "_law_block",.ref 320),(Str.ofString "_law_pairs",.ref 325),(Str.ofString "_law_told",.ref 332),(Str.ofString "_law_edited",.ref 339)]
theorem gl_ok {K:Pt} (Z:Stat K) : ∀ p ∈ GL,GlobalIs K p.1 p.2 := by
  unfold GL
  iterate 13 (refine List.forall_mem_cons.mpr ⟨built_of Z (by k_is) (by decide +kernel) (by decide),?_⟩)
  iterate 14 (refine List.forall_mem_cons.mpr ⟨glob_of Z (by k_is),?_⟩)
  exact fun _ hp=>nomatch hp
noncomputable def okGl (scope:Scope) (gl:List (Str × Value)) : Bool := gl.all (fun p=>GL.any (fun q=>q.1 == p.1 && q.2 == p.2) && (scope.names.lookup p.1 == some .globalImplicit))
theorem okGl.sc {K:Pt} {scope:Scope} {gl:List (Str × Value)} (Z:Stat K) (e:okGl scope gl = true) : ∀ p ∈ gl,scope.names.lookup p.1 = some .globalImplicit ∧ GlobalIs K p.1 p.2 := fun p hp=>by
  have := List.all_eq_true.mp e p hp
  rw [Bool.and_eq_true,List.any_eq_true,beq_iff_eq] at this
  obtain ⟨⟨q,hq,e1⟩,e2⟩ := this
  rw [Bool.and_eq_true,beq_iff_eq,beq_iff_eq] at e1
  obtain ⟨q1,q2⟩ := q
  obtain ⟨p1,p2⟩ := p
  obtain ⟨rfl,rfl⟩ := e1
  exact ⟨e2,gl_ok Z _ hq⟩
theorem Kp_ref {K N:Pt} {n₀:Nat} {env:Env} {m:List (Str × Option Value)} {M:List (Addr × OP)} {f:Addr} {fd:FuncData} {oc:Value} {od:Option Addr} {osl:Array (Option Value)} (S:St K n₀ env m N M h) (Z:Stat K)
    (ho:(KM w.params).lookup f = some ⟨oc,od,.func fd,osl⟩) : Kp A (.ref f) h := Kp_func ((Z.up S.keep).inn _ _ ho) rfl
noncomputable def retv : Flow → Value
  | .ret v=>v
  | _=>.none
@[reducible] noncomputable def RetQ (Q:Value → Heap → Prop) : Flow → Heap → Prop := fun fl h'=>Q (retv fl) h'
theorem enter2 {name qual:Str} {params:Arguments} {body:List Stmt} {scope:Scope} {dV kV doc pm cdv ct oc:Value} {an od:Option Addr} {osl:Array (Option Value)} {f:Addr} {args:Args} {binds:List (Str × Value)} {rest:List Str} {gl:List (Str × Value)} {m:List (Str × Option Value)} {Q:Value → Heap → Prop}
    (Z:Stat h.get?) (R:Rm A (n + 1))
    (ho:(KM w.params).lookup f = some ⟨oc,od,.func (fnOf name qual params body scope dV kV doc pm an cdv ct),osl⟩) (hcd:codeIn (KM w.params) cdv qual = true)
    (hbind:∀ s : Shared,s.heap = h → BindsTo s (fnOf name qual params body scope dV kV doc pm an cdv ct) args binds)
    (hsc:okScope scope (binds.map (·.1)) rest = true) (hgl:okGl scope gl = true)
    (hco:scope.isCoroutine = false) (hgen:scope.isGenerator = false) (hk:scope.kind = .function) (hcell:(scope.names.all fun x=>x.2 != .cell) = true)
    (hm:mk0 binds rest = m)
    (k:∀ L env A' h₁,env = envOf qual scope L f cdv → Rm A' n → Sc h.get? env [] gl → Keep h h₁ → St h.get? h.objs.size env m (fun _=>none) [] h₁ →
      WP A' (execs body env) (RetQ Q) h₁) :
    WP A (call (.ref f) args.pos args.kw) Q h := by
  refine enter Z R ho hcd hbind hsc hco hgen hk (fun x hx=>by simpa using List.all_eq_true.mp hcell x hx) fun L h₁ K₁ S=>?_
  have hdb : scope.names.lookup ("__debug__" : Str) = none := by
    simp only [okScope,Bool.and_eq_true] at hsc
    simpa using hsc.2
  refine (k L (envOf qual scope L f cdv) _ h₁ rfl R.deeper ⟨hdb,rfl,rfl,(fun _ hp=>nomatch hp),okGl.sc Z hgl⟩ K₁ (hm ▸ S)).mono fun fl h' q=>?_
  cases fl <;> exact q
theorem enterC {name qual:Str} {params:Arguments} {body:List Stmt} {scope:Scope} {dV kV doc pm cdv ct oc:Value} {an od:Option Addr} {osl:Array (Option Value)} {f:Addr} {vals:List Value} {binds lb:List (Str × Value)} {cv:List (Str × Nat × Option Value)} {rest:List Str} {gl:List (Str × Value)} {m:List (Str × Option Value)} {Q:Value → Heap → Prop}
    (Z:Stat h.get?) (R:Rm A (n + 1))
    (ho:(KM w.params).lookup f = some ⟨oc,od,.func (fnOf name qual params body scope dV kV doc pm an cdv ct),osl⟩) (hcd:codeIn (KM w.params) cdv qual = true)
    (hbind:bindArgs (fnOf name qual params body scope dV kV doc pm an cdv ct) ⟨vals,[]⟩ = pure binds)
    (hbk:(binds.map (·.1)).all (fun x=>scope.names.lookup x == some .local || (scope.names.lookup x == some .cell && ((cellsFrom 0 scope.names []).lookup x).isSome)) = true)
    (hlb:∀ p ∈ lb,bindL (fun x=>scope.names.lookup x) binds (fun _=>none) p.1 = some p.2)
    (hcv:∀ p ∈ cv,bindC (fun x=>scope.names.lookup x) binds (fun _=>none) p.1 = p.2.2)
    (hcl:∀ L,∀ p ∈ cv,(cellsFrom (L + 1) scope.names []).lookup p.1 = some (L + 1 + p.2.1))
    (hck:(cv.map (·.1)).all (fun x=>scope.names.lookup x == some .cell) = true) (hcn:decide ((cv.map (·.2.1)).Nodup) = true)
    (hsc:okScope scope (lb.map (·.1)) rest = true) (hgl:okGl scope gl = true)
    (hco:scope.isCoroutine = false) (hgen:scope.isGenerator = false) (hk:scope.kind = .function)
    (hm:mk0 lb rest = m)
    (k:∀ L env A' h₁,env = envOfC qual scope L f cdv → Rm A' n → Sc h.get? env (cv.map fun p=>(p.1,L + 1 + p.2.1)) gl → Keep h h₁ → St h.get? h.objs.size env m (fun _=>none) (cv.map fun p=>(L + 1 + p.2.1,CO p.2.2)) h₁ →
      WP A' (execs body env) (RetQ Q) h₁) :
    WP A (call (.ref f) vals []) Q h := by
  intro s tk
  have hsc' := hsc
  simp only [okScope,Bool.and_eq_true,List.all_eq_true,beq_iff_eq,decide_eq_true_eq] at hsc
  obtain ⟨⟨hl,hnd⟩,hdb⟩ := hsc
  have hdb : scope.names.lookup ("__debug__" : Str) = none := by simpa using hdb
  refine wpAny_call ?_
  refine codeAny_call_cells (fd := fnOf name qual params body scope dV kV doc pm an cdv ct) (body := body) (binds := binds) R.room (Z.inn _ _ ho) rfl Z.nolimit (codeRec_of Z.inn hcd) rfl hbind rfl ?_ (fun s₁ X=>?_) hco hgen hk
  · intro x hx
    have := List.all_eq_true.mp hbk x.1 (List.mem_map_of_mem hx)
    rcases Bool.or_eq_true_iff.mp this with q | q
    · exact .inl (by simpa using q)
    · rw [Bool.and_eq_true,beq_iff_eq] at q
      refine .inr ⟨q.1,?_⟩
      exact cellsFrom_some _ _ _ (.inl q.1)
  · have hX := X
    obtain ⟨h₁,tk₁,rfl,_⟩ := X.done
    have keep : Keep h h₁ := X.toInCall.keep
    have hcadr : ∀ p ∈ cv,h₁.IsCell (h.objs.size + 1 + p.2.1) p.2.2 := fun p hp=>by
      rw [← hcv p hp]
      exact X.cell p.1 _ (hcl h.objs.size p hp)
    have hnew : ∀ p ∈ cv,h.get? (h.objs.size + 1 + p.2.1) = none := fun p hp=>get?_none_of_ge (by lia)
    have hnd2 : (cv.map (·.2.1)).Nodup := of_decide_eq_true hcn
    have S : St h.get? h.objs.size (envOfC qual scope h.objs.size f cdv) (mk0 lb rest) (fun _=>none) (cv.map fun p=>(h.objs.size + 1 + p.2.1,CO p.2.2)) h₁ := by
      refine ⟨hk,?_,?_,⟨_,X.toInCall.ns,?_⟩,keep,(fun _ _ e=>nomatch e),?_,Nat.le_refl _,(fun _ _ e=>nomatch e),get?_size_none h,rfl,?_,?_,?_⟩
      · intro p hp
        refine hl p.1 ?_
        rw [← mk0_keys]; exact List.mem_map_of_mem hp
      · rw [mk0_keys]; exact hnd
      · intro p hp v hv
        unfold mk0 at hp
        rcases List.mem_append.mp hp with hp | hp
        · obtain ⟨q,hq,rfl⟩ := List.mem_map.mp hp
          cases hv
          exact hlb q hq
        · obtain ⟨x,_,rfl⟩ := List.mem_map.mp hp
          cases hv
      · intro p hp
        obtain ⟨q,hq,rfl⟩ := List.mem_map.mp hp
        exact hcadr q hq
      · intro p hp
        obtain ⟨q,hq,rfl⟩ := List.mem_map.mp hp
        exact hnew q hq
      · intro p hp; rfl
      · rw [List.nodup_cons,List.map_map]
        refine ⟨fun hm'=>?_,?_⟩
        · obtain ⟨q,hq,e⟩ := List.mem_map.mp hm'
          have e' : h.objs.size + 1 + q.2.1 = h.objs.size := e
          lia
        · have : ((fun x:Addr × OP=>x.1) ∘ fun p : Str × Nat × Option Value=>(h.objs.size + 1 + p.2.1,CO p.2.2)) = fun p=>h.objs.size + 1 + p.2.1 := rfl
          rw [this]
          rw [show (cv.map fun p : Str × Nat × Option Value=>h.objs.size + 1 + p.2.1) = (cv.map (·.2.1)).map (h.objs.size + 1 + ·) by rw [List.map_map]; rfl]
          exact List.pairwise_map.mpr (hnd2.imp fun hne e=>hne (Nat.add_left_cancel e))
    have C : Sc h.get? (envOfC qual scope h.objs.size f cdv) (cv.map fun p=>(p.1,h.objs.size + 1 + p.2.1)) gl := ⟨hdb,rfl,rfl,fun p hp=>by
      obtain ⟨q,hq,rfl⟩ := List.mem_map.mp hp
      have := List.all_eq_true.mp hck q.1 (List.mem_map_of_mem hq)
      exact ⟨by show scope.names.lookup q.1 = some .cell; simpa using this,hcl _ q hq⟩,okGl.sc Z hgl⟩
    refine wpAny_mono (k h.objs.size _ _ h₁ rfl R.deeper C keep (hm ▸ S) s _) (fun fl s' ⟨h',tk',e,q⟩=>⟨h',tk',e,?_⟩) fun _ _ x=>x.elim
    cases fl <;> exact q
end
end
section
section
variable {A:Around} {h:Heap} {env:Env}
noncomputable def TurnQ (J:Heap → Prop) (Q:Flow → Heap → Prop) : Flow → Heap → Prop := fun f h3=>match f with | .next=>J h3 | .cont=>J h3 | .brk=>Q .next h3 | .ret v=>Q (.ret v) h3
inductive Less (I:Nat → Heap → Prop) (n:Nat) (h:Heap) : Prop where
  | mk (m:Nat) (hm:m < n) (hI:I m h)
noncomputable def Turn (A:Around) (env:Env) (body:List Stmt) (J:Heap → Prop) (Q:Flow → Heap → Prop) (h:Heap) : Prop :=
  WP A (execs body env) (TurnQ J Q) h
theorem W_While {test body pos} {Q:Flow → Heap → Prop} (I:Nat → Heap → Prop) (n:Nat) (hI:I n h)
    (turn:∀ n h,I n h → WP A (isTrue test env (eval test env)) (fun b h1=>if b then Turn A env body (Less I n) Q h1 else Q .next h1) h) :
    WP A (exec (.While test body [] pos) env) Q h := by
  intro s tk
  refine wpAny_While ?_
  refine codeAny_whileLoop (fun n s'=>∃ h tk,s' = { s with heap := h,toks := tk } ∧ I n h) ?_ n ⟨h,tk,rfl,hI⟩
  rintro n s' ⟨h,tk,rfl,hI⟩
  refine (turn n h hI).go fun b h1 t1 q=>?_
  cases b with
  | false =>
    simp only [Bool.false_eq_true,if_false] at q ⊢
    exact wpAny_execs_nil ⟨h1,t1,rfl,q⟩
  | true =>
    simp only [if_true] at q ⊢
    refine WP.go q fun f h2 t2 q2=>?_
    cases f with
    | next=>obtain ⟨m,hm,hj⟩ := q2; exact ⟨m,hm,h2,t2,rfl,hj⟩
    | cont=>obtain ⟨m,hm,hj⟩ := q2; exact ⟨m,hm,h2,t2,rfl,hj⟩
    | brk=>exact ⟨h2,t2,rfl,q2⟩
    | ret v=>exact ⟨h2,t2,rfl,q2⟩
noncomputable def ForBody (A:Around) (env:Env) (target:PySem.Expr) (body:List Stmt) (Q:Flow → Heap → Prop) (it:Value) (h:Heap) : Prop :=
  ∃ (I:Nat → Heap → Prop) (n:Nat),I n h ∧ ∀ n h,I n h → WP A (pyNext it) (fun r h1=>match r with
    | none=>Q .next h1
    | some v=>WP A (letOwnedTupleGo target it v) (fun _ h1=>WP A (assign target env v) (fun _ h2=>Turn A env body (Less I n) Q h2) h1) h1) h
@[reducible] noncomputable def KFor (A:Around) (env:Env) (target:PySem.Expr) (body:List Stmt) (Q:Flow → Heap → Prop) : Value → Heap → Prop := fun xv h1=>WP A (pyIter xv) (ForBody A env target body Q) h1
theorem W_For {target iter body pos} {Q:Flow → Heap → Prop} (x:WP A (eval iter env) (KFor A env target body Q) h)
    (hs:∀ x,foldedSetIterable iter env x = pure x) : WP A (exec (.For target iter body [] pos) env) Q h := by
  intro s tk
  refine wpAny_For (x.go fun xv h1 t1 y=>y.go fun it h2 t2 z=>?_) hs
  obtain ⟨I,n,hI,turn⟩ := z
  refine codeAny_forLoop_any (fun n s'=>∃ h tk,s' = { s with heap := h,toks := tk } ∧ I n h) ?_ n ⟨h2,t2,rfl,hI⟩
  rintro n s' ⟨h,tk,rfl,hI⟩
  refine (turn n h hI).go fun r h1 t1 q=>?_
  cases r with
  | none=>exact wpAny_execs_nil ⟨h1,t1,rfl,q⟩
  | some v =>
    refine WP.go q fun _ h1 t1 q=>WP.go q fun _ h2 t2 q2=>WP.go q2 fun f h3 t3 q3=>?_
    cases f with
    | next=>obtain ⟨m,hm,hj⟩ := q3; exact ⟨m,hm,h3,t3,rfl,hj⟩
    | cont=>obtain ⟨m,hm,hj⟩ := q3; exact ⟨m,hm,h3,t3,rfl,hj⟩
    | brk=>exact ⟨h3,t3,rfl,q3⟩
    | ret v=>exact ⟨h3,t3,rfl,q3⟩
end
structure Itr (A:Around) (I:Addr) (n:Nat) (V:Nat → Value → Prop) (ent:Nat → OP) (need:Heap → Prop) : Prop where
  item : ∀ i h (Q:Option Value → Heap → Prop),i < n → At h.get? I (ent i) → need h → (∀ v h',V i v → At h'.get? I (ent (i + 1)) → Heap.ExtBut I h h' → Q (some v) h') → WP A (pyNext (.ref I)) Q h
  done : ∀ h (Q:Option Value → Heap → Prop),At h.get? I (ent n) → need h → (∀ h',Heap.ExtBut I h h' → Q none h') → WP A (pyNext (.ref I)) Q h
section
variable {A:Around} {K N:Pt} {n₀:Nat} {env:Env} {m m':List (Str × Option Value)} {M M':List (Addr × OP)} {h h':Heap} {cs:List (Str × Addr)} {gl:List (Str × Value)}
theorem St.off {a:Addr} {P:OP} (S:St K n₀ env m N ((a,P) :: M) h) (k:Heap.ExtBut a h h') : St K n₀ env m N M h' := by
  have nd := S.nd
  simp only [List.map_cons,List.nodup_cons,List.mem_cons,not_or] at nd
  have hK : K a = none := S.offMK (a,P) List.mem_cons_self
  have hN : N a = none := S.offMN (a,P) List.mem_cons_self
  refine { S.drop with ns := ?_,keep := ?_,per := ?_,led := ?_ }
  · obtain ⟨mm,hn,e⟩ := S.ns
    exact ⟨mm,hn.extBut k nd.1.1,e⟩
  · exact fun b o e=>k b o (by rintro rfl; rw [hK] at e; cases e) (S.keep b o e)
  · exact fun b o e=>k b o (by rintro rfl; rw [hN] at e; cases e) (S.per b o e)
  · intro p hp
    obtain ⟨o,ho,q⟩ := S.led p (List.mem_cons_of_mem _ hp)
    exact ⟨o,k _ _ (fun e=>nd.2.1 (e ▸ List.mem_map_of_mem hp)) ho,q⟩
abbrev Inv := Nat → List (Str × Option Value) → Pt → List (Addr × OP) → Prop
inductive InvAt (K:Pt) (n₀:Nat) (env:Env) (J:Inv) (e:Addr × OP) (i:Nat) (h:Heap) : Prop where
  | mk (m:List (Str × Option Value)) (N:Pt) (M:List (Addr × OP)) (hJ:J i m N M) (S:St K n₀ env m N (e :: M) h)
theorem for_itrT {target body} {Q:Flow → Heap → Prop} {I:Addr} {n:Nat} {V:Nat → Value → Prop} {ent:Nat → OP} {need:Heap → Prop} (T:Itr A I n V ent need) (J:Inv)
    (S:St K n₀ env m N ((I,ent 0) :: M) h) (hJ:J 0 m N M) (hl:∀ i v h (Q:Unit → Heap → Prop),V i v → At h.get? I (ent (i + 1)) → Q () h → WP A (letOwnedTupleGo target (.ref I) v) Q h)
    (hneed:∀ i m N M h P,J i m N M → St K n₀ env m N ((I,P) :: M) h → need h)
    (turn:∀ i v m N M h,i < n → V i v → J i m N M → St K n₀ env m N ((I,ent (i + 1)) :: M) h →
      WP A (assign target env v) (fun _ h2=>Turn A env body (InvAt K n₀ env J (I,ent (i + 1)) (i + 1)) Q h2) h)
    (done:∀ m N M h,J n m N M → St K n₀ env m N M h → Q .next h) : ForBody A env target body Q (.ref I) h := by
  refine ⟨fun k h=>∃ i,i ≤ n ∧ k = n - i ∧ InvAt K n₀ env J (I,ent i) i h,n,⟨0,Nat.zero_le _,rfl,m,N,M,hJ,S⟩,?_⟩
  rintro k h ⟨i,hi,rfl,m,N,M,hJ,S⟩
  have hn := hneed i m N M h _ hJ S
  by_cases hlt : i < n
  · refine T.item i h _ hlt (S.mm List.mem_cons_self) hn fun v h' hV ha hk=>?_
    have S' : St K n₀ env m N ((I,ent (i + 1)) :: M) h' := S.upd .head hk ha
    refine hl i v h' _ hV ha ?_
    refine (turn i v m N M h' hlt hV hJ S').mono fun _ h2 t=>?_
    refine WP.mono t fun f h3 q=>?_
    cases f with
    | next=>exact ⟨n - (i + 1),by lia,i + 1,hlt,rfl,q⟩
    | cont=>exact ⟨n - (i + 1),by lia,i + 1,hlt,rfl,q⟩
    | brk=>exact q
    | ret v=>exact q
  · have e : i = n := by lia
    subst e
    exact T.done h _ (S.mm List.mem_cons_self) hn fun h' hk=>done m N M h' hJ (S.off hk)
theorem for_itr {target body} {Q:Flow → Heap → Prop} {I:Addr} {n:Nat} {V:Nat → Value → Prop} {ent:Nat → OP} {need:Heap → Prop} (T:Itr A I n V ent need) (J:Inv)
    (S:St K n₀ env m N ((I,ent 0) :: M) h) (hJ:J 0 m N M) (hl:∀ v,letOwnedTupleGo target (.ref I) v = pure ())
    (hneed:∀ i m N M h P,J i m N M → St K n₀ env m N ((I,P) :: M) h → need h)
    (turn:∀ i v m N M h,i < n → V i v → J i m N M → St K n₀ env m N ((I,ent (i + 1)) :: M) h →
      WP A (assign target env v) (fun _ h2=>Turn A env body (InvAt K n₀ env J (I,ent (i + 1)) (i + 1)) Q h2) h)
    (done:∀ m N M h,J n m N M → St K n₀ env m N M h → Q .next h) : ForBody A env target body Q (.ref I) h :=
  for_itrT T J S hJ (fun i v h Q _ _ q=>by rw [hl]; exact WP_pure q) hneed turn done
noncomputable def LI (l:Addr) (i:Nat) : OP := fun o=>o.cls = .type "list_iterator" ∧ o.data = .fields #[.ref l,.int i 0]
theorem itr_list (hh:A.handled = none) (I l:Addr) (vs:List Value) : Itr A I vs.length (fun i v=>vs[i]? = some v) (LI l) (fun h=>At h.get? l (LO vs)) where
  item := fun i h Q hi ha hn q=>WP_lib fun s e=>by
    subst e
    obtain ⟨x,hx⟩ : ∃ x,vs[i]? = some x := ⟨vs[i],by simp [hi]⟩
    exact wpAny_pyNext_list_item (l := l) ha (LO.isList hn) (by simpa using hx) fun h' hit hs=>⟨h',_,rfl,q x h' hx hit hs.extBut⟩
  done := fun h Q ha hn q=>WP_lib fun s e=>by
    subst e
    exact wpAny_pyNext_list_end (l := l) hh ha (LO.isList hn) (by simp) fun h' hk=>⟨h',_,rfl,q h' hk⟩
theorem iter_list {l:Addr} {vs:List Value} {Q:Value → Heap → Prop} (S:St K n₀ env m N M h) (hl:At h.get? l (LO vs))
    (q:∀ I h',Keep h h' → St K n₀ env m N ((I,LI l 0) :: M) h' → Q (.ref I) h') : WP A (pyIter (.ref l)) Q h :=
  WP_lib fun s e=>by
    subst e
    exact wpAny_pyIter_list (LO.isList hl) ⟨_,_,rfl,q _ _ (fun b o e=>Heap.get?_push_of_some _ e) (S.new (fun b o e=>Heap.get?_push_of_some _ e) (get?_size_none _) ⟨_,Heap.get?_push_size _ rfl,rfl,rfl⟩)⟩
noncomputable def RI (a:Int) (n:Nat) (i:Nat) : OP := fun o=>o = { cls := .type "range_iterator",dict := none,data := .fields #[rawInt (a + (i:Nat) * 1),rawInt ((n:Int) - (i:Nat)),rawInt 1],slots := #[] }
theorem RI_iff {h:Heap} {I:Addr} {a:Int} {n i:Nat} : At h.get? I (RI a n i) ↔ IsRangeIter h I (a + (i:Nat) * 1) ((n:Int) - (i:Nat)) 1 := by
  constructor
  · rintro ⟨o,ho,rfl⟩; exact ho
  · exact fun x=>⟨_,x,rfl⟩
theorem itr_range (hh:A.handled = none) (I:Addr) (a:Int) (n:Nat) : Itr A I n (fun i v=>∃ t,v = .int (a + (i:Nat)) t) (RI a n) (fun _=>True) where
  item := fun i h Q hi ha _ q=>WP_lib fun s e=>by
    subst e
    refine (Walks.range hh I a 1 n).item i s _ _ hi (RI_iff.mp ha) fun v h' tk hv st hk=>⟨h',tk,rfl,q v h' ?_ (RI_iff.mpr st) fun b o hb e=>hk b o (by simpa using hb) e⟩
    obtain ⟨t,rfl⟩ := hv
    exact ⟨t,by rw [Int.mul_one]⟩
  done := fun h Q ha _ q=>WP_lib fun s e=>by
    subst e
    exact (Walks.range hh I a 1 n).done s _ _ (RI_iff.mp ha) fun h' tk hk=>⟨h',tk,rfl,q h' fun b o hb e=>hk b o (by simpa using hb) e⟩
end
theorem St.reI {K N:Pt} {n₀:Nat} {env:Env} {m:List (Str × Option Value)} {M:List (Addr × OP)} {h:Heap} {I:Addr} {a:Int} {n n' k:Nat} (S:St K n₀ env m N ((I,RI a n k) :: M) h) (e:n = n') : St K n₀ env m N ((I,RI a n' k) :: M) h := e ▸ S
end
section
structure New (h:Heap) (a:Addr) (P:OP) (h':Heap) : Prop where
  keep : Keep h h'
  none : h.get? a = none
  ge : h.objs.size ≤ a
  at_ : At h'.get? a P
theorem New.push (h:Heap) {o:Obj} {P:OP} (hf:o.isFreed = false) (hP:P o) : New h h.objs.size P (h.push o) := ⟨fun _ _ e=>Heap.get?_push_of_some _ e,get?_size_none _,Nat.le_refl _,⟨o,Heap.get?_push_size _ hf,hP⟩⟩
section
variable {A:Around} {K N:Pt} {n₀:Nat} {env:Env} {m m':List (Str × Option Value)} {M M':List (Addr × OP)} {h h':Heap} {cs:List (Str × Addr)} {gl:List (Str × Value)}
theorem St.born {a:Addr} {P:OP} (S:St K n₀ env m N M h) (n:New h a P h') : St K n₀ env m N ((a,P) :: M) h' := S.new n.keep n.none n.at_
theorem St.born_ge {a:Addr} {P:OP} (S:St K n₀ env m N M h) (n:New h a P h') : n₀ ≤ a := Nat.le_trans S.newer n.ge
theorem St.subl (S:St K n₀ env m N M h) (s:M'.Sublist M) : St K n₀ env m N M' h :=
  S.sub (fun p hp=>s.subset hp) ((s.map (·.1)).nodup (List.nodup_cons.mp S.nd).2)
theorem W_bindName {x:Str} {v:Value} {Q:Unit → Heap → Prop} (y:WP A (storeName env x v) Q h) : WP A (bindName env x v) Q h := fun s tk=>wpAny_bindName (y s tk)
@[reducible] noncomputable def KTupA (A:Around) (t:PySem.Expr) (env:Env) (Q:Flow → Heap → Prop) : Value → Heap → Prop := fun v h1=>WP A (assign t env v) (KNx Q) h1
@[reducible] noncomputable def KOrd (A:Around) (ts:List (Value → Sem Unit)) (xs:List Value) (Q:Unit → Heap → Prop) : Unit → Heap → Prop := fun _ h1=>WP A (assignInOrder ts xs) Q h1
theorem W_AssignTup {elts k tpos value pos} {Q:Flow → Heap → Prop} (x:WP A (eval value env) (KTupA A (.Tuple elts k tpos) env Q) h)
    (hs:swapsWithSole [.Tuple elts k tpos] value pos.line env = pure false) (hw:swappedStores [.Tuple elts k tpos] value env = pure none) : WP A (exec (.Assign [.Tuple elts k tpos] value pos) env) Q h :=
  fun s tk=>Assign_Tuple (x.go fun v h1 t1 y=>y.go fun _ h2 t2 z=>⟨h2,t2,rfl,z⟩) hs hw
theorem W_AssignSwap {elts k tpos value pos} {names:List Str} {Q:Flow → Heap → Prop} (x:WP A (eval value env) (fun v h1=>WP A (unpackItems v names.length none) (fun items h2=>WP A (assignInOrder (names.reverse.map fun n=>bindName env n) items.reverse) (fun _ h3=>Q .next h3) h2) h1) h)
    (hs:swapsWithSole [.Tuple elts k tpos] value pos.line env = pure false) (hw:swappedStores [.Tuple elts k tpos] value env = pure (some names)) : WP A (exec (.Assign [.Tuple elts k tpos] value pos) env) Q h :=
  fun s tk=>Assign_Tuple_swapped (x.go fun v h1 t1 y=>y.go fun _ h2 t2 z=>z.go fun _ h3 t3 u=>⟨h3,t3,rfl,u⟩) hs hw
theorem keep_of_extBut {h h':Heap} (x:Heap.ExtBut h.objs.size h h') : Keep h h' := fun b o e=>x b o (Nat.ne_of_lt (Heap.lt_size e)) e
theorem U_tuple {t:Addr} {vs:List Value} {n:Nat} {Q:List Value → Heap → Prop} (R:Rm A 0) (ht:At h.get? t (TO vs)) (hn:vs.length = n) (q:∀ h',Keep h h' → Q vs h') : WP A (unpackItems (.ref t) n none) Q h :=
  WP_lib fun s e=>by
    subst e
    have := wpAny_unpackItems_tuple (prog := prg) (w := w) (E := fun _ _=>False) (Q := fun a s'=>∃ h' tk',s' = { s with heap := h',toks := tk' } ∧ Q a h') R.h (TO.isTuple ht) (fun h' he=>⟨h',_,rfl,by simpa using q h' (keep_of_extBut he)⟩)
    rw [show vs.toArray.size = n by simpa using hn] at this
    exact this
theorem W_inOrder_nil {Q:Unit → Heap → Prop} {l} (q:Q () h) : WP A (assignInOrder [] l) Q h := by unfold assignInOrder; exact WP_pure q
theorem W_inOrder_cons {t:Value → Sem Unit} {ts:List (Value → Sem Unit)} {x:Value} {xs:List Value} {Q:Unit → Heap → Prop} (y:WP A (t x) (KOrd A ts xs Q) h) : WP A (assignInOrder (t :: ts) (x :: xs)) Q h := by
  unfold assignInOrder; exact WP_bind (WP_holding y)
noncomputable def Asg (A:Around) (env:Env) : List PySem.Expr → List Value → (Unit → Heap → Prop) → Heap → Prop
  | e :: es,v :: vs,Q,h=>WP A (assign e env v) (fun _ h1=>Asg A env es vs Q h1) h
  | _,_,Q,h=>Q () h
theorem A_cons {e es v vs} {Q:Unit → Heap → Prop} (x:WP A (assign e env v) (fun _ h1=>Asg A env es vs Q h1) h) : Asg A env (e :: es) (v :: vs) Q h := x
theorem A_nil {vs} {Q:Unit → Heap → Prop} (x:Q () h) : Asg A env [] vs Q h := by unfold Asg; exact x
theorem W_targets {elts:List PySem.Expr} {vs:List Value} {Q:Unit → Heap → Prop} (ha:assignEach elts env = elts.map fun e=>(false,assign e env)) (x:Asg A env elts vs Q h) : WP A (assignInOrder ((assignEach elts env).map (·.2)) vs) Q h := by
  rw [ha,List.map_map]
  clear ha
  induction elts generalizing vs h with
  | nil=>unfold Asg at x; unfold assignInOrder; exact WP_pure x
  | cons e es ih =>
    cases vs with
    | nil=>unfold Asg at x; unfold assignInOrder; exact WP_pure x
    | cons v vs=>exact W_inOrder_cons (WP.mono x fun _ h1 y=>ih y)
theorem W_assign_Tuple {elts k pos} {t:Addr} {vs:List Value} {Q:Unit → Heap → Prop} (R:Rm A 0) (ht:At h.get? t (TO vs)) (hn:vs.length = elts.length) (ha:assignEach elts env = elts.map fun e=>(false,assign e env))
    (x:∀ h',Keep h h' → Asg A env elts vs Q h') : WP A (assign (.Tuple elts k pos) env (.ref t)) Q h := by
  refine WP_lib fun s e=>?_
  subst e
  refine assign_Tuple_tuple R.h (TO.isTup ht) (by rw [ha]; simpa using hn.symm) (by rw [ha]; simp [List.findIdx?_map,Function.comp_def]) fun h' he=>?_
  have := W_targets ha (x h' (keep_of_extBut he)) s s.toks
  simp only [List.toList_toArray] at this ⊢
  exact wpAny_mono this (fun _ s' h'=>by obtain ⟨h1,t1,e,q⟩ := h'; exact ⟨h1,t1,e,q⟩) fun _ _ f=>f
theorem O_len {l:Addr} {vs:List Value} {Q:Value → Heap → Prop} (hl:At h.get? l (LO vs)) (hz:vs.length ≤ sizeLine) (q:∀ t,Q (.int vs.length t) h) : WP A (call (.builtin "len") [.ref l]) Q h :=
  WP_lib fun s e=>by
    subst e
    rw [sizeLine_eq] at hz
    refine PyProof.Rows.len_list (LO.isList hl) (by simp; lia) ⟨_,_,rfl,?_⟩
    simpa using q _
theorem O_truthy_list {l:Addr} {vs:List Value} {Q:Bool → Heap → Prop} (hl:At h.get? l (LO vs)) (hz:vs.length ≤ sizeLine) (q:Q (!vs.isEmpty) h) : WP A (truthy (.ref l)) Q h :=
  WP_lib fun s e=>by
    subst e
    rw [sizeLine_eq] at hz
    refine wpAny_truthy_list (LO.isList hl) (by simp; lia) ⟨_,_,rfl,?_⟩
    simpa using q
theorem O_append {l:Addr} {vs:List Value} {x:Value} {Q:Value → Heap → Prop} (S:St K n₀ env m N M h) (hm:(l,LO vs) ∈ M) (hz:vs.length ≤ sizeLine) (u:Upd l (LO (vs ++ [x])) M M') (q:∀ h',St K n₀ env m N M' h' → Q .none h') : WP A (call (.builtin "list.append") [.ref l,x]) Q h :=
  WP_lib fun s e=>by
    subst e
    refine wpAny_list_append_plain (LO.plain (S.mm hm)) (fun h' hp hs=>⟨h',_,rfl,q h' (S.upd u hs.extBut ?_)⟩) (by simpa using hz)
    simpa using LO.of hp
theorem O_concat {l b:Addr} {vs us:List Value} {Q:Value → Heap → Prop} (hl:At h.get? l (LO vs)) (hb:At h.get? b (LO us)) (hz:vs.length + us.length ≤ sizeLine) (q:∀ a h',New h a (LO (vs ++ us)) h' → Q (.ref a) h') : WP A (binaryOp .Add (.ref l) (.ref b)) Q h :=
  WP_lib fun s e=>by
    subst e
    obtain ⟨n,e1⟩ := LO.plain hl
    obtain ⟨n',e2⟩ := LO.plain hb
    refine P.add_list e1 e2 ⟨_,_,rfl,q _ _ (New.push _ rfl ⟨0,by simp⟩)⟩ (by simpa using hz)
theorem W_part_none {Q:Value → Heap → Prop} (q:Q .none h) : WP A (evalPart none env) Q h := by rw [evalPart_none]; exact WP_pure q
theorem W_part_some {e} {Q:Value → Heap → Prop} (x:WP A (eval e env) Q h) : WP A (evalPart (some e) env) Q h := by rw [evalPart_some]; exact x
noncomputable def lsl {α:Type} (vs:List α) (lo hi:Option Int) : List α := (vs.drop (lo.elim 0 (clipAt vs.length))).take (hi.elim vs.length (clipAt vs.length) - lo.elim 0 (clipAt vs.length))
noncomputable def SO (vl vu:Value) : OP := fun o=>o = { cls := .type "slice",data := .fields #[vl,vu,.none] }
theorem W_SliceE {lower upper p} {Q:Value → Heap → Prop} (x:WP A (evalPart lower env) (fun vl h2=>WP A (evalPart upper env) (fun vu h3=>∀ a h4,New h3 a (SO vl vu) h4 → Q (.ref a) h4) h2) h) : WP A (eval (.Slice lower upper none p) env) Q h :=
  fun s tk=>wpAny_Slice (x.go fun vl h1 t1 y=>y.go fun vu h2 t2 z=>by
    rw [evalPart_none]
    exact wpAny_pure ⟨_,_,rfl,z _ _ (New.push _ rfl rfl)⟩)
theorem O_subTail {value slice:PySem.Expr} {o i:Value} {T id:String} {ops:List Value} {Q:Value → Heap → Prop} (hT:∀ s : Shared,s.heap = h → s.TypeIs o T) (hl:typeLookup (.type T) "__getitem__" = pure (some (.builtin id)))
    (x:WP A (getItem o i) Q h) (hs:subscripted slice false o i = operate ops (getItem o i)) : WP A (subscriptTail value slice o i) Q h := by
  intro s tk
  unfold subscriptTail
  have hT' := hT { s with heap := h,toks := tk } rfl
  have tl : wpAny (model prg w) A (do let r ← subscripted slice false o i; letTemporaryGo value o r; pure r) (fun a s'=>∃ h' tk',s' = { s with heap := h',toks := tk' } ∧ Q a h') (fun _ _=>False) { s with heap := h,toks := tk } := by
    rw [hs]
    exact wpAny_bind (wpAny_operateT (x.go fun r h1 t1 q=>wpAny_bind (wpAny_letTemporaryGo (wpAny_pure ⟨h1,t1,rfl,q⟩))))
  refine wpAny_bind ?_
  rw [getitemInPython_of_ne hT'.not_modules]
  refine wpAny_bind (wpAny_specialOf hT' hl ?_)
  exact wpAny_pure tl
theorem O_slice_list {value slice:PySem.Expr} {l a:Addr} {vl vu:Value} {vs:List Value} {lo hi:Option Int} {Q:Value → Heap → Prop} (hl:At h.get? l (LO vs)) (ha:At h.get? a (SO vl vu)) (hz:vs.length ≤ sizeLine) (pl:IsPart vl lo) (pu:IsPart vu hi)
    (q:∀ b h4,New h b (LO (lsl vs lo hi)) h4 → Q (.ref b) h4) (hs:subscripted slice false (.ref l) (.ref a) = operate [.ref a,.ref l] (getItem (.ref l) (.ref a))) :
    WP A (subscriptTail value slice (.ref l) (.ref a)) Q h := by
  refine O_subTail (T := "list") (fun s e=>?_) list_getitem_lookup (WP_lib fun s e=>?_) hs
  · subst e; exact (LO.isList hl).typeIs
  · subst e
    obtain ⟨o,ho,rfl⟩ := ha
    refine wpAny_getItem_list_slice (LO.isList hl) ⟨_,ho,rfl,rfl⟩ pl pu .none (by simp) ⟨_,_,rfl,q _ _ (New.push _ rfl ⟨0,?_⟩)⟩ (by simpa using hz)
    rw [slicePick_plain]; simp [lsl]
theorem O_item {value slice:PySem.Expr} {l:Addr} {vs:List Value} {k:Int} {u:Tok} {x:Value} {Q:Value → Heap → Prop} (hl:At h.get? l (LO vs)) (h0:0 ≤ k) (hx:vs[k.toNat]? = some x) (hsz:vs.length ≤ sizeLine) (q:Q x h)
    (hs:subscripted slice false (.ref l) (.int k u) = operate [.ref l,.int k u] (getItem (.ref l) (.int k u))) : WP A (subscriptTail value slice (.ref l) (.int k u)) Q h := by
  refine O_subTail (T := "list") (fun s e=>?_) list_getitem_lookup (WP_lib fun s e=>?_) hs
  · subst e; exact (LO.isList hl).typeIs
  · subst e
    rw [sizeLine_eq] at hsz
    have hk : k < 2 ^ 63 := by
      have := (List.getElem?_eq_some_iff.mp hx).1
      lia
    exact wpAny_getItem_list (LO.isList hl) h0 hk (by simpa using hx) ⟨_,_,rfl,q⟩
noncomputable def RO (a b:Int) : OP := fun o=>∃ t u v,o = { cls := .type "range",dict := none,data := .fields #[.int a t,.int b u,.int 1 v],slots := #[] }
theorem O_range1 {n:Int} {t:Tok} {Q:Value → Heap → Prop} (q:∀ a h',New h a (RO 0 n) h' → Q (.ref a) h') : WP A (call (.type "range") [.int n t]) Q h :=
  WP_lib fun s e=>by subst e; exact call_range_1 ⟨_,_,rfl,q _ _ (New.push _ rfl ⟨_,_,_,rfl⟩)⟩
theorem O_range2 {n k:Int} {t u:Tok} {Q:Value → Heap → Prop} (q:∀ a h',New h a (RO n k) h' → Q (.ref a) h') : WP A (call (.type "range") [.int n t,.int k u]) Q h :=
  WP_lib fun s e=>by subst e; exact call_range_2 ⟨_,_,rfl,q _ _ (New.push _ rfl ⟨_,_,_,rfl⟩)⟩
theorem iter_range {r:Addr} {a b:Int} {Q:Value → Heap → Prop} (hr:At h.get? r (RO a b)) (ha:-(2 ^ 62) ≤ a ∧ a < 2 ^ 62) (hb:-(2 ^ 62) ≤ b ∧ b < 2 ^ 62)
    (q:∀ I h',New h I (RI a (b - a).toNat 0) h' → Q (.ref I) h') : WP A (pyIter (.ref r)) Q h :=
  WP_lib fun s e=>by
    subst e
    obtain ⟨o,ho,t,u,v,rfl⟩ := hr
    refine wpAny_pyIter_range ho (small_one ha.1 ha.2 hb.1 hb.2) ⟨_,_,rfl,q _ _ (New.push _ rfl ?_)⟩
    show _ = _
    rw [rangeSize_one]
    have : (if a < b then b - a else 0) = (((b - a).toNat : Nat) : Int) := by split <;> lia
    rw [this]
    simp
@[reducible] noncomputable def KM3 (A:Around) (fp:Value × List Value) (Q:Value → Heap → Prop) : List Value → Heap → Prop := fun vs h3=>Kp A fp.1 h3 ∧ WP A (call fp.1 (fp.2 ++ vs)) Q h3
@[reducible] noncomputable def KM2 (A:Around) (pos:Pos) (args:List PySem.Expr) (env:Env) (Q:Value → Heap → Prop) : Value × List Value → Heap → Prop := fun fp h2=>WP A (spliced (backTo pos (starEach args env))) (KM3 A fp Q) h2
@[reducible] noncomputable def KM1 (A:Around) (o:PySem.Expr) (name:Str) (pos:Pos) (args:List PySem.Expr) (env:Env) (Q:Value → Heap → Prop) : Value → Heap → Prop := fun ov h1=>WP A (getMethod ov name (do return (← importBound o env).getD true)) (KM2 A pos args env Q) h1
theorem W_CallMeth {o name apos args pos} {Q:Value → Heap → Prop}
    (x:WP A (eval o env) (KM1 A o name pos args env Q) h)
    (hbase:attributeBase o name env (eval o env) = eval o env) (hform:methodCallForm (args.length + ([] : List Keyword).length) (backTo pos (starEach args env)) (backToKw pos (keywordEach [] env)) = true)
    (hline:(apos.endLine == pos.line) = true) (hpl:(backTo pos (starEach args env)).any (·.1) = false) : WP A (eval (.Call (.Attribute o name apos) args [] pos) env) Q h := by
  rw [arm_eval_Call,hbase]
  refine WP_bind (x.mono fun ov h1 y=>WP_bind (WP_standAt ?_))
  unfold methodCall
  rw [hform]
  refine WP_bind (WP_holding ?_)
  show WP A (getMethod ov name (do return (← importBound o env).getD true)) _ h1
  refine y.mono fun fp h2 z=>?_
  have hpos : methodCallPos true o env apos pos = pure pos := by unfold methodCallPos; simp [hline]
  dsimp only
  refine WP_bind (WP_of_eq hpos (WP_pure ?_))
  exact W_callWith hpl z
theorem M_obj {a:Addr} {T:String} {name:Str} {id:String} {pl:Sem Bool} {o:Obj} {Q:Value × List Value → Heap → Prop} (ho:h.get? a = some o) (hc:o.cls = .type T) (hd:o.dict = none) (pa:PlainAttrs T) (slot:Slot T name id) (hty:typeOf (.builtin id) = pure (.type "method_descriptor"))
    (q:Q (.builtin id,[.ref a]) h) : WP A (getMethod (.ref a) name pl) Q h :=
  WP_lib fun s e=>by
    subst e
    exact getMethod_builtin ⟨o,ho,hc⟩ pa slot hty (fun b e=>by cases e; exact ⟨o,ho,hd⟩) ⟨_,_,rfl,q⟩
theorem M_list {l:Addr} {vs:List Value} {name:Str} {id:String} {pl:Sem Bool} {Q:Value × List Value → Heap → Prop} (hl:At h.get? l (LO vs)) (slot:Slot "list" name id) (hty:typeOf (.builtin id) = pure (.type "method_descriptor"))
    (q:Q (.builtin id,[.ref l]) h) : WP A (getMethod (.ref l) name pl) Q h := by
  obtain ⟨o,ho,n,rfl⟩ := hl
  exact M_obj ho rfl rfl F.plainAttrs_list slot hty q
end
theorem lsl_len {α:Type} (vs:List α) (lo hi:Option Int) : (lsl vs lo hi).length ≤ vs.length := by
  unfold lsl; rw [List.length_take,List.length_drop]; exact Nat.le_trans (Nat.min_le_right _ _) (Nat.sub_le _ _)
theorem clip_nat {n k:Nat} (h:k ≤ n) : clipAt n (k:Int) = k := by
  unfold clipAt; rw [if_neg (Int.not_lt.mpr (Int.natCast_nonneg k)),Int.min_eq_left (Int.ofNat_le.mpr h),Int.max_eq_right (Int.natCast_nonneg k),Int.toNat_natCast]
theorem ints_append {a b:List Value} {x y:List Int} (ha:IntsAre a x) (hb:IntsAre b y) : IntsAre (a ++ b) (x ++ y) := by
  induction ha with
  | nil=>exact hb
  | cons n t _ ih=>exact .cons n t ih
theorem ints_lsl {a:List Value} {x:List Int} (ha:IntsAre a x) (lo hi:Option Int) : IntsAre (lsl a lo hi) (lsl x lo hi) := by
  unfold lsl
  rw [ha.length]
  exact (ha.drop _).take _
theorem lsl_mem {α:Type} {vs:List α} {lo hi:Option Int} {x:α} (h:x ∈ lsl vs lo hi) : x ∈ vs := List.mem_of_mem_drop (List.mem_of_mem_take h)
theorem ints_get {vs:List Value} {ns:List Int} (hi:IntsAre vs ns) {i:Nat} {v:Value} (h:vs[i]? = some v) : ∃ n t,v = .int n t ∧ ns[i]? = some n := by
  induction hi generalizing i with
  | nil=>simp at h
  | cons n t _ ih =>
    cases i with
    | zero=>simp at h; exact ⟨n,t,h.symm,by simp⟩
    | succ i=>simp at h; obtain ⟨a,b,c,d⟩ := ih h; exact ⟨a,b,c,by simpa using d⟩
theorem ints_get' {vs:List Value} {ns:List Int} (hi:IntsAre vs ns) {i:Nat} {n:Int} (h:ns[i]? = some n) : ∃ t,vs[i]? = some (.int n t) := by
  induction hi generalizing i with
  | nil=>simp at h
  | cons n t _ ih =>
    cases i with
    | zero=>simp at h; subst h; exact ⟨t,by simp⟩
    | succ i=>simp at h; obtain ⟨a,b⟩ := ih h; exact ⟨a,by simpa using b⟩
theorem ints_one (n:Int) (t:Tok) : IntsAre [.int n t] [n] := .cons n t .nil
end
section
inductive Ents : List DictEntry → List (Str × Value) → Prop
  | nil : Ents [] []
  | cons (h:Int) (k:Str) (t:Tok) (v:Value) {es:List DictEntry} {m:List (Str × Value)} : Ents es m → Ents (⟨h,.str k t,v⟩ :: es) ((k,v) :: m)
noncomputable def setL (name:Str) (v:Value) : List (Str × Value) → List (Str × Value)
  | []=>[(name,v)]
  | (k,u) :: m=>if k == name then (k,v) :: m else (k,u) :: setL name v m
theorem Ents.length {es:List DictEntry} {m:List (Str × Value)} (e:Ents es m) : es.length = m.length := by
  induction e with
  | nil=>rfl
  | cons _ _ _ _ _ ih=>simp [ih]
theorem Ents.noRef {es:List DictEntry} {m:List (Str × Value)} (e:Ents es m) : es.any (·.refKey) = false := by
  induction e with
  | nil=>rfl
  | cons _ _ _ _ _ ih=>rw [List.any_cons,ih]; rfl
theorem Ents.look {es:List DictEntry} {m:List (Str × Value)} (e:Ents es m) (name:Str) : (es.find? (·.key.isStr name)).map (·.val) = m.lookup name := by
  induction e with
  | nil=>rfl
  | cons h k t v _ ih =>
    rw [List.find?_cons,List.lookup_cons]
    show Option.map _ (match (k == name) with | true=>_ | false=>_) = _
    by_cases hk : k = name
    · subst hk; simp
    · have h1 : (k == name) = false := by simpa using hk
      have h2 : (name == k) = false := by simpa using fun h=>hk h.symm
      rw [h1,h2]; exact ih
theorem Ents.put {es:List DictEntry} {m:List (Str × Value)} (e:Ents es m) (name:Str) (h:Int) (t:Tok) (v:Value) (f:Option DictEntry → DictEntry) (f0:f none = ⟨h,.str name t,v⟩) (f1:∀ e,f (some e) = { e with val := v }) :
    Ents (nsPutIn name.cps.size name.cps.toList f es).1 (setL name v m) := by
  induction e with
  | nil=>unfold nsPutIn; rw [f0]; exact .cons _ _ _ _ .nil
  | cons h' k t' u e ih =>
    unfold nsPutIn setL
    rw [Value.isStrByCps_eq,show (Value.str k t').isStr name = (k == name) from rfl]
    by_cases hk : (k == name) = true
    · rw [if_pos hk,if_pos hk,f1]; exact .cons _ _ _ _ e
    · rw [if_neg hk,if_neg hk]; exact .cons _ _ _ _ ih
noncomputable def AO (m:List (Str × Value)) : OP := fun o=>∃ es n,o = { cls := .type "dict",data := .dict es.toArray n } ∧ Ents es m ∧ m.length ≤ 100
theorem AO.look {m:List (Str × Value)} {o:Obj} (x:AO m o) (name:Str) : lookIn name o = some (m.lookup name) := by
  obtain ⟨es,n,rfl,e,_⟩ := x
  unfold lookIn
  dsimp only
  have hl := e.look name
  split
  · rename_i en he; rw [he] at hl; rw [← hl]; rfl
  · rename_i he
    rw [he] at hl
    rw [e.noRef,← hl]; rfl
theorem AO.put {m:List (Str × Value)} {o:Obj} (x:AO m o) (name:Str) (h:Int) (t:Tok) (v:Value) (hz:(setL name v m).length ≤ 100) : AO (setL name v m) (Obj.putName name h (.str name t) v o) := by
  obtain ⟨es,n,rfl,e,_⟩ := x
  unfold Obj.putName
  dsimp only
  have := e.put name h t v (fun | some e=>{ e with val := v } | none=>⟨h,.str name t,v⟩) rfl (fun _=>rfl)
  split
  · rename_i es' he
    have e2 := congrArg Prod.fst he
    exact ⟨es',n,rfl,by rw [← show _ = es' from e2]; exact this,hz⟩
  · rename_i es' he
    have e2 := congrArg Prod.fst he
    exact ⟨es',n + 1,rfl,by rw [← show _ = es' from e2]; exact this,hz⟩
noncomputable def XO (C dx:Addr) : OP := fun o=>o = instObj C dx
theorem inst_at {h:Heap} {x C dx:Addr} {m:List (Str × Value)} (hx:At h.get? x (XO C dx)) {od:Obj} (hd:h.get? dx = some od) : InstAt h x (instObj C dx) C (some od) := by
  obtain ⟨o,ho,rfl⟩ := hx
  exact ⟨ho,rfl,rfl,hd⟩
noncomputable def readOk (K:Frag) (C:Addr) (name:Str) : Bool := findIn K (.ref C) "__getattribute__" == some (some (.builtin "object.__getattribute__")) && findIn K (.ref C) name == some none && (clsIn K C).any (·.hasDict)
noncomputable def storeOk (K:Frag) (C:Addr) (name:Str) : Bool := findIn K (.ref C) "__setattr__" == some (some (.builtin "object.__setattr__")) && plainOver K C && findIn K (.ref C) name == some none && (clsIn K C).any (·.hasDict)
noncomputable def methOk (K:Frag) (C f:Addr) (name:Str) : Bool := findIn K (.ref C) "__getattribute__" == some (some (.builtin "object.__getattribute__")) && findIn K (.ref C) "__getattr__" == some none && findIn K (.ref C) name == some (some (.ref f)) && typeIn K (.ref f) == some (.type "function")
section
variable {A:Around} {K N:Pt} {n₀:Nat} {env:Env} {m m':List (Str × Option Value)} {M M':List (Addr × OP)} {h h':Heap} {cs:List (Str × Addr)} {gl:List (Str × Value)}
theorem O_attr {x C dx:Addr} {name:Str} {ms:List (Str × Value)} {v:Value} {expr:Bool} {Q:Value → Heap → Prop} (Z:Stat h.get?) (hx:At h.get? x (XO C dx)) (hd:At h.get? dx (AO ms)) (hc:readOk (KM w.params) C name = true) (hv:ms.lookup name = some v) (hh:handedIn v = true) (q:Q v h) :
    WP A (getAttr (.ref x) name expr) Q h :=
  WP_lib fun s e=>by
    subst e
    obtain ⟨od,ho,hP⟩ := hd
    simp only [readOk,Bool.and_eq_true,beq_iff_eq] at hc
    obtain ⟨⟨c1,c2⟩,c3⟩ := hc
    refine get_value Z.inn (inst_at (m := ms) hx ho) c1 ?_ hh ⟨_,_,rfl,q⟩
    obtain ⟨cd,hcd,hdd⟩ := any_some c3
    unfold findObj
    rw [hcd,c2]
    simp only [Option.bind_some,PySem.W.ownOf,hdd,if_true,hP.look,hv]
theorem O_meth {x C f dx:Addr} {name:Str} {ms:List (Str × Value)} {pl:Sem Bool} {Q:Value × List Value → Heap → Prop} (Z:Stat h.get?) (hx:At h.get? x (XO C dx)) (hd:At h.get? dx (AO ms)) (hc:methOk (KM w.params) C f name = true) (hv:ms.lookup name = none) (q:Q (.ref f,[.ref x]) h) :
    WP A (getMethod (.ref x) name pl) Q h :=
  WP_lib fun s e=>by
    subst e
    obtain ⟨od,ho,hP⟩ := hd
    simp only [methOk,Bool.and_eq_true,beq_iff_eq] at hc
    obtain ⟨⟨⟨c1,c2⟩,c3⟩,c4⟩ := hc
    refine method_fn Z.inn (inst_at (m := ms) hx ho) c1 c2 c3 c4 ?_ ⟨_,_,rfl,q⟩
    show Option.map _ (lookIn name od) = some false
    rw [hP.look,hv]; rfl
theorem O_setattr {x C dx:Addr} {name:Str} {ms:List (Str × Value)} {v:Value} {Q:Unit → Heap → Prop} (S:St K n₀ env m N M h) (Z:Stat h.get?) (hx:At h.get? x (XO C dx)) (hd:(dx,AO ms) ∈ M) (hc:storeOk (KM w.params) C name = true) (hz:(setL name v ms).length ≤ 100) (u:Upd dx (AO (setL name v ms)) M M')
    (q:∀ h',St K n₀ env m N M' h' → Q () h') : WP A (setAttr (.ref x) name v) Q h :=
  WP_lib fun s e=>by
    subst e
    obtain ⟨od,ho,hP⟩ := S.mm hd
    simp only [storeOk,Bool.and_eq_true,beq_iff_eq] at hc
    obtain ⟨⟨⟨c1,c2⟩,c3⟩,c4⟩ := hc
    obtain ⟨cd,hcd,hdd⟩ := any_some c4
    have X := Z.inn
    have I := inst_at (m := ms) hx ho
    obtain ⟨ox,hox,rfl⟩ := hx
    refine set_plain X I c1 ?_
    refine osa_open (s := { s with toks := s.toks + 1 }) X I c2 (r := none) (by unfold takerIn; rw [c3]; rfl) fun b=>?_
    refine wpAny_bind (wpAny_pure (wpAny_bind (wpAny_bind (wpAny_loadPart hox (wpAny_bind (looks_clsIn X hcd _ _ _ _ (fun _ _ e=>e) ?_))))))
    rw [hdd]
    refine wpAny_pure (a := some dx) (wpAny_bind (wpAny_pure (wpAny_bind ?_)))
    unfold nsSet
    refine wpAny_bind (wpAny_bind (wpAny_askSetting (wpAny_pure (wpAny_bind (wpAny_mkText (wpAny_bind (wpAny_loadPart ho ?_)))))))
    have hP' := fun hsh=>hP.put name hsh (s.toks + 1) v hz
    obtain ⟨es,n,rfl,he,hle⟩ := hP
    dsimp only
    have hr : aRefKeyMayBeTheName name es.toArray = false := by
      rw [aRefKeyMayBeTheName_at]
      have := he.noRef
      simp [this]
    rw [hr]
    refine wpAny_updatePart ho ?_
    generalize (if name.cps.isEmpty = true then (0:Int) else reduceHash ((model prg w).w.params.strHash name.cps)) = hsh at *
    have hP2 := hP' hsh
    have hself := Heap.get?_update_self (Obj.putName name hsh (.str name (s.toks + 1)) v) ho (by
      obtain ⟨es',n',e',_⟩ := hP2; rw [e']; rfl)
    refine wpAny_bind (wpAny_lookBehind (o := Obj.putName name hsh (.str name (s.toks + 1)) v { cls := .type "dict",data := .dict es.toArray n }) hself ?_ ?_)
    · obtain ⟨es',n',e',he',hz'⟩ := hP2
      rw [e']
      exact pastItsLine_dict (by rw [List.size_toArray,he'.length,sizeLine_eq]; lia)
    · exact wpAny_pure ⟨_,_,rfl,q _ (S.upd u (Heap.SameBut.update ..).extBut ⟨_,hself,hP2⟩)⟩
end
end
section
noncomputable def minus (K:Pt) (d:Addr) : Pt := fun b=>if b = d then none else K b
theorem minus_sub {K:Pt} {d:Addr} : Sub (minus K d) K := fun b o e=>by
  unfold minus at e
  split at e
  · cases e
  · exact e
theorem minus_at {K:Pt} {d a:Addr} {P:OP} (x:At K a P) (hne:a ≠ d) : At (minus K d) a P := let ⟨o,ho,hP⟩ := x; ⟨o,by unfold minus; rw [if_neg hne]; exact ho,hP⟩
theorem minus_mono {K K':Pt} {d:Addr} (s:Sub (minus K d) K') : Sub (minus K d) (minus K' d) := fun b o e=>by
  have h1 : b ≠ d := by rintro rfl; unfold minus at e; rw [if_pos rfl] at e; cases e
  unfold minus
  rw [if_neg h1]; exact s b o e
theorem minus_ext {h h':Heap} {d:Addr} (s:Sub (minus h.get? d) h'.get?) : Heap.ExtBut d h h' := fun b o hne e=>s b o (by unfold minus; rw [if_neg hne]; exact e)
theorem sub_minus {K K':Pt} {d:Addr} (s:Sub K K') (hd:K d = none) : Sub K (minus K' d) := fun b o e=>by
  have h1 : b ≠ d := by rintro rfl; rw [hd] at e; cases e
  unfold minus
  rw [if_neg h1]; exact s b o e
section
variable {A:Around} {K N:Pt} {n₀:Nat} {env:Env} {m m':List (Str × Option Value)} {M M':List (Addr × OP)} {h h':Heap} {cs:List (Str × Addr)} {gl:List (Str × Value)}
theorem St.opens {dx:Addr} {P:OP} (S:St K n₀ env m (fun _=>none) [] h) (x:At K dx P) : St (minus K dx) n₀ env m (fun _=>none) [(dx,P)] h where
  fn := S.fn
  loc := S.loc
  ndk := S.ndk
  ns := S.ns
  keep := minus_sub.trans S.keep
  per := S.per
  led := fun p hp=>by rw [List.mem_singleton.mp hp]; exact x.up S.keep
  newL := S.newL
  newN := S.newN
  offK := by unfold minus; split; rfl; exact S.offK
  offN := S.offN
  offMK := fun p hp=>by rw [List.mem_singleton.mp hp]; unfold minus; rw [if_pos rfl]
  offMN := fun _ _=>rfl
  nd := by
    obtain ⟨o,ho,_⟩ := x
    simp only [List.map_cons,List.map_nil,List.nodup_cons,List.mem_singleton,List.not_mem_nil,not_false_eq_true,List.nodup_nil,and_true]
    rintro rfl
    rw [S.offK] at ho; cases ho
theorem enterM {name qual:Str} {params:Arguments} {body:List Stmt} {scope:Scope} {dV kV doc pm cdv ct oc:Value} {an od:Option Addr} {osl:Array (Option Value)} {f dx:Addr} {P:OP} {args:Args} {binds:List (Str × Value)} {rest:List Str} {gl:List (Str × Value)} {m:List (Str × Option Value)} {n:Nat} {Q:Value → Heap → Prop}
    (Z:Stat (minus h.get? dx)) (R:Rm A (n + 1)) (hd:At h.get? dx P)
    (ho:(KM w.params).lookup f = some ⟨oc,od,.func (fnOf name qual params body scope dV kV doc pm an cdv ct),osl⟩) (hcd:codeIn (KM w.params) cdv qual = true)
    (hbind:∀ s : Shared,s.heap = h → BindsTo s (fnOf name qual params body scope dV kV doc pm an cdv ct) args binds)
    (hsc:okScope scope (binds.map (·.1)) rest = true) (hgl:okGl scope gl = true)
    (hco:scope.isCoroutine = false) (hgen:scope.isGenerator = false) (hk:scope.kind = .function) (hcell:(scope.names.all fun x=>x.2 != .cell) = true)
    (hm:mk0 binds rest = m)
    (k:∀ L env A' h₁,env = envOf qual scope L f cdv → Rm A' n → Sc (minus h.get? dx) env [] gl → Keep h h₁ → St (minus h.get? dx) h.objs.size env m (fun _=>none) [(dx,P)] h₁ →
      WP A' (execs body env) (RetQ Q) h₁) :
    WP A (call (.ref f) args.pos args.kw) Q h := by
  refine enter (Z.up minus_sub) R ho hcd hbind hsc hco hgen hk (fun x hx=>by simpa using List.all_eq_true.mp hcell x hx) fun L h₁ K₁ S=>?_
  have hdb : scope.names.lookup ("__debug__" : Str) = none := by
    simp only [okScope,Bool.and_eq_true] at hsc
    simpa using hsc.2
  refine (k L (envOf qual scope L f cdv) _ h₁ rfl R.deeper ⟨hdb,rfl,rfl,(fun _ hp=>nomatch hp),okGl.sc Z hgl⟩ K₁ ((hm ▸ S).opens hd)).mono fun fl h' q=>?_
  cases fl <;> exact q
theorem W_Attr {value:PySem.Expr} {attr:Str} {pos:Pos} {Q:Value → Heap → Prop} (x:WP A (eval value env) (fun o h1=>WP A (getAttr o attr true) Q h1) h)
    (he:eval (.Attribute value attr pos) env = (do
      let o ← eval value env
      standAt pos.atName
      let r ← holding [o] (getAttr o attr true)
      letTemporaryGo value o r
      pure r)) : WP A (eval (.Attribute value attr pos) env) Q h :=
  fun s tk=>Attribute_any_ (x.go fun o h1 t1 y=>y s t1) he
theorem W_AssignAttr {o:PySem.Expr} {attr:Str} {pos':Pos} {value:PySem.Expr} {pos:Pos} {Q:Flow → Heap → Prop} (x:WP A (eval value env) (fun v h1=>WP A (eval o env) (fun ov h2=>WP A (setAttr ov attr v) (fun _ h3=>Q .next h3) h2) h1) h)
    (hs:swapsWith value (some (.Attribute o attr pos')) pos.line env = pure false) : WP A (exec (.Assign [.Attribute o attr pos'] value pos) env) Q h :=
  fun s tk=>plainObj_wpAny_Assign_Attribute (x.go fun v h1 t1 y=>y.go fun ov h2 t2 z=>z.go fun _ h3 t3 q=>⟨h3,t3,rfl,q⟩) hs
theorem W_Assign2 {t₁ t₂ value:PySem.Expr} {pos:Pos} {Q:Flow → Heap → Prop} (x:WP A (eval value env) (fun v h1=>WP A (assign t₁ env v) (fun _ h2=>WP A (assign t₂ env v) (fun _ h3=>Q .next h3) h2) h1) h)
    (he:(assignEach [t₁,t₂] env).map (·.2) = [assign t₁ env,assign t₂ env]) (hw:swappedStores [t₁,t₂] value env = pure none) : WP A (exec (.Assign [t₁,t₂] value pos) env) Q h :=
  fun s tk=>wpAny_Assign_two (x.go fun v h1 t1 y=>y.go fun _ h2 t2 z=>z.go fun _ h3 t3 q=>⟨h3,t3,rfl,q⟩) he hw
theorem W_Assign3 {t₁ t₂ t₃ value:PySem.Expr} {pos:Pos} {Q:Flow → Heap → Prop} (x:WP A (eval value env) (fun v h1=>WP A (assign t₁ env v) (fun _ h2=>WP A (assign t₂ env v) (fun _ h3=>WP A (assign t₃ env v) (fun _ h4=>Q .next h4) h3) h2) h1) h)
    (he:(assignEach [t₁,t₂,t₃] env).map (·.2) = [assign t₁ env,assign t₂ env,assign t₃ env]) (hw:swappedStores [t₁,t₂,t₃] value env = pure none) : WP A (exec (.Assign [t₁,t₂,t₃] value pos) env) Q h :=
  fun s tk=>wpAny_Assign_three (x.go fun v h1 t1 y=>y.go fun _ h2 t2 z=>z.go fun _ h3 t3 q=>q.go fun _ h4 t4 r=>⟨h4,t4,rfl,r⟩) he hw
theorem W_assign_Attr {o:PySem.Expr} {attr:Str} {pos:Pos} {v:Value} {Q:Unit → Heap → Prop} (x:WP A (eval o env) (fun ov h1=>WP A (setAttr ov attr v) Q h1) h) : WP A (assign (.Attribute o attr pos) env v) Q h := by
  rw [arm_assign_Attribute]
  refine WP_bind (WP_holding (x.mono fun ov h1 y=>WP_bind (WP_standAt (WP_bind (WP_holding (y.mono fun _ h2 z=>?_))))))
  exact WP_release z
theorem W_assign_Sub {o i:PySem.Expr} {pos:Pos} {v:Value} {Q:Unit → Heap → Prop} (x:WP A (eval o env) (fun ov h1=>WP A (eval i env) (fun iv h2=>WP A (setItem ov iv v) Q h2) h1) h) : WP A (assign (.Subscript o i pos) env v) Q h := by
  rw [arm_assign_Subscript]
  refine WP_bind (WP_holding (x.mono fun ov h1 y=>WP_bind (WP_holding (y.mono fun iv h2 z=>WP_bind (WP_standAt (WP_bind (WP_holding (z.mono fun _ h3 u=>?_))))))))
  exact WP_release u
end
end
section
noncomputable def attrNames : List Str := [Str.ofString "isjunk",Str.ofString "a",Str.ofString "b",Str.ofString "autojunk",Str.ofString "matching_blocks",Str.ofString "opcodes",Str.ofString "fullbcount",Str.ofString "b2j",Str.ofString "bjunk",Str.ofString "bpopular"]
noncomputable def methNames : List (Addr × Str) := [(160,Str.ofString "__init__"),(167,Str.ofString "set_seqs"),(174,Str.ofString "set_seq1"),(181,Str.ofString "set_seq2"),(188,Str.ofString "_SequenceMatcher__chain_b"),(196,Str.ofString "find_longest_match"),(203,Str.ofString "get_matching_blocks"),(210,Str.ofString "get_opcodes")]
theorem aOk (P:Params) : (attrNames.all fun n=>readOk (KM P) 242 n && storeOk (KM P) 242 n) = true := by kernel_rfl
theorem mOk (P:Params) : (methNames.all fun p=>methOk (KM P) 242 p.1 p.2) = true := by kernel_rfl
theorem rdOk {P:Params} {n:Str} (h:attrNames.contains n = true) : readOk (KM P) 242 n = true := (Bool.and_eq_true_iff.mp (List.all_eq_true.mp (aOk P) n (by simpa using h))).1
theorem stOk {P:Params} {n:Str} (h:attrNames.contains n = true) : storeOk (KM P) 242 n = true := (Bool.and_eq_true_iff.mp (List.all_eq_true.mp (aOk P) n (by simpa using h))).2
theorem mtOk {P:Params} {f:Addr} {n:Str} (h:methNames.contains (f,n) = true) : methOk (KM P) 242 f n = true := List.all_eq_true.mp (mOk P) (f,n) (by simpa using h)
theorem x_ne {h:Heap} {x C dx:Addr} {ms:List (Str × Value)} (hx:At h.get? x (XO C dx)) (hd:At h.get? dx (AO ms)) : x ≠ dx := by
  rintro rfl
  obtain ⟨o,ho,rfl⟩ := hx
  obtain ⟨o',ho',es,n,rfl,_⟩ := hd
  rw [ho] at ho'
  simp at ho'
theorem luk_here {k:Str} {v:Value} {m:List (Str × Value)} : ((k,v) :: m).lookup k = some v := by simp
theorem luk_there {name k:Str} {u v:Value} {m:List (Str × Value)} (x:m.lookup name = some v) (h:(name == k) = false) : ((k,u) :: m).lookup name = some v := by rw [List.lookup_cons,h]; exact x
inductive SetL (name:Str) (v:Value) : List (Str × Value) → List (Str × Value) → Prop
  | nil : SetL name v [] [(name,v)]
  | here {u:Value} {m:List (Str × Value)} : SetL name v ((name,u) :: m) ((name,v) :: m)
  | there {k:Str} {u:Value} {m m':List (Str × Value)} : SetL name v m m' → (k == name) = false → SetL name v ((k,u) :: m) ((k,u) :: m')
theorem SetL.eq {name:Str} {v:Value} {m m':List (Str × Value)} (s:SetL name v m m') : setL name v m = m' := by
  induction s with
  | nil=>rfl
  | here=>unfold setL; rw [if_pos (beq_self_eq_true _)]
  | there _ h ih=>unfold setL; rw [h,if_neg Bool.false_ne_true,ih]
theorem O_setattr' {A:Around} {K N:Pt} {n₀:Nat} {env:Env} {m:List (Str × Option Value)} {M M':List (Addr × OP)} {h:Heap} {x C dx:Addr} {name:Str} {ms ms':List (Str × Value)} {v:Value} {Q:Unit → Heap → Prop} (S:St K n₀ env m N M h) (Z:Stat h.get?) (hx:At h.get? x (XO C dx)) (hd:(dx,AO ms) ∈ M) (hc:storeOk (KM w.params) C name = true) (hs:SetL name v ms ms') (hz:ms'.length ≤ 100) (u:Upd dx (AO ms') M M')
    (q:∀ h',St K n₀ env m N M' h' → Q () h') : WP A (setAttr (.ref x) name v) Q h := by
  have e := hs.eq
  subst e
  exact O_setattr S Z hx hd hc hz u q
theorem O_attrS {A:Around} {K N:Pt} {n₀:Nat} {env:Env} {m:List (Str × Option Value)} {M:List (Addr × OP)} {h:Heap} {x dx:Addr} {name:Str} {ms:List (Str × Value)} {v:Value} {expr:Bool} {Q:Value → Heap → Prop} (S:St K n₀ env m N M h) (Z:Stat K) (hx:At h.get? x (XO 242 dx)) (hd:At h.get? dx (AO ms)) (hc:attrNames.contains name = true) (hv:ms.lookup name = some v) (hh:handedIn v = true) (q:Q v h) : WP A (getAttr (.ref x) name expr) Q h :=
  O_attr (Z.up S.keep) hx hd (rdOk hc) hv hh q
theorem O_setattrS {A:Around} {K N:Pt} {n₀:Nat} {env:Env} {m:List (Str × Option Value)} {M M':List (Addr × OP)} {h:Heap} {x dx:Addr} {name:Str} {ms ms':List (Str × Value)} {v:Value} {Q:Unit → Heap → Prop} (S:St K n₀ env m N M h) (Z:Stat K) (hx:At K x (XO 242 dx)) (hd:(dx,AO ms) ∈ M) (hc:attrNames.contains name = true) (hs:SetL name v ms ms') (hz:ms'.length ≤ 100) (u:Upd dx (AO ms') M M')
    (q:∀ h',St K n₀ env m N M' h' → Q () h') : WP A (setAttr (.ref x) name v) Q h := O_setattr' S (Z.up S.keep) (S.kk hx) hd (stOk hc) hs hz u q
theorem O_methS {A:Around} {K N:Pt} {n₀:Nat} {env:Env} {m:List (Str × Option Value)} {M:List (Addr × OP)} {h:Heap} {x f dx:Addr} {name:Str} {ms:List (Str × Value)} {pl:Sem Bool} {Q:Value × List Value → Heap → Prop} (S:St K n₀ env m N M h) (Z:Stat K) (hx:At K x (XO 242 dx)) (hd:(dx,AO ms) ∈ M) (hc:methOk (KM w.params) 242 f name = true) (hv:ms.lookup name = none) (q:Q (.ref f,[.ref x]) h) :
    WP A (getMethod (.ref x) name pl) Q h := O_meth (Z.up S.keep) (S.kk hx) (S.mm hd) hc hv q
end
section
theorem m174 (P:Params) : methOk (KM P) 242 174 (Str.ofString "set_seq1") = true := mtOk (by kernel_rfl)
theorem m181 (P:Params) : methOk (KM P) 242 181 (Str.ofString "set_seq2") = true := mtOk (by kernel_rfl)
theorem m167 (P:Params) : methOk (KM P) 242 167 (Str.ofString "set_seqs") = true := mtOk (by kernel_rfl)
theorem m188 (P:Params) : methOk (KM P) 242 188 (Str.ofString "_SequenceMatcher__chain_b") = true := mtOk (by kernel_rfl)
theorem m196 (P:Params) : methOk (KM P) 242 196 (Str.ofString "find_longest_match") = true := mtOk (by kernel_rfl)
theorem m203 (P:Params) : methOk (KM P) 242 203 (Str.ofString "get_matching_blocks") = true := mtOk (by kernel_rfl)
theorem m210 (P:Params) : methOk (KM P) 242 210 (Str.ofString "get_opcodes") = true := mtOk (by kernel_rfl)
end
section
local macro_rules | `(tactic| wtm_at "mem") => `(tactic| with_reducible first | exact memI 0 (by exact rfl) | exact memI 1 (by exact rfl) | exact memI 2 (by exact rfl) | exact memI 3 (by exact rfl) | exact memI 4 (by exact rfl) | exact memI 5 (by exact rfl) | exact memI 6 (by exact rfl) | exact memI 7 (by exact rfl) | (refine memD rfl ?_; wtm_at "mem"))
local macro_rules | `(tactic| wtm_at "put") => `(tactic| with_reducible first | exact putI 1 rfl | exact putI 2 rfl | exact putI 3 rfl | exact putI 4 rfl | exact putI 5 rfl | exact putI 6 rfl | exact putI 7 rfl | exact putI 8 rfl | exact putI 9 rfl | exact putI 10 rfl | exact putI 11 rfl | exact putI 12 rfl | exact putI 13 rfl | exact putI 14 rfl | exact putI 15 rfl | exact putI 16 rfl | exact putI 17 rfl | exact putI 18 rfl | exact putI 19 rfl)
local macro_rules | `(tactic| wtm_at "upd") => `(tactic| with_reducible first | exact updI 0 rfl | exact updI 1 rfl | exact updI 2 rfl | exact updI 3 rfl | exact updI 4 rfl | exact updI 5 rfl | exact updI 6 rfl | exact updI 7 rfl)
local macro_rules | `(tactic| wtm_at "name") => `(tactic| with_reducible (show WP _ (eval (.Name _ _) _) _ _; first
  | refine W_local (by assumption) (by assumption) (by wtm_at "mem") ?_
  | refine W_glob (by assumption) (by assumption) (by wtm_at "mem") ?_
  | refine W_cell (by assumption) (by assumption) (by wtm_at "mem") (by wtm_at "mem") ?_))
local macro_rules | `(tactic| wtm_at "store") => `(tactic| (with_reducible show WP _ (storeName _ _ _) _ _); first
  | ((with_reducible refine store_localL (by assumption) (by wtm_at "put") ?_); intro m' h' S'; try wtm_at "sq")
  | ((with_reducible refine store_cellL (by assumption) (by assumption) (by wtm_at "mem") (by wtm_at "mem") (by wtm_at "upd") ?_); intro M' h' S'; try wtm_at "sq"))
local macro_rules | `(tactic| wtm_at "lname") => `(tactic| with_reducible (show WP _ (loadName _ _) _ _; first
  | refine load_local (by assumption) (by wtm_at "mem") ?_
  | refine load_cell (by assumption) (by assumption) (by wtm_at "mem") (by wtm_at "mem") ?_))
local macro_rules | `(tactic| wtm_at "x") => `(tactic| first
  | wtm_at "name"
  | (with_reducible first | ((first | refine W_int ?_ | refine W_str ?_); intro _) | refine W_none ?_ | refine W_BinOp ?_ | refine W_UnaryOp ?_ | refine W_IfExp ?_ | refine W_Subscript ?_ | refine W_Tuple ?_ | refine W_List ?_ | refine W_args_nil ?_ | refine W_isTrue_Not ?_ | refine W_isTrue_BoolOp ?_ | refine W_all_cons ?_ | refine W_any_cons ?_ | refine W_all_nil ?_ | refine W_any_nil ?_ | refine W_truthy_bool ?_ | refine W_SliceE ?_ | refine W_part_none ?_ | refine W_part_some ?_ | refine W_inOrder_nil ?_ | refine W_inOrder_cons ?_ | refine W_bindName ?_ | refine A_cons ?_ | refine A_nil ?_ | refine W_assign_Attr ?_ | refine W_assign_Sub ?_ | refine W_BoolOp ?_ | refine W_And ?_ | refine W_Or ?_ | refine W_Last ?_)
  | ((with_reducible first | refine W_Compare1 ?_ ?_ | refine W_isTrue_Compare1 ?_ ?_ | refine W_chain2 ?_ ?_ | refine W_Attr ?_ ?_); rotate_left; with_unfolding_all rfl; rotate_right)
  | ((with_reducible first | refine W_args_cons ?_ ?_ | refine W_isTrue_value ?_ ?_); rotate_left; rfl; rotate_right)
  | ((with_reducible refine W_CallMeth ?_ ?_ ?_ ?_ ?_); rotate_left; rfl; rfl; rfl; rfl; rotate_right)
  | ((with_reducible refine W_Call ?_ ?_ ?_); rotate_left; rfl; rfl; rotate_right))
local macro_rules | `(tactic| wtm_at "at") => `(tactic| with_reducible first
  | assumption
  | exact St.mm (by assumption) (by wtm_at "mem")
  | exact St.nn (by assumption) (by assumption)
  | exact St.kk (by assumption) (by assumption))
local macro_rules | `(tactic| wtm_at "sz") => `(tactic| simp only [List.length_cons,List.length_nil,sizeLine]; decide)
local macro_rules | `(tactic| wtm_at "new") => `(tactic| (with_reducible first | refine W_newList (by assumption) ?_ ?_ | refine W_newTuple (by assumption) ?_ ?_); rotate_left; wtm_at "sz"; rotate_right)
local macro_rules | `(tactic| wtm_at "rev") => `(tactic| simp only [List.reverse_cons,List.reverse_nil,List.nil_append,List.cons_append,List.map_cons,List.map_nil])
local macro_rules | `(tactic| wtm_at "subl") => `(tactic| with_reducible first | exact List.Sublist.slnil | (refine List.Sublist.cons_cons _ ?_; wtm_at "subl") | (refine List.Sublist.cons _ ?_; wtm_at "subl"))
local macro_rules | `(tactic| wtm_at "sq") => `(tactic| with_reducible first | refine Seq_next ?_ | refine Seq_ret ?_ | refine Seq_brk ?_ | refine Seq_cont ?_)
local macro_rules | `(tactic| wtm_at "f") => `(tactic| ((repeat wtm_at "sq"); dsimp only [retv,RetQ,KRet,KNx]))
local macro_rules | `(tactic| wtm_at "nr") => `(tactic| (refine And.intro (fun _ e=>nomatch e) ?_; (try wtm_at "sq")))
local macro_rules | `(tactic| wtm_at "go") => `(tactic| repeat (first | wtm_at "st" | wtm_at "x" | wtm_at "op" | wtm_at "store" | wtm_at "lname"))
local macro_rules | `(tactic| wtm_at "op") => `(tactic| first
  | (with_reducible first | ((first | refine O_add ?_ | refine O_sub ?_ | refine O_iadd ?_ | refine O_neg ?_); intro _) | refine W_point ?_ | refine O_eq ?_ | refine O_ne ?_ | refine O_lt ?_ | refine O_gt ?_ | refine O_ge ?_ | refine O_seq ?_ | refine O_sne ?_ | refine O_is_none ?_ | refine O_isnot_none ?_)
  | ((with_reducible refine O_mod ?_ ?_); rotate_left; decide; rotate_right; intro _)
  | ((with_reducible refine O_div ?_ ?_ ?_); rotate_left; decide; exact PyProof.noPylong_of_log2 (by decide +kernel); rotate_right; intro _))
local macro_rules | `(tactic| wtm_at "st") => `(tactic| first
  | ((with_reducible show WP _ (execs _ _) _ _); refine W_cons ?_) | wtm_at "sq"
  | (with_reducible first | refine W_nil ?_ | refine W_If ?_ | refine W_Return ?_ | refine W_Break ?_ | refine W_Continue ?_ | refine W_AugAssign ?_ | refine W_assign_Name ?_)
  | ((with_reducible refine W_For ?_ ?_); rotate_left; (intro _; rfl); rotate_right)
  | ((with_reducible first | refine W_Assign ?_ ?_ | refine W_AssignAttr ?_ ?_); rotate_left; rfl; rotate_right)
  | ((with_reducible refine W_doc (by assumption) ?_); try dsimp only)
  | ((with_reducible refine W_ExprS (by assumption) ?_ ?_); rotate_left; rfl; rotate_right))
local macro_rules | `(tactic| wtm_at "kp") => `(tactic| refine And.intro ?_ ?_; (with_reducible first | exact Kp_builtin | exact Kp_type | exact Kp_ref (by assumption) (by assumption) (by k_is)))
local macro_rules | `(tactic| wtm_at "enth") => `(tactic| simp only [mk0,List.map_cons,List.map_nil,List.cons_append,List.nil_append,List.append_nil]; exact rfl)
local macro_rules | `(tactic| wtm_at "ent") => `(tactic| k_is; k_is; exact fun s _=>BindsTo.of_eq rfl; kernel_rfl; kernel_rfl; exact rfl; exact rfl; exact rfl; kernel_rfl; wtm_at "enth")
local macro_rules | `(tactic| wtm_at "each") => `(tactic| first | exact List.forall_mem_nil _ | (refine List.forall_mem_cons.mpr (And.intro ?_ ?_); kernel_rfl; wtm_at "each"))
local macro_rules | `(tactic| wtm_at "br") => `(tactic| first | rw [if_pos (by rw [decide_eq_true_eq]; lia)] | rw [if_neg (by rw [decide_eq_true_eq]; lia)] | rw [if_pos rfl] | rw [if_neg Bool.false_ne_true])
local macro_rules | `(tactic| wtm_at "gb") => `(tactic| (wtm_at "go"; repeat (wtm_at "br"; wtm_at "go")))
local macro_rules | `(tactic| wtm_at "luk") => `(tactic| first | (with_reducible exact luk_here) | (with_reducible refine luk_there (by wtm_at "luk") (by kernel_rfl)))
local macro_rules | `(tactic| wtm_at "setl") => `(tactic| first | (with_reducible first | exact SetL.nil | exact SetL.here) | (with_reducible refine SetL.there (by wtm_at "setl") (by kernel_rfl)))
local macro_rules | `(tactic| wtm_at "ga") => `(tactic| refine O_attrS (by assumption) (by assumption) (by wtm_at "at") (by wtm_at "at") (by kernel_rfl) (by wtm_at "luk") (by first | rfl | assumption) ?_)
local macro_rules | `(tactic| wtm_at "sa") => `(tactic| refine O_setattrS (by assumption) (by assumption) (by assumption) (by wtm_at "mem") (by kernel_rfl) (by wtm_at "setl") (by simp only [List.length_cons,List.length_nil]; decide) (by wtm_at "upd") ?_; intro hA' SA')
section
section
variable {A:Around} {h:Heap}
theorem O_item_list {value slice:PySem.Expr} {l:Addr} {vs:List Value} {k:Int} {u:Tok} {x:Value} {Q:Value → Heap → Prop} (hl:At h.get? l (LO vs)) (h0:0 ≤ k) (hx:vs[k.toNat]? = some x) (hsz:vs.length ≤ 2 ^ 24) (q:Q x h)
    (hs:subscripted slice false (.ref l) (.int k u) = operate [.ref l,.int k u] (getItem (.ref l) (.int k u))) : WP A (subscriptTail value slice (.ref l) (.int k u)) Q h :=
  WP_lib fun s e=>by
    subst e
    have hl' : s.heap.IsList l vs.toArray := LO.isList hl
    have hk : k < 2 ^ 63 := by
      have := (List.getElem?_eq_some_iff.mp hx).1
      lia
    exact tail_any hl'.typeIs slot_list_getitem.lookup (wpAny_getItem_list hl' h0 hk (by simpa using hx) ⟨_,_,rfl,q⟩) hs
end
noncomputable def octI (q:Int) : Int := if (q.fmod 2 == 0) = true then ([97,98,32,61,45,233,95,65] : List Int).getD ((q.fdiv 2).fmod 8).toNat 0 else (q.fdiv 2).fmod 256
theorem octI_range (q:Int) : 0 ≤ octI q ∧ octI q < 256 := by
  unfold octI
  split
  · have h0 := Int.fmod_nonneg_of_pos (q.fdiv 2) (b := 8) (by decide)
    have h1 := Int.fmod_lt_of_pos (q.fdiv 2) (b := 8) (by decide)
    generalize (q.fdiv 2).fmod 8 = k at *
    have : k.toNat = 0 ∨ k.toNat = 1 ∨ k.toNat = 2 ∨ k.toNat = 3 ∨ k.toNat = 4 ∨ k.toNat = 5 ∨ k.toNat = 6 ∨ k.toNat = 7 := by lia
    rcases this with e | e | e | e | e | e | e | e <;> (rw [e]; decide)
  · exact ⟨Int.fmod_nonneg_of_pos _ (by decide),Int.fmod_lt_of_pos _ (by decide)⟩
theorem octet_spec {A:Around} {h:Heap} {n:Nat} {q:Int} {t:Tok} {Q:Value → Heap → Prop}
    (Z:Stat h.get?) (R:Rm A (n + 3)) (k:∀ h' t',Keep h h' → Q (.int (octI q) t') h') : WP A (call (.ref 289) [.int q t]) Q h := by
  apply enter2 (args := ⟨[.int q t],[]⟩) (binds := [(Str.ofString "q",.int q t)]) (rest := []) (gl := []) Z R
  wtm_at "ent"
  intro L env A' h₁ henv R' C K₁ S
  refine S.letm ?_; clear S; intro mS MS S
  wtm_at "go"
  split
  · rename_i hq
    wtm_at "go"
    wtm_at "new"
    rename_i t0 t1 t2 t3 t4 t5 t6 t7
    intro a h2 ha hb K2 S2
    wtm_at "go"
    have h0 := Int.fmod_nonneg_of_pos (q.fdiv 2) (b := 8) (by decide)
    have h1 := Int.fmod_lt_of_pos (q.fdiv 2) (b := 8) (by decide)
    have key : ∃ tt,[Value.int 97 t0,Value.int 98 t1,Value.int 32 t2,Value.int 61 t3,Value.int 45 t4,Value.int 233 t5,Value.int 95 t6,Value.int 65 t7][((q.fdiv 2).fmod 8).toNat]? = some (.int (octI q) tt) := by
      unfold octI
      rw [if_pos hq]
      try dsimp +zetaDelta only [setAt] at S2
      generalize (q.fdiv 2).fmod 8 = k at *
      have : k.toNat = 0 ∨ k.toNat = 1 ∨ k.toNat = 2 ∨ k.toNat = 3 ∨ k.toNat = 4 ∨ k.toNat = 5 ∨ k.toNat = 6 ∨ k.toNat = 7 := by lia
      rcases this with e | e | e | e | e | e | e | e <;> (rw [e]; exact ⟨_,rfl⟩)
    obtain ⟨tt,hx⟩ := key
    refine O_item_list (by wtm_at "at") h0 hx (by simp only [List.length_cons,List.length_nil]; decide) ?_ (by with_unfolding_all rfl)
    wtm_at "f"
    exact k _ _ S2.keep
  · rename_i hq
    wtm_at "go"
    wtm_at "f"
    have := k _ ‹Tok› K₁
    unfold octI at this
    rw [if_neg hq] at this
    exact this
section
variable {A:Around} {h:Heap} {x y:Str} {t u:Tok}
theorem O_chr {i:Int} {Q:Value → Heap → Prop} (h0:0 ≤ i) (h1:i ≤ 1114111) (q:∀ t,Q (.str ⟨#[i.toNat]⟩ t) h) : WP A (call (.builtin "chr") [.int i t]) Q h :=
  WP_lib fun s e=>by subst e; exact chr_of_range h0 h1 ⟨_,_,rfl,q _⟩
theorem lt1 {a b:Nat} : (([a] : List Nat) < [b]) ↔ a < b := by
  constructor
  · intro h
    cases h with
    | rel h=>exact h
    | cons h=>cases h
  · exact fun h=>.rel h
theorem O_sle {a b:Nat} {Q:Value → Heap → Prop} (hx:x = ⟨#[a]⟩) (hy:y = ⟨#[b]⟩) (q:Q (.bool (decide (a ≤ b))) h) : WP A (compareOp .LtE (.str x t) (.str y u)) Q h :=
  WP_lib fun s e=>by
    subst e; subst hx; subst hy
    refine P.le_str ⟨_,_,rfl,?_⟩
    have : (!decide ((⟨#[b]⟩ : Str).cps.toList < (⟨#[a]⟩ : Str).cps.toList)) = decide (a ≤ b) := by
      show (!decide (([b] : List Nat) < [a])) = _
      by_cases hab : a ≤ b
      · rw [decide_eq_false (fun hh=>absurd (lt1.mp hh) (by exact Nat.not_lt_of_le ‹_›)),decide_eq_true hab]; rfl
      · rw [decide_eq_true (lt1.mpr (by exact Nat.lt_of_not_le ‹_›)),decide_eq_false hab]; rfl
    rw [this]; exact q
theorem O_sin {b:Bool} {Q:Value → Heap → Prop} (hb:(!(Builtin.Str.occurrences x y 0 x.length 1).isEmpty) = b) (q:Q (.bool b) h) : WP A (compareOp .In (.str y u) (.str x t)) Q h :=
  WP_lib fun s e=>by subst e; exact PyProof.Rows.in_str ⟨_,_,rfl,hb ▸ q⟩
end
theorem W_between {A:Around} {K N:Pt} {n₀:Nat} {env:Env} {m:List (Str × Option Value)} {M:List (Addr × OP)} {h:Heap} {cs:List (Str × Addr)} {gl:List (Str × Value)} {lo hi x:Str} {k1 k2 p1 p2 px pos} {n a b:Nat} {t:Tok} {Q:Value → Heap → Prop}
    (S:St K n₀ env m N M h) (C:Sc K env cs gl) (hm:(x,some (.str ⟨#[n]⟩ t)) ∈ m) (ha:lo = ⟨#[a]⟩) (hb:hi = ⟨#[b]⟩) (q:Q (.bool (decide (a ≤ n) && decide (n ≤ b))) h) :
    WP A (eval (.Compare (.Constant (.str lo) k1 p1) [.LtE,.LtE] [.Name x px,.Constant (.str hi) k2 p2] pos) env) Q h := by
  refine W_chain2 (W_str fun _=>W_local S C hm ?_) (by rfl)
  refine O_sle ha rfl (W_truthy_bool ?_)
  by_cases c : a ≤ n
  · rw [decide_eq_true c,if_pos rfl]
    refine W_str fun _=>O_sle rfl hb ?_
    rw [decide_eq_true c,Bool.true_and] at q; exact q
  · rw [decide_eq_false c,if_neg (by decide)]
    rw [decide_eq_false c,Bool.false_and] at q; exact q
noncomputable def keptB (o:Int) : Bool := (decide (48 ≤ o.toNat) && decide (o.toNat ≤ 57)) || ((decide (65 ≤ o.toNat) && decide (o.toNat ≤ 90)) || ((decide (97 ≤ o.toNat) && decide (o.toNat ≤ 122)) || (o.toNat == 45 || o.toNat == 33 || o.toNat == 42 || o.toNat == 43 || o.toNat == 47)))
theorem sin_kept : ∀ n,n < 256 → (!(Builtin.Str.occurrences (Str.ofString "-!*+/") ⟨#[n]⟩ 0 (Str.ofString "-!*+/").length 1).isEmpty) = (n == 45 || n == 33 || n == 42 || n == 43 || n == 47) := by decide +kernel
theorem kept_spec {A:Around} {h:Heap} {n:Nat} {o:Int} {t:Tok} {Q:Value → Heap → Prop} (h0:0 ≤ o) (h1:o < 256)
    (Z:Stat h.get?) (R:Rm A (n + 3)) (k:∀ h',Keep h h' → Q (.bool (keptB o)) h') : WP A (call (.ref 303) [.int o t]) Q h := by
  apply enter2 (args := ⟨[.int o t],[]⟩) (binds := [(Str.ofString "octet",.int o t)]) (rest := [Str.ofString "sign"]) (gl := [(Str.ofString "chr",.builtin "chr")]) Z R
  wtm_at "ent"
  intro L env A' h₁ henv R' C K₁ S
  refine S.letm ?_; clear S; intro mS MS S
  wtm_at "go"
  refine ⟨Kp_builtin,?_⟩
  refine O_chr h0 (by lia) ?_
  intro t0
  have key : ∀ b h',b = keptB o → Keep h h' → Q (.bool b) h' := fun b h' e kk=>e ▸ k h' kk
  wtm_at "store"
  wtm_at "st"
  wtm_at "st"
  wtm_at "x"
  wtm_at "x"
  refine W_between (a := 48) (b := 57) (by assumption) C (by wtm_at "mem") (by decide) (by decide) ?_
  wtm_at "x"
  by_cases c48 : (decide (48 ≤ o.toNat) && decide (o.toNat ≤ 57)) = true
  · rw [if_pos c48]
    wtm_at "f"
    refine key _ _ ?_ (St.keep (by assumption))
    unfold keptB; rw [c48]; rfl
  rw [if_neg c48]
  have f48 := (Bool.not_eq_true _).mp c48
  wtm_at "x"
  refine W_between (a := 65) (b := 90) (by assumption) C (by wtm_at "mem") (by decide) (by decide) ?_
  wtm_at "x"
  by_cases c65 : (decide (65 ≤ o.toNat) && decide (o.toNat ≤ 90)) = true
  · rw [if_pos c65]
    wtm_at "f"
    refine key _ _ ?_ (St.keep (by assumption))
    unfold keptB; rw [f48,c65]; rfl
  rw [if_neg c65]
  have f65 := (Bool.not_eq_true _).mp c65
  wtm_at "x"
  refine W_between (a := 97) (b := 122) (by assumption) C (by wtm_at "mem") (by decide) (by decide) ?_
  wtm_at "x"
  by_cases c97 : (decide (97 ≤ o.toNat) && decide (o.toNat ≤ 122)) = true
  · rw [if_pos c97]
    wtm_at "f"
    refine key _ _ ?_ (St.keep (by assumption))
    unfold keptB; rw [f48,f65,c97]; rfl
  rw [if_neg c97]
  have f97 := (Bool.not_eq_true _).mp c97
  wtm_at "x"
  wtm_at "go"
  refine O_sin (sin_kept _ (by lia)) ?_
  wtm_at "f"
  refine key _ _ ?_ (St.keep (by assumption))
  unfold keptB; rw [f48,f65,f97]; rfl
end
section
noncomputable def hexD (i:Nat) : Nat := if i < 10 then 48 + i else 55 + i
noncomputable def hdrL (i:Nat) : List Nat := if keptB (i:Int) then [i] else if i = 32 then [95] else [61,hexD (i / 16),hexD (i % 16)]
noncomputable def hdrS (i:Nat) : Str := ⟨(hdrL i).toArray⟩
noncomputable def hv (P:Params) : List Value := match (o254_15 P).data with | .seq xs _=>xs.toList | _=>[]
theorem hv_chk (P:Params) : ((List.range 256).all fun i=>match (hv P)[i]? with | some (.str s _)=>s == hdrS i | _=>false) = true := by kernel_rfl
theorem hv_len (P:Params) : (hv P).length = 256 := by kernel_rfl
theorem hv_get (P:Params) (i:Nat) (hi:i < 256) : ∃ t,(hv P)[i]? = some (.str (hdrS i) t) := by
  have := List.all_eq_true.mp (hv_chk P) i (List.mem_range.mpr hi)
  split at this
  · rename_i s t e
    exact ⟨t,by rw [e,eq_of_beq this]⟩
  · cases this
theorem hv_at {h:Heap} (Z:Stat h.get?) : At h.get? 254 (LO (hv w.params)) :=
  ⟨o254_15 w.params,Z.inn 254 (o254_15 w.params) (by k_is),0,by kernel_rfl⟩
theorem hdr_ne : ∀ n,n < 256 → ((⟨#[n]⟩ : Str) != hdrS n) = !keptB (n:Int) := by decide +kernel
theorem check_spec {A:Around} {h:Heap} {n:Nat} {o:Int} {t:Tok} {Q:Value → Heap → Prop} (h0:0 ≤ o) (h1:o < 256)
    (Z:Stat h.get?) (R:Rm A (n + 3)) (k:∀ h',Keep h h' → Q (.bool (!keptB o)) h') : WP A (call (.ref 269) [.int o t]) Q h := by
  apply enter2 (args := ⟨[.int o t],[]⟩) (binds := [(Str.ofString "octet",.int o t)]) (rest := []) (gl := [(Str.ofString "chr",.builtin "chr"),(Str.ofString "_QUOPRI_HEADER_MAP",.ref 254)]) Z R
  wtm_at "ent"
  intro L env A' h₁ henv R' C K₁ S
  refine S.letm ?_; clear S; intro mS MS S
  wtm_at "go"
  wtm_at "kp"
  refine O_chr h0 (by lia) ?_
  intro t0
  wtm_at "go"
  have Z1 := Z.up S.keep
  obtain ⟨t1,e1⟩ := hv_get w.params o.toNat (by lia)
  refine O_item_list (hv_at Z1) h0 e1 (by rw [hv_len]; decide) ?_ (by with_unfolding_all rfl)
  wtm_at "go"
  wtm_at "f"
  rw [hdr_ne _ (by lia),show ((o.toNat : Nat) : Int) = o by lia]
  exact k _ S.keep
end
section
structure Row (xs:List Int) : Prop where
  ne : xs ≠ []
  len : xs.length ≤ 11
  oct : ∀ x ∈ xs,0 ≤ x ∧ x < 256
theorem above_at {n:Nat} {N:Pt} {h:Heap} {a:Addr} {P:OP} (ha:n ≤ a) (x:At h.get? a P) : At (above n N h) a P := by
  obtain ⟨o,e,p⟩ := x
  refine ⟨o,?_,p⟩
  unfold above; rw [if_neg (Nat.not_lt.mpr ha)]; exact e
structure Rw (i:Nat) (xs:List Int) : Prop where
  ne : xs ≠ []
  len : xs.length ≤ 5 + i
  oct : ∀ x ∈ xs,0 ≤ x ∧ x < 256
theorem Rw.push {i:Nat} {xs:List Int} (h:Rw i xs) {x:Int} (hx:0 ≤ x ∧ x < 256) : Rw (i + 1) (xs ++ [x]) :=
  ⟨by simp,by have := h.len; simp; exact Nat.lt_succ_of_le ‹_›,fun y hy=>(List.mem_append.mp hy).elim (h.oct y) fun hy=>by rw [List.mem_singleton.mp hy]; exact hx⟩
theorem Rw.up {i:Nat} {xs:List Int} (h:Rw i xs) : Rw (i + 1) xs := ⟨h.ne,by have := h.len; exact Nat.le_succ_of_le ‹_›,h.oct⟩
namespace rows_specN
abbrev TT : Prop := ∀ {A:Around} {h:Heap} {n:Nat} {l:Addr} {vs:List Value} {ns:List Int} {Q:Value → Heap → Prop} (Z:Stat h.get?) (R:Rm A (n + 5)) (hl:At h.get? l (LO vs)) (hi:IntsAre vs ns) (hlen:ns.length ≤ 6) (k:∀ t a b h' la lb xs ys,Keep h h' → h.objs.size ≤ t → h.objs.size ≤ a → h.objs.size ≤ b → At h'.get? t (TO [.ref a,.ref b]) → At h'.get? a (LO la) → IntsAre la xs → Row xs → At h'.get? b (LO lb) → IntsAre lb ys → Row ys → Q (.ref t) h'),WP A (call (.ref 296) [.ref l]) Q h
noncomputable def PP : {p:Heap → Nat → (Value → Heap → Prop) → Addr → Env → Around → Heap → Prop // (∀ h n Q L env A' h₁,p h n Q L env A' h₁) → TT} := ⟨_,by
  intro f A h n l vs ns Q Z R hl hi hlen k
  apply enter2 (args := ⟨[.ref l],[]⟩) (binds := [(Str.ofString "numbers",.ref l)]) (rest := [Str.ofString "many",Str.ofString "left",Str.ofString "right",Str.ofString "n"]) (gl := [(Str.ofString "len",.builtin "len"),(Str.ofString "_law_octet",.ref 289)]) Z R
  wtm_at "ent"
  intro L env A' h₁
  revert A l vs ns Z R hl hi hlen k
  exact @f h n Q L env A' h₁⟩
noncomputable def SS := pick1 (by have := neA; exact inferInstance) (un (un (un (un (un (un PP.1))))))
noncomputable def h := SS.1.1.1.1.1.1.1
noncomputable def n := SS.1.1.1.1.1.1.2
noncomputable def Q := SS.1.1.1.1.1.2
noncomputable def L := SS.1.1.1.1.2
noncomputable def env := SS.1.1.1.2
noncomputable def A' := SS.1.1.2
noncomputable def h₁ := SS.1.2
theorem main : PP.1 h n Q L env A' h₁ := by
  intro A l vs ns Z R hl hi hlen k henv R' C K₁ S
  refine S.letm ?_; clear S; intro mS MS S
  wtm_at "go"
  wtm_at "kp"
  have hvl : vs.length = ns.length := hi.length
  refine O_len (S.kk hl) (by rw [sizeLine_eq]; exact Nat.le_of_lt (Nat.lt_of_le_of_lt (Nat.le_of_eq hvl) (Nat.lt_of_le_of_lt hlen (by decide)))) ?_
  intro t0
  wtm_at "go"
  refine' W_AssignSwap (names := [Str.ofString "left",Str.ofString "right"]) ?_ ?y1 ?y2
  case y1=>rfl
  case y2=>rw [henv]; kernel_rfl
  wtm_at "go"
  wtm_at "new"
  rename_i ta tb
  intro a1 h2 _ hb1 K2 S2
  wtm_at "go"
  intro a2 h3 N3
  have S3 := S2.born N3
  refine O_slice_list (by wtm_at "at") (by wtm_at "at") (by wtm_at "sz") .none (.int _ _) ?_ (by with_unfolding_all rfl)
  intro a3 h4 N4
  have S4 := S3.born N4
  wtm_at "go"
  wtm_at "new"
  rename_i tc td te
  intro a4 h5 _ hb4 K5 S5
  refine O_concat (by wtm_at "at") (by wtm_at "at") ?_ ?_
  · have := lsl_len [Value.int 61 ta,Value.int 233 tb] none (some ((↑vs.length : Int).fmod 3)); simp at this ⊢; rw [sizeLine_eq]; lia -zetaDelta
  intro aL h6 N6
  have S6 := S5.born N6
  wtm_at "go"
  wtm_at "new"
  rename_i tf
  intro a5 h7 _ hb5 K7 S7
  wtm_at "go"
  intro a6 h8 N8
  have S8 := S7.born N8
  refine O_slice_list (by wtm_at "at") (by wtm_at "at") (by wtm_at "sz") .none (.int _ _) ?_ (by with_unfolding_all rfl)
  intro a7 h9 N9
  have S9 := S8.born N9
  wtm_at "go"
  wtm_at "new"
  rename_i tg th ti tj
  intro a8 h10 _ hb8 K10 S10
  refine O_concat (by wtm_at "at") (by wtm_at "at") ?_ ?_
  · have := lsl_len [Value.int 61 tf] none (some ((↑vs.length : Int).fmod 3)); simp at this ⊢; rw [sizeLine_eq]; lia -zetaDelta
  intro aR h11 N11
  have S11 := S10.born N11
  wtm_at "go"
  wtm_at "new"
  intro aT h12 hT1 hT2 K12 S12
  refine U_tuple (R'.le (by exact Nat.zero_le _)) (by wtm_at "at") rfl ?_
  intro h13 K13
  have S13 := S12.keeps K13
  wtm_at "rev"
  wtm_at "go"
  rename_i h14 S14
  refine iter_list S14 (S14.kk hl) ?_
  intro I h15 K15 S15
  have S16 := S15.subl (M' := [(I,LI l 0),(aR,_),(aL,_)]) (by wtm_at "subl")
  have hi0 : IntsAre (lsl [Value.int 61 ta,Value.int 233 tb] none (some ((↑vs.length : Int).fmod 3)) ++ [Value.int 97 tc,Value.int 32 td,Value.int 98 te]) (lsl [61,233] none (some ((↑vs.length : Int).fmod 3)) ++ [97,32,98]) :=
    ints_append (ints_lsl (.cons _ _ (.cons _ _ .nil)) _ _) (.cons _ _ (.cons _ _ (.cons _ _ .nil)))
  have hi1 : IntsAre (lsl [Value.int 61 tf] none (some ((↑vs.length : Int).fmod 3)) ++ [Value.int 98 tg,Value.int 32 th,Value.int 97 ti,Value.int 32 tj]) (lsl [61] none (some ((↑vs.length : Int).fmod 3)) ++ [98,32,97,32]) :=
    ints_append (ints_lsl (.cons _ _ .nil) _ _) (.cons _ _ (.cons _ _ (.cons _ _ (.cons _ _ .nil))))
  have hw0 : Rw 0 (lsl [61,233] none (some ((↑vs.length : Int).fmod 3)) ++ [97,32,98]) := by
    refine ⟨by simp,?_,?_⟩
    · have := lsl_len ([61,233] : List Int) none (some ((↑vs.length : Int).fmod 3)); simp at this ⊢; omega
    · intro x hx
      rcases List.mem_append.mp hx with h | h
      · have := lsl_mem h; simp at this; lia -zetaDelta
      · simp at h; lia -zetaDelta
  have hw1 : Rw 0 (lsl [61] none (some ((↑vs.length : Int).fmod 3)) ++ [98,32,97,32]) := by
    refine ⟨by simp,?_,?_⟩
    · have := lsl_len ([61] : List Int) none (some ((↑vs.length : Int).fmod 3)); simp at this ⊢; omega
    · intro x hx
      rcases List.mem_append.mp hx with h | h
      · have := lsl_mem h; simp at this; lia -zetaDelta
      · simp at h; lia -zetaDelta
  try dsimp +zetaDelta only [setAt] at S16
  generalize lsl [Value.int 61 ta,Value.int 233 tb] none (some ((↑vs.length : Int).fmod 3)) ++ [Value.int 97 tc,Value.int 32 td,Value.int 98 te] = la0 at *
  generalize lsl [Value.int 61 tf] none (some ((↑vs.length : Int).fmod 3)) ++ [Value.int 98 tg,Value.int 32 th,Value.int 97 ti,Value.int 32 tj] = lb0 at *
  generalize lsl ([61,233] : List Int) none (some ((↑vs.length : Int).fmod 3)) ++ [97,32,98] = xs0 at *
  generalize lsl ([61] : List Int) none (some ((↑vs.length : Int).fmod 3)) ++ [98,32,97,32] = ys0 at *
  generalize ((↑vs.length : Int).fmod 3) = km at *
  let Jz1 : Inv := fun i m N M=>E6 fun la xs lb ys u tm=>C5 (m = [(Str.ofString "numbers",some (Value.ref l)),(Str.ofString "many",some (Value.int km tm)),(Str.ofString "left",some (Value.ref aL)),(Str.ofString "right",some (Value.ref aR)),(Str.ofString "n",u)]) (N = (fun _=>none)) (M = [(aR,LO lb),(aL,LO la)]) (IntsAre la xs) (C3 (IntsAre lb ys) (Rw i xs) (Rw i ys))
  refine for_itr (itr_list R'.h I l vs) Jz1 S16 ⟨la0,xs0,lb0,ys0,_,_,rfl,rfl,rfl,hi0,hi1,hw0,hw1⟩ (fun _=>rfl) (fun i m N M h P _ S=>S.kk hl) ?_ ?_
  · rintro i v m N M g hilt hv ⟨la,xs,lb,ys,u,tm,rfl,rfl,rfl,ha,hb,wa,wb⟩ S
    refine S.letm ?_; clear S; intro mS MS S
    obtain ⟨q,tq,rfl,hq⟩ := ints_get hi hv
    wtm_at "go"
    rename_i g2 S2
    unfold Turn
    let Qz2 : Flow → Heap → Prop := fun f h'=>(f = .next) ∧ E2 fun la' xs'=>C3 (IntsAre la' xs') (Rw (i + 1) xs') (St h.get? h.objs.size env [(Str.ofString "numbers",some (Value.ref l)),(Str.ofString "many",some (Value.int km tm)),(Str.ofString "left",some (Value.ref aL)),(Str.ofString "right",some (Value.ref aR)),(Str.ofString "n",some (Value.int q tq))] (fun _=>none) [(I,LI l (i + 1)),(aR,LO lb),(aL,LO la')] h')
    refine W_cons (WP.mono (Q := Qz2) ?_ ?_)
    · wtm_at "go"
      split
      · wtm_at "go"
        refine M_list (S2.mm (by wtm_at "mem")) F.slot_list_append F.type_list_append ?_
        wtm_at "go"
        wtm_at "kp"
        refine octet_spec (n := n) (Z.up S2.keep) (R'.le (by lia -zetaDelta)) ?_
        intro g3 t3 K3
        have S3 := S2.keeps K3
        wtm_at "go"
        wtm_at "kp"
        refine O_append S3 (by wtm_at "mem") ?_ (by wtm_at "upd") ?_
        · have := ha.length; have := wa.len; rw [sizeLine_eq]; lia -zetaDelta
        intro g4 S4
        wtm_at "nr"
        wtm_at "go"
        exact ⟨rfl,_,_,ints_append ha (ints_one _ _),wa.push (octI_range _),S4⟩
      · wtm_at "go"
        exact ⟨rfl,_,_,ha,wa.up,S2⟩
    · rintro f g3 ⟨rfl,la',xs',ha',wa',S3⟩
      refine S3.letm ?_; clear S3; intro mS MS S3
      try dsimp only
      wtm_at "go"
      split
      · wtm_at "go"
        refine M_list (S3.mm (by wtm_at "mem")) F.slot_list_append F.type_list_append ?_
        wtm_at "go"
        wtm_at "kp"
        refine octet_spec (n := n) (Z.up S3.keep) (R'.le (by lia -zetaDelta)) ?_
        intro g4 t4 K4
        have S4 := S3.keeps K4
        wtm_at "go"
        wtm_at "kp"
        refine O_append S4 (by wtm_at "mem") ?_ (by wtm_at "upd") ?_
        · have := hb.length; have := wb.len; rw [sizeLine_eq]; lia -zetaDelta
        intro g5 S5
        wtm_at "nr"
        wtm_at "go"
        exact ⟨_,_,_,⟨_,_,_,_,_,_,rfl,rfl,rfl,ha',ints_append hb (ints_one _ _),wa',wb.push (octI_range _)⟩,S5⟩
      · wtm_at "go"
        split
        · wtm_at "go"
          refine M_list (S3.mm (by wtm_at "mem")) F.slot_list_append F.type_list_append ?_
          wtm_at "go"
          wtm_at "kp"
          refine octet_spec (n := n) (Z.up S3.keep) (R'.le (by lia -zetaDelta)) ?_
          intro g4 t4 K4
          have S4 := S3.keeps K4
          wtm_at "go"
          wtm_at "kp"
          refine O_append S4 (by wtm_at "mem") ?_ (by wtm_at "upd") ?_
          · have := hb.length; have := wb.len; rw [sizeLine_eq]; lia -zetaDelta
          intro g5 S5
          wtm_at "nr"
          wtm_at "go"
          exact ⟨_,_,_,⟨_,_,_,_,_,_,rfl,rfl,rfl,ha',ints_append hb (ints_one _ _),wa',wb.push (octI_range _)⟩,S5⟩
        · wtm_at "go"
          exact ⟨_,_,_,⟨_,_,_,_,_,_,rfl,rfl,rfl,ha',hb,wa',wb.up⟩,S3⟩
  · rintro m N M g ⟨la,xs,lb,ys,u,tm,rfl,rfl,rfl,ha,hb,wa,wb⟩ S
    refine S.letm ?_; clear S; intro mS MS S
    try dsimp only
    wtm_at "go"
    wtm_at "new"
    intro aU g2 hU _ K2' S2'
    wtm_at "f"
    refine k aU aL aR g2 la lb xs ys S2'.keep hU ?_ ?_ (S2'.mm (by wtm_at "mem")) (S2'.mm (by wtm_at "mem")) ha ⟨wa.ne,by have := wa.len; lia -zetaDelta,wa.oct⟩ (S2'.mm (by wtm_at "mem")) hb ⟨wb.ne,by have := wb.len; lia -zetaDelta,wb.oct⟩
    · exact S5.born_ge N6
    · exact S10.born_ge N11
end rows_specN
theorem rows_spec : rows_specN.TT := rows_specN.PP.2 fun h n Q L env A' h₁=>rows_specN.SS.2 rows_specN.main ((((((h,n),Q),L),env),A'),h₁)
end
section
noncomputable def mkS (l:List Nat) : Str := ⟨l.toArray⟩
theorem mkS_app (a b:List Nat) : mkS a ++ mkS b = mkS (a ++ b) := by
  apply Str.ext'
  rw [Str.cps_append]
  simp [mkS]
theorem mkS_len (a:List Nat) : (mkS a).length = a.length := by simp [mkS,PySem.Str.length]
noncomputable def writ (xs:List Int) : List Nat := xs.flatMap fun o=>hdrL o.toNat
theorem hdrL_len (n:Nat) : (hdrL n).length ≤ 3 := by unfold hdrL; split; simp; split <;> simp
theorem writ_len (xs:List Int) : (writ xs).length ≤ 3 * xs.length := by
  induction xs with
  | nil=>simp [writ]
  | cons x r ih =>
    have := hdrL_len x.toNat
    simp only [writ,List.flatMap_cons,List.length_append,List.length_cons] at ih ⊢
    lia -zetaDelta
theorem figs : ∀ i : Nat,i < 16 → (seqIndex? (i:Int) (Str.ofString "0123456789ABCDEF").length).bind ((Str.ofString "0123456789ABCDEF").cps[·]?) = some (hexD i) := by decide +kernel
section
variable {A:Around} {h:Heap}
theorem O_sitem {value slice:PySem.Expr} {x:Str} {t u:Tok} {i:Int} {c:Nat} {Q:Value → Heap → Prop} (h0:0 ≤ i) (h1:i < 2 ^ 62) (hc:(seqIndex? i x.length).bind (x.cps[·]?) = some c) (q:∀ t,Q (.str (mkS [c]) t) h)
    (hs:subscripted slice false (.str x t) (.int i u) = operate [.str x t,.int i u] (getItem (.str x t) (.int i u))) : WP A (subscriptTail value slice (.str x t) (.int i u)) Q h := by
  refine O_subTail (T := "str") (fun s e=>typeIs_str s x t) F.slot_str_getitem.lookup (WP_lib fun s e=>?_) hs
  subst e
  exact P.getItem_str (by simp; lia -zetaDelta) hc ⟨_,_,rfl,q _⟩
theorem O_sapp {a b:List Nat} {t u:Tok} {Q:Value → Heap → Prop} (hz:a.length + b.length ≤ sizeLine) (q:∀ t,Q (.str (mkS (a ++ b)) t) h) : WP A (binaryOp .Add (.str (mkS a) t) (.str (mkS b) u)) Q h := by
  refine O_sadd (fun t=>?_) (by rw [mkS_len,mkS_len]; exact hz)
  rw [mkS_app]; exact q t
end
theorem written_spec {A:Around} {h:Heap} {n:Nat} {l:Addr} {vs:List Value} {xs:List Int} {Q:Value → Heap → Prop}
    (Z:Stat h.get?) (R:Rm A (n + 5)) (hl:At h.get? l (LO vs)) (hi:IntsAre vs xs) (hlen:xs.length ≤ 11) (ho:∀ x ∈ xs,0 ≤ x ∧ x < 256)
    (k:∀ t h',Keep h h' → Q (.str (mkS (writ xs)) t) h') : WP A (call (.ref 310) [.ref l]) Q h := by
  apply enter2 (args := ⟨[.ref l],[]⟩) (binds := [(Str.ofString "row",.ref l)]) (rest := [Str.ofString "figures",Str.ofString "signs",Str.ofString "octet"]) (gl := [(Str.ofString "chr",.builtin "chr"),(Str.ofString "_law_kept",.ref 303)]) Z R
  wtm_at "ent"
  intro L env A' h₁ henv R' C K₁ S
  refine S.letm ?_; clear S; intro mS MS S
  wtm_at "go"
  rename_i tf _ h2 S2 ts _ h3 S3
  refine iter_list S3 (S3.kk hl) ?_
  intro I h4 K4 S4
  try dsimp +zetaDelta only [setAt] at S4
  rw [show Str.ofString "" = mkS [] by decide] at S4
  let Jz1 : Inv := fun i m N M=>E2 fun u ts=>C3 (m = [(Str.ofString "row",some (Value.ref l)),(Str.ofString "figures",some (Value.str (Str.ofString "0123456789ABCDEF") tf)),(Str.ofString "signs",some (.str (mkS (writ (xs.take i))) ts)),(Str.ofString "octet",u)]) (N = (fun _=>none)) (M = [])
  refine for_itr (itr_list R'.h I l vs) Jz1 S4 ⟨_,_,rfl,rfl,rfl⟩ (fun _=>rfl) (fun i m N M h P _ S=>S.kk hl) ?_ ?_
  · rintro i v m N M g hilt hv ⟨u,ts,rfl,rfl,rfl⟩ S
    refine S.letm ?_; clear S; intro mS MS S
    obtain ⟨o,to,rfl,hq⟩ := ints_get hi hv
    have hor := ho o (List.mem_of_getElem? hq)
    have hw : writ (xs.take (i + 1)) = writ (xs.take i) ++ hdrL o.toNat := by
      rw [List.take_add_one,hq]; simp [writ]
    have hz := writ_len (xs.take i)
    have hz2 : (xs.take i).length ≤ 11 := by simp; exact Nat.le_trans (Nat.min_le_right _ _) hlen
    wtm_at "go"
    rename_i g2 S2
    unfold Turn
    wtm_at "go"
    split
    · rename_i h32
      have : o = 32 := by simpa using h32
      subst this
      wtm_at "go"
      rw [show Str.ofString "_" = mkS [95] by decide]
      refine O_sapp (by rw [sizeLine_eq]; simp; lia -zetaDelta) ?_
      intro t2
      wtm_at "go"
      rename_i g3 S3
      refine' ⟨_,_,_,⟨_,_,?q1,rfl,rfl⟩,S3⟩
      case q1=>rw [← show writ (xs.take i) ++ [95] = writ (xs.take (i + 1)) by rw [hw]; rfl]; try rfl
    · rename_i h32
      have h32 : o ≠ 32 := by simpa using h32
      have eo : ((o.toNat : Nat) : Int) = o := Int.toNat_of_nonneg hor.1
      wtm_at "go"
      wtm_at "kp"
      refine kept_spec (n := n) hor.1 hor.2 (Z.up S2.keep) (R'.le (by lia -zetaDelta)) ?_
      intro g3 K3
      have S3 := S2.keeps K3
      wtm_at "go"
      split
      · rename_i hk
        wtm_at "go"
        wtm_at "kp"
        refine O_chr hor.1 (by lia -zetaDelta) ?_
        intro t2
        wtm_at "go"
        refine O_sapp (b := [o.toNat]) (by rw [sizeLine_eq]; simp; lia -zetaDelta) ?_
        intro t3
        wtm_at "go"
        rename_i g4 S4
        have e : hdrL o.toNat = [o.toNat] := by unfold hdrL; rw [if_pos]; rw [eo]; exact hk
        refine' ⟨_,_,_,⟨_,_,?q1,rfl,rfl⟩,S4⟩
        case q1=>rw [hw,e]; try rfl
      · rename_i hk
        wtm_at "go"
        rw [show Str.ofString "=" = mkS [61] by decide]
        refine O_sapp (by rw [sizeLine_eq]; simp; lia -zetaDelta) ?_
        intro t2
        wtm_at "go"
        have e1 : o.fdiv 16 = ((o.toNat / 16 : Nat) : Int) := by rw [Int.fdiv_eq_ediv_of_nonneg _ (by decide),Int.natCast_ediv,eo]; rfl
        have e2 : o.fmod 16 = ((o.toNat % 16 : Nat) : Int) := by rw [Int.fmod_eq_emod_of_nonneg _ (by decide),Int.natCast_emod,eo]; rfl
        have d1 : o.toNat / 16 < 16 := Nat.div_lt_of_lt_mul ((Int.toNat_lt hor.1).mpr hor.2)
        have d2 : o.toNat % 16 < 16 := Nat.mod_lt _ (by decide)
        rw [e1]
        refine O_sitem (Int.natCast_nonneg _) (small62 (Nat.le_trans (Nat.le_of_lt d1) (by decide))).2 (figs _ d1) ?_ (by with_unfolding_all rfl)
        intro t3
        refine O_sapp (by rw [sizeLine_eq]; simp; lia -zetaDelta) ?_
        intro t4
        wtm_at "go"
        rw [e2]
        refine O_sitem (Int.natCast_nonneg _) (small62 (Nat.le_trans (Nat.le_of_lt d2) (by decide))).2 (figs _ d2) ?_ (by with_unfolding_all rfl)
        intro t5
        refine O_sapp (by rw [sizeLine_eq]; simp; lia -zetaDelta) ?_
        intro t6
        wtm_at "go"
        rename_i g4 S4
        have e : hdrL o.toNat = [61,hexD (o.toNat / 16),hexD (o.toNat % 16)] := by
          unfold hdrL; rw [if_neg,if_neg]
          · exact fun e=>h32 (by rw [← eo,e]; rfl)
          · rw [eo]; exact hk
        refine' ⟨_,_,_,⟨_,_,?q1,rfl,rfl⟩,S4⟩
        case q1=>rw [hw,e,show ∀ (x:List Nat) (a b c:Nat),x ++ [a,b,c] = x ++ [a] ++ [b] ++ [c] from fun _ _ _ _=>by simp]; try rfl
  · rintro m N M g ⟨u,ts,rfl,rfl,rfl⟩ S
    refine S.letm ?_; clear S; intro mS MS S
    try dsimp only
    wtm_at "go"
    wtm_at "f"
    rw [List.take_of_length_le (by rw [hi.length]; exact Nat.le_refl _)]
    exact k _ _ S.keep
end
section
section
variable {A:Around} {K N:Pt} {n₀:Nat} {env:Env} {m m':List (Str × Option Value)} {M M':List (Addr × OP)} {h h':Heap} {cs:List (Str × Addr)} {gl:List (Str × Value)}
noncomputable def TestsWP (A:Around) (envc:Env) : List PySem.Expr → (Bool → Heap → Prop) → Heap → Prop
  | [],Q,h=>Q true h
  | [c],Q,h=>WP A (isTrue c envc (eval c envc)) Q h
  | _,_,_=>False
theorem TestsWP.run {envc:Env} : ∀ {ifs:List PySem.Expr} {Q:Bool → Heap → Prop} {h:Heap},TestsWP A envc ifs Q h →
    WP A (forIn ifs true fun c r=>if r = true then do let ok ← isTrue c envc (eval c envc); pure (ForInStep.yield ok) else pure (ForInStep.yield r)) Q h
  | [],Q,h,x=>by rw [List.forIn_nil]; exact WP_pure x
  | [c],Q,h,x=>by
    rw [List.forIn_cons]
    simp only [if_true]
    refine WP_bind (WP_bind (WP.mono x fun ok h1 q=>WP_pure ?_))
    simp only [List.forIn_nil]
    exact WP_pure q
  | _ :: _ :: _,_,_,x=>x.elim
noncomputable def okC (sc:Scope) (cn:List Str) (gl:List (Str × Value)) (x:Str) : Bool := cn.all (fun y=>sc.names.lookup y == some .cell) && okGl sc gl && (sc.names.lookup x == some .local) && (sc.names.lookup ("__debug__" : Str)).isNone
theorem okC.sc {scope:Scope} {cl cs':List (Str × Addr)} {gl':List (Str × Value)} {x:Str} {C:Addr} (Z:Stat K) (Cs:Sc K env cs gl) (hok:okC (relabel scope env) (cs'.map (·.1)) gl' x = true) (hcs:∀ p ∈ cs',cl.lookup p.1 = some p.2) :
    Sc K (compEnvC scope cl C env) cs' gl' := by
  simp only [okC,Bool.and_eq_true] at hok
  obtain ⟨⟨⟨h1,h2⟩,h3⟩,h4⟩ := hok
  exact ⟨by simpa [Env.kindOf,compEnvC] using h4,Cs.g,Cs.b,fun p hp=>⟨by simpa [Env.kindOf,compEnvC] using List.all_eq_true.mp h1 p.1 (List.mem_map_of_mem hp),hcs p hp⟩,okGl.sc Z h2⟩
theorem St.butI {I:Addr} {h3:Heap} (S:St K n₀ env m N M h) (hKI:K I = none) (hNI:N I = none) (hMI:∀ p ∈ M,p.1 ≠ I) (hLI:env.locals ≠ I) (hk:∀ b o,b ∉ [I] → h.get? b = some o → h3.get? b = some o) : St K n₀ env m N M h3 := by
  have keep : ∀ b o,b ≠ I → h.get? b = some o → h3.get? b = some o := fun b o hb e=>hk b o (by simpa using hb) e
  refine { S with ns := ?_,keep := ?_,per := ?_,led := ?_ }
  · obtain ⟨mm,hn,e⟩ := S.ns
    exact ⟨mm,hn.at' fun o e=>keep _ _ hLI e,e⟩
  · exact fun b o e=>keep b o (by rintro rfl; rw [hKI] at e; cases e) (S.keep b o e)
  · exact fun b o e=>keep b o (by rintro rfl; rw [hNI] at e; cases e) (S.per b o e)
  · intro p hp
    obtain ⟨o,ho,q⟩ := S.led p hp
    exact ⟨o,keep _ _ (hMI p hp) ho,q⟩
noncomputable def NO (mm:Str → Option Value) : OP := fun o=>∃ es ep,o.data = .dict es ep ∧ StrKeys es ∧ ∀ name,nsFind es name = mm name
theorem NO.iff {h:Heap} {a:Addr} {mm:Str → Option Value} : At h.get? a (NO mm) ↔ h.Ns a mm :=
  ⟨fun ⟨o,e,es,ep,x,y,z⟩=>⟨o,es,ep,e,x,y,z⟩,fun ⟨o,es,ep,e,x,y,z⟩=>⟨o,e,es,ep,x,y,z⟩⟩
theorem St.into {envc:Env} {m':List (Str × Option Value)} {mc:Str → Option Value} (S:St K n₀ env m N M h) (k:Keep h h') (hC:h.get? envc.locals = none) (hge:h.objs.size ≤ envc.locals) (hn:h'.Ns envc.locals mc)
    (fn:envc.scope.kind = .function) (loc:∀ p ∈ m',envc.kindOf p.1 = some .local) (ndk:(m'.map (·.1)).Nodup) (hm:∀ p ∈ m',p.2 = none) :
    ∃ mm,(∀ p ∈ m,∀ v,p.2 = some v → mm p.1 = some v) ∧ St K n₀ envc m' N ((env.locals,NO mm) :: M) h' := by
  obtain ⟨mm,hns,hmm⟩ := S.ns
  obtain ⟨oL,hoL⟩ := S.isL
  have nd := S.nd
  rw [List.nodup_cons] at nd
  refine ⟨mm,hmm,fn,loc,ndk,⟨mc,hn,fun p hp v hv=>by rw [hm p hp] at hv; cases hv⟩,fun a o e=>k a o (S.keep a o e),fun a o e=>k a o (S.per a o e),?_,Nat.le_trans S.newer hge,S.newN,?_,?_,?_,?_,?_⟩
  · intro p hp
    rcases List.mem_cons.mp hp with rfl | hp
    · exact (NO.iff.mpr hns).up k
    · exact (S.led p hp).up k
  · cases e : K envc.locals with
    | none=>rfl
    | some o=>rw [S.keep _ _ e] at hC; cases hC
  · cases e : N envc.locals with
    | none=>rfl
    | some o=>rw [S.per _ _ e] at hC; cases hC
  · intro p hp
    rcases List.mem_cons.mp hp with rfl | hp
    · exact S.offK
    · exact S.offMK p hp
  · intro p hp
    rcases List.mem_cons.mp hp with rfl | hp
    · exact S.offN
    · exact S.offMN p hp
  · rw [List.map_cons,List.nodup_cons,List.nodup_cons]
    refine ⟨fun hm'=>?_,nd⟩
    rcases List.mem_cons.mp hm' with e | hm'
    · have e' : envc.locals = env.locals := e
      rw [e',hoL] at hC; cases hC
    · obtain ⟨p,hp,e⟩ := List.mem_map.mp hm'
      obtain ⟨o,ho,_⟩ := S.led p hp
      have e' : p.1 = envc.locals := e
      rw [e',hC] at ho; cases ho
theorem St.back {envc:Env} {mc:List (Str × Option Value)} {mm:Str → Option Value} {N':Pt} {M1:List (Addr × OP)} (S:St K n₀ env m N M h) (hmm:∀ p ∈ m,∀ v,p.2 = some v → mm p.1 = some v) (S':St K n₀ envc mc N' M1 h') (hL:(env.locals,NO mm) ∈ M1) (hs:∀ p ∈ M',p ∈ M1) (nd:((env.locals :: M'.map (·.1))).Nodup) :
    St K n₀ env m N' M' h' :=
  { S with
    ns := ⟨mm,NO.iff.mp (S'.led _ hL),hmm⟩
    keep := S'.keep
    per := S'.per
    led := fun p hp=>S'.led p (hs p hp)
    newN := S'.newN
    offN := S'.offMN _ hL
    offMK := fun p hp=>S'.offMK p (hs p hp)
    offMN := fun p hp=>S'.offMN p (hs p hp)
    nd := nd }
end
structure Itr2 (A:Around) (I:Addr) (n:Nat) (V:Nat → Value → Prop) (ent:Nat → OP) (need:Heap → Prop) : Prop extends Itr A I n V ent need where
  self : ∀ h (Q:Value → Heap → Prop),At h.get? I (ent 0) → Q (.ref I) h → WP A (pyIter (.ref I)) Q h
section
variable {A:Around} {K N:Pt} {n₀:Nat} {env:Env} {m m':List (Str × Option Value)} {M M':List (Addr × OP)} {h h':Heap} {cs:List (Str × Addr)} {gl:List (Str × Value)}
theorem itr2_list (hh:A.handled = none) (I l:Addr) (vs:List Value) : Itr2 A I vs.length (fun i v=>vs[i]? = some v) (LI l) (fun h=>At h.get? l (LO vs)) :=
  ⟨itr_list hh I l vs,fun h Q ha q=>WP_lib fun s e=>by subst e; exact wpAny_pyIter_listiter (l := l) (i := 0) ha ⟨_,_,rfl,q⟩⟩
theorem itr2_range (hh:A.handled = none) (I:Addr) (a:Int) (n:Nat) : Itr2 A I n (fun i v=>∃ t,v = .int (a + (i:Nat)) t) (RI a n) (fun _=>True) :=
  ⟨itr_range hh I a n,fun h Q ha q=>WP_lib fun s e=>by subst e; exact wpAny_pyIter_rangeiter (RI_iff.mp ha) ⟨_,_,rfl,q⟩⟩
theorem compLoop_list {elt iter:PySem.Expr} {x:Str} {px:Pos} {ifs:List PySem.Expr} {scope:Scope} {pos:Pos} {I D:Addr} {n:Nat} {V:Nat → Value → Prop} {ent:Nat → OP} {need:Heap → Prop} {R:Heap → Prop} {E:Result → Shared → Prop}
    (T:Itr2 A I n V ent need) (J:Nat → List Value → Pt → Prop) (hz:n ≤ sizeLine) {e3:Addr × OP}
    (S:St K n₀ env [(x,none)] N ((I,ent 0) :: (D,LO []) :: e3 :: M) h) (hJ:J 0 [] N)
    (hneed:∀ u N' h P Q,St K n₀ env [(x,u)] N' ((I,P) :: (D,Q) :: e3 :: M) h → Sub N N' → need h)
    (turn:∀ i v ys N' P h3,i < n → V i v → J i ys N' → Sub N N' → St K n₀ env [(x,some v)] N' ((I,P) :: (D,LO ys) :: e3 :: M) h3 →
      TestsWP A env ifs (fun ok h4=>if ok then WP A (eval elt env) (fun y h5=>∃ N'',C3 (Sub N' N'') (J (i + 1) (ys ++ [y]) N'') (St K n₀ env [(x,some v)] N'' ((I,P) :: (D,LO ys) :: e3 :: M) h5)) h4
        else ∃ N'',C3 (Sub N' N'') (J (i + 1) ys N'') (St K n₀ env [(x,some v)] N'' ((I,P) :: (D,LO ys) :: e3 :: M) h4)) h3)
    (fin:∀ ys N' u h',Sub N N' → J n ys N' → St K n₀ env [(x,u)] N' ((D,LO ys) :: e3 :: M) h' → R h') (s:Shared) (tk:Nat) :
    codeAny (model prg w) A (.compLoop (.ListComp elt [⟨.Name x px,iter,ifs,0⟩] scope pos) 0 (.ref I) (.ref D) env) (fun r s'=>(∃ h' tk',r = .ok .next ∧ s' = { s with heap := h',toks := tk' } ∧ R h') ∨ E r s') { s with heap := h,toks := tk } := by
  refine codeAny_compLoop_tests (fun k s'=>E6 fun i ys N' u h tk=>C5 (i ≤ n ∧ k = n - i) (ys.length ≤ i ∧ Sub N N') (J i ys N') (St K n₀ env [(x,u)] N' ((I,ent i) :: (D,LO ys) :: e3 :: M) h) (s' = { s with heap := h,toks := tk })) ?_ n ⟨0,[],N,_,h,tk,⟨Nat.zero_le _,rfl⟩,⟨Nat.le_refl _,Sub.rfl⟩,hJ,S,rfl⟩
  rintro k s' ⟨i,ys,N',u,h,tk,⟨hi,rfl⟩,⟨hy,hN⟩,hJ,S,rfl⟩
  have hn := hneed u N' h _ _ S hN
  by_cases hlt : i < n
  · refine (T.item i h (fun r h1=>∃ v,r = some v ∧ V i v ∧ St K n₀ env [(x,u)] N' ((I,ent (i + 1)) :: (D,LO ys) :: e3 :: M) h1) hlt (S.mm List.mem_cons_self) hn fun v h1 hV ha hk=>⟨v,rfl,hV,S.upd .head hk ha⟩).go ?_
    rintro r h1 t1 ⟨v,rfl,hV,S1⟩
    dsimp only
    refine (W_assign_Name (store_local S1 .head fun h2 S2=>?_ : WP A _ (fun _ h2=>St K n₀ env [(x,some v)] N' ((I,ent (i + 1)) :: (D,LO ys) :: e3 :: M) h2) h1)).go (s := s) fun _ h2 t2 S2=>?_
    · exact S2
    refine (TestsWP.run (turn i v ys N' _ h2 hlt hV hJ hN S2)).go (s := s) fun ok h3 t3 q=>?_
    cases ok with
    | false =>
      simp only [Bool.false_eq_true,if_false] at q ⊢
      obtain ⟨N'',hN2,hJ2,S3⟩ := q
      exact ⟨n - (i + 1),by omega,i + 1,ys,N'',_,h3,t3,⟨hlt,rfl⟩,⟨by exact Nat.le_succ_of_le ‹_›,hN.trans hN2⟩,hJ2,S3,rfl⟩
    | true =>
      simp only [if_true] at q ⊢
      refine q.go (s := s) fun y h4 t4 q4=>?_
      obtain ⟨N'',hN2,hJ2,S4⟩ := q4
      refine (O_append (x := y) (Q := fun _ h5=>St K n₀ env [(x,some v)] N'' ((I,ent (i + 1)) :: (D,LO (ys ++ [y])) :: e3 :: M) h5) S4 (List.mem_cons_of_mem _ List.mem_cons_self) (Nat.le_trans hy (Nat.le_trans hi hz)) (.tail .head) fun h5 S5=>S5).go (s := s) fun _ h5 t5 S5=>?_
      exact ⟨n - (i + 1),by lia,i + 1,ys ++ [y],N'',_,h5,t5,⟨hlt,rfl⟩,⟨by simp; omega,hN.trans hN2⟩,hJ2,S5,rfl⟩
  · have e : i = n := by exact Nat.le_antisymm hi (Nat.le_of_not_lt hlt)
    subst e
    refine (T.done h (fun r h1=>r = none ∧ St K n₀ env [(x,u)] N' ((D,LO ys) :: e3 :: M) h1) (S.mm List.mem_cons_self) hn fun h1 hk=>⟨rfl,S.off hk⟩).go ?_
    rintro r h1 t1 ⟨rfl,S1⟩
    exact .inl ⟨h1,t1,rfl,rfl,fin ys N' u h1 hN hJ S1⟩
noncomputable def LCGo (A:Around) (K:Pt) (n₀:Nat) (env:Env) (cs':List (Str × Addr)) (gl':List (Str × Value)) (x:Str) (ifs:List PySem.Expr) (elt:PySem.Expr) (Q:Value → Heap → Prop) : Value → Heap → Prop :=
  fun it h2=>E6 fun (I:Addr) (n:Nat) (V:Nat → Value → Prop) (ent:Nat → OP) (need:Heap → Prop) (J:Nat → List Value → Pt → Prop)=>E3 fun (m:List (Str × Option Value)) (N:Pt) (M:List (Addr × OP))=>C5 (it = .ref I) (Itr2 A I n V ent need) (n ≤ sizeLine) (St K n₀ env m N ((I,ent 0) :: M) h2) (C4 (J 0 [] N) ((∀ envc u N' h (e1 e2 e3:Addr × OP),St K n₀ envc [(x,u)] N' (e1 :: e2 :: e3 :: M) h → Sub N N' → need h)) ((∀ envc i v ys N' (e1 e2 e3:Addr × OP) h3,Sc K envc cs' gl' → i < n → V i v → J i ys N' → Sub N N' → St K n₀ envc [(x,some v)] N' (e1 :: e2 :: e3 :: M) h3 → TestsWP A envc ifs (fun ok h4=>if ok then WP A (eval elt envc) (fun y h5=>∃ N'',C3 (Sub N' N'') (J (i + 1) (ys ++ [y]) N'') (St K n₀ envc [(x,some v)] N'' (e1 :: e2 :: e3 :: M) h5)) h4 else ∃ N'',C3 (Sub N' N'') (J (i + 1) ys N'') (St K n₀ envc [(x,some v)] N'' (e1 :: e2 :: e3 :: M) h4)) h3)) ((∀ D ys N' h',n₀ ≤ D → Sub N N' → J n ys N' → St K n₀ env m N' ((D,LO ys) :: M) h' → Q (.ref D) h')))
theorem W_ListComp {elt iter:PySem.Expr} {x:Str} {px:Pos} {ifs:List PySem.Expr} {scope:Scope} {cl cs':List (Str × Addr)} {gl':List (Str × Value)} {pos:Pos} {Q:Value → Heap → Prop}
    (Z:Stat K) (Cs:Sc K env cs gl) (hok:okC (relabel scope env) (cs'.map (·.1)) gl' x = true) (hcs:∀ p ∈ cs',cl.lookup p.1 = some p.2)
    (hclos:closureFor scope env = pure cl) (hcell:(scope.names.all fun y=>y.2 != .cell) = true) (hkind:scope.kind = .function)
    (hnames:(scope.names.all fun y=>y.2 != .local || scope.names.lookup y.1 == some .local) = true)
    (hs:∀ x,foldedSetIterable iter env x = pure x)
    (hh:WP A (eval iter env) (fun xv h1=>WP A (pyIter xv) (LCGo A K n₀ env cs' gl' x ifs elt Q) h1) h) :
    WP A (eval (.ListComp elt [⟨.Name x px,iter,ifs,0⟩] scope pos) env) Q h := by
  have hok' := hok
  simp only [okC,Bool.and_eq_true,beq_iff_eq] at hok'
  intro s tk
  rw [eval_ListComp]
  refine wpAny_comprehension_free (use := none) rfl hs hclos hkind (fun y hy e=>?_) (hh.go fun xv h1 t1 y=>y.go fun it h2 t2 z=>?_)
  · have := List.all_eq_true.mp hnames y hy
    rw [e] at this
    simpa using this
  obtain ⟨I,n,V,ent,need,J,m,N,M,rfl,T,hz,S,hJ,hneed,turn,fin⟩ := z
  refine wpAny_newObj_type (wpAny_newFunctionEnv (fun y hy=>by simpa using List.all_eq_true.mp hcell y hy) (by intro y hy; simp at hy) (fun h3 hns hsb=>?_) hkind)
  dsimp only at hns hsb ⊢
  have n1 : New h2 h2.objs.size (LO []) (h2.push { cls := .type "list",data := .seq ([] : List Value).toArray }) := New.push _ rfl ⟨0,rfl⟩
  have S1 := (S.born n1).swap
  generalize hH2 : h2.push { cls := .type "list",data := .seq ([] : List Value).toArray } = H2 at *
  have hkeep : Keep H2 h3 := fun b o e=>hsb.extBut b o (Nat.ne_of_lt (Heap.lt_size e)) (Heap.get?_push_of_some _ e)
  obtain ⟨mm,hmm,S2⟩ := S1.into (envc := compEnvC scope cl H2.objs.size env) (m' := [(x,none)]) hkeep (get?_size_none _) (Nat.le_refl _) hns hkind (fun p hp=>by rw [List.mem_singleton.mp hp]; simpa [Env.kindOf,compEnvC] using hok'.1.2) (by simp) (fun p hp=>by rw [List.mem_singleton.mp hp])
  have hD : n₀ ≤ h2.objs.size := S.newer
  have S3 : St K n₀ (compEnvC scope cl H2.objs.size env) [(x,none)] N ((I,ent 0) :: (h2.objs.size,LO []) :: (env.locals,NO mm) :: M) h3 :=
    S2.perm ((List.perm_append_comm (l₁ := [_]) (l₂ := [_,_])).append_right M)
  have Cc : Sc K (compEnvC scope cl H2.objs.size env) cs' gl' := okC.sc Z Cs hok hcs
  have loop : ∀ (s:Shared) (tk:Nat),codeAny (model prg w) A (.compLoop (.ListComp elt [⟨.Name x px,iter,ifs,0⟩] scope pos) 0 (.ref I) (.ref h2.objs.size) (compEnvC scope cl H2.objs.size env))
      (compPost (model prg w) A (fun _ _=>False) none (fun a s'=>∃ h' tk',s' = { s with heap := h',toks := tk' } ∧ Q a h') (.ref h2.objs.size) H2.objs.size) { s with heap := h3,toks := tk } := by
    intro s tk
    refine codeAny_mono (compLoop_list (E := fun _ _=>False) (R := fun h'=>∃ mc,h'.Ns H2.objs.size mc ∧ ∀ h'',Heap.SameBut H2.objs.size h' h'' → Q (.ref h2.objs.size) h'') T J hz S3 hJ
      (fun u N' h P Q S' hN=>hneed _ u N' h _ _ _ S' hN) (fun i v ys N' P h3 hi hV hJ hN S'=>turn _ i v ys N' _ _ _ h3 Cc hi hV hJ hN S') (fun ys N' u h' hN hJ S'=>?_) s tk) fun r s' hr=>?_
    · obtain ⟨mc,hmc,_⟩ := S'.ns
      refine ⟨mc,hmc,fun h'' hs''=>fin h2.objs.size ys N' h'' hD hN hJ ?_⟩
      have nd' := S'.nd
      simp only [List.map_cons,List.nodup_cons,List.mem_cons,not_or] at nd'
      have Sb : St K n₀ env m N' ((h2.objs.size,LO ys) :: M) h' := S.back hmm S' (List.mem_cons_of_mem _ List.mem_cons_self) (fun p hp=>by
        rcases List.mem_cons.mp hp with rfl | hp
        · exact List.mem_cons_self
        · exact List.mem_cons_of_mem _ (List.mem_cons_of_mem _ hp)) (by
          simp only [List.map_cons,List.nodup_cons,List.mem_cons,not_or]
          exact ⟨⟨fun e=>nd'.2.1.1 e.symm,nd'.2.2.1⟩,nd'.2.1.2,nd'.2.2.2⟩)
      refine Sb.butI (I := H2.objs.size) ?_ ?_ ?_ ?_ fun b o hb e=>hs''.extBut b o (by simpa using hb) e
      · exact S'.offK
      · exact S'.offN
      · intro p hp e
        rcases List.mem_cons.mp hp with rfl | hp
        · exact nd'.1.1 e.symm
        · exact nd'.1.2.2 (e ▸ List.mem_map_of_mem hp)
      · exact fun e=>nd'.1.2.1 e.symm
    · rcases hr with ⟨h',tk',rfl,rfl,mc,hmc,hq⟩ | hr
      · exact ⟨mc,hmc,fun h'' hs''=>⟨h'',tk',rfl,hq h'' hs''⟩⟩
      · exact hr.elim
  refine codeAny_compStart_list (loop _ _) ?_
  exact (T.self h3 (fun it h'=>it = .ref I ∧ h' = h3) (S3.mm List.mem_cons_self) ⟨rfl,rfl⟩).go fun it h' tk' e=>by
    obtain ⟨rfl,rfl⟩ := e
    exact loop s tk'
end
end
section
noncomputable def DO (kvs:List (Int × Value)) : OP := fun o=>o.IsDictOf (intKind prg w) kvs
section
variable {A:Around} {K N:Pt} {n₀:Nat} {env:Env} {m m':List (Str × Option Value)} {M M':List (Addr × OP)} {h h':Heap} {cs:List (Str × Addr)} {gl:List (Str × Value)}
theorem DO.of {h:Heap} {d:Addr} {kvs:List (Int × Value)} (x:At h.get? d (DO kvs)) : h.DictOf (intKind prg w) d kvs := Heap.dictOf_iff.mpr x
theorem DO.to {h:Heap} {d:Addr} {kvs:List (Int × Value)} (x:h.DictOf (intKind prg w) d kvs) : At h.get? d (DO kvs) := Heap.dictOf_iff.mp x
theorem isInt_self (k:Int) (t:Tok) : (intKind prg w).is k (.int k t) = true := by simp [intKind,Value.isInt]
theorem O_ditem {value slice:PySem.Expr} {d:Addr} {kvs:List (Int × Value)} {k:Int} {u:Tok} {x:Value} {Q:Value → Heap → Prop} (hd:At h.get? d (DO kvs)) (hx:valueAt kvs k = some x) (q:Q x h)
    (hs:subscripted slice false (.ref d) (.int k u) = operate [.ref d,.int k u] (getItem (.ref d) (.int k u))) : WP A (subscriptTail value slice (.ref d) (.int k u)) Q h := by
  refine O_subTail (T := "dict") (fun s e=>?_) slot_dict_getitem.lookup (WP_lib fun s e=>?_) hs
  · subst e; exact (DO.of hd).typeIs
  · subst e
    exact wpAny_getItem_of (isInt_self k u) (DO.of hd).mapOf hx ⟨_,_,rfl,q⟩
theorem O_eq_ints {a b:Addr} {vs us:List Value} {xs ys:List Int} {n:Nat} {Q:Value → Heap → Prop} (R:Rm A n) (ha:At h.get? a (LO vs)) (hi:IntsAre vs xs) (hb:At h.get? b (LO us)) (hj:IntsAre us ys) (q:Q (.bool (decide (xs = ys))) h) : WP A (compareOp .Eq (.ref a) (.ref b)) Q h :=
  WP_lib fun s e=>by subst e; exact eq_intsK (LO.isList ha) hi (LO.isList hb) hj R.line ⟨_,_,rfl,q⟩
theorem O_ne_ints {a b:Addr} {vs us:List Value} {xs ys:List Int} {n:Nat} {Q:Value → Heap → Prop} (R:Rm A n) (ha:At h.get? a (LO vs)) (hi:IntsAre vs xs) (hb:At h.get? b (LO us)) (hj:IntsAre us ys) (q:Q (.bool (!decide (xs = ys))) h) : WP A (compareOp .NotEq (.ref a) (.ref b)) Q h :=
  WP_lib fun s e=>by subst e; exact ne_intsK (LO.isList ha) hi (LO.isList hb) hj R.line ⟨_,_,rfl,q⟩
end
noncomputable def Tells (kvs:List (Int × Value)) (xs:List Int) : Prop := ∀ x ∈ xs,valueAt kvs x = some (.bool (keptB x))
noncomputable def besideB (xs ys:List Int) : Bool := decide (xs = ys) && xs.all fun x=>!keptB x
theorem beside_spec {A:Around} {h:Heap} {n:Nat} {a b d:Addr} {va vb:List Value} {xs ys:List Int} {kvs:List (Int × Value)} {Q:Value → Heap → Prop}
    (Z:Stat h.get?) (R:Rm A (n + 5)) (ha:At h.get? a (LO va)) (hi:IntsAre va xs) (hb:At h.get? b (LO vb)) (hj:IntsAre vb ys) (hd:At h.get? d (DO kvs)) (hlen:xs.length ≤ 11) (ht:Tells kvs xs)
    (k:∀ h',Keep h h' → Q (.bool (besideB xs ys)) h') : WP A (call (.ref 315) [.ref a,.ref b,.ref d]) Q h := by
  apply enterC (vals := [.ref a,.ref b,.ref d]) (binds := [(Str.ofString "some",.ref a),(Str.ofString "others",.ref b),(Str.ofString "kept",.ref d)]) (lb := [(Str.ofString "some",.ref a),(Str.ofString "others",.ref b)]) (cv := [(Str.ofString "kept",0,some (.ref d))]) (rest := []) (gl := []) Z R
  k_is; k_is; exact rfl; kernel_rfl; wtm_at "each"; wtm_at "each"; (intro L; wtm_at "each"); kernel_rfl; kernel_rfl; kernel_rfl; kernel_rfl; exact rfl; exact rfl; exact rfl; wtm_at "enth"
  intro L env A' h₁ henv R' C K₁ S
  dsimp only [List.map] at C S
  refine S.letm ?_; clear S; intro mS MS S
  wtm_at "go"
  refine O_eq_ints R' (S.kk ha) hi (S.kk hb) hj ?_
  wtm_at "go"
  by_cases e : xs = ys
  · rw [if_pos (by simpa using e)]
    wtm_at "go"
    refine' W_ListComp (n₀ := h.objs.size) (cl := [(Str.ofString "kept",L + 1 + 0)]) (cs' := [(Str.ofString "kept",L + 1 + 0)]) (gl' := []) Z C ?y1 ?y2 ?y3 ?y4 ?y5 ?y6 ?y7 ?_
    case y1=>rw [henv]; kernel_rfl
    case y2=>wtm_at "each"
    case y3=>rw [henv]; kernel_rfl
    case y4=>kernel_rfl
    case y5=>rfl
    case y6=>kernel_rfl
    case y7=>intro _; rfl
    wtm_at "go"
    refine iter_list S (S.kk ha) ?_
    intro I h2 K2 S2
    refine ⟨I,va.length,_,LI a,_,fun i ys _=>IntsAre ys ((xs.take i).filter keptB),_,_,_,rfl,itr2_list R'.h I a va,?_,S2,.nil,fun envc u N' h e1 e2 e3 S _=>S.kk ha,?_,?_⟩
    · rw [sizeLine_eq,hi.length]; lia
    · intro envc i v ys' N' e1 e2 e3 h3 Cc hi' hv hJ _ S3
      obtain ⟨o,to,rfl,hq⟩ := ints_get hi hv
      show WP _ _ _ _
      wtm_at "go"
      refine O_ditem (S3.kk hd) (ht o (List.mem_of_getElem? hq)) ?_ (by with_unfolding_all rfl)
      have ef : ((xs.take (i + 1)).filter keptB) = ((xs.take i).filter keptB) ++ (if keptB o = true then [o] else []) := by
        rw [List.take_add_one,hq,List.filter_append]
        by_cases hk : keptB o = true <;> simp [hk]
      wtm_at "go"
      split
      · rename_i hk
        rw [if_pos hk] at ef
        wtm_at "go"
        exact ⟨N',Sub.rfl,by show IntsAre _ _; rw [ef]; exact ints_append hJ (ints_one _ _),S3⟩
      · rename_i hk
        rw [if_neg hk,List.append_nil] at ef
        exact ⟨N',Sub.rfl,by show IntsAre _ _; rw [ef]; exact hJ,S3⟩
    · intro D ys' N' h3 hD hN hJ S3
      have hJ : IntsAre ys' ((xs.take va.length).filter keptB) := hJ
      rw [List.take_of_length_le (by rw [hi.length]; exact Nat.le_refl _)] at hJ
      wtm_at "go"
      wtm_at "new"
      intro c h4 _ _ K4 S4
      refine O_eq_ints R' (S4.mm (by wtm_at "mem")) hJ (S4.mm (by wtm_at "mem")) .nil ?_
      wtm_at "f"
      have := k _ S4.keep
      have e2 : besideB xs ys = decide (xs.filter keptB = []) := by
        unfold besideB
        rw [decide_eq_true e,Bool.true_and,Bool.eq_iff_iff]
        simp [List.filter_eq_nil_iff]
      rw [← e2]; exact this
  · rw [if_neg (by simpa using e)]
    wtm_at "f"
    have : besideB xs ys = false := by simp [besideB,e]
    have := k _ S.keep
    simpa [besideB,e] using this
end
section
section
variable {A:Around} {K N:Pt} {n₀:Nat} {env:Env} {m m':List (Str × Option Value)} {M M':List (Addr × OP)} {h h':Heap} {cs:List (Str × Addr)} {gl:List (Str × Value)}
theorem O_min2 {a b:Int} {t u:Tok} {Q:Value → Heap → Prop} (R:Rm A 0) (q:∀ h' t,Keep h h' → Q (.int (min a b) t) h') : WP A (call (.builtin "min") [.int a t,.int b u]) Q h :=
  WP_lib fun s e=>by
    subst e
    refine min_two_ints R.h fun h' tk hk=>⟨h',tk,rfl,?_⟩
    split
    · rename_i hlt; rw [← Int.min_eq_right (Int.le_of_lt hlt)]; exact q h' u hk
    · rename_i hlt; rw [← Int.min_eq_left (Int.not_lt.mp hlt)]; exact q h' t hk
theorem O_max {l:Addr} {vs:List Value} {ns:List Int} {Q:Value → Heap → Prop} (R:Rm A 0) (hl:At h.get? l (LO vs)) (hi:IntsAre vs ns) (hne:0 < ns.length) (q:∀ h' k t,Keep h h' → k ∈ ns → (∀ a ∈ ns,a ≤ k) → Q (.int k t) h') : WP A (call (.builtin "max") [.ref l]) Q h :=
  WP_lib fun s e=>by
    subst e
    obtain ⟨xs,e⟩ := hi.allInts.items
    have hns : ns = xs.toList.map (·.1) := by rw [← hi.numsOf,← nums_intItems,← e]
    have hsz : 0 < xs.size := by rw [hns,List.length_map,Array.length_toList] at hne; exact hne
    have hl' := LO.isList hl
    rw [e] at hl'
    refine max_intList R.h hl' hsz fun v h' tk hv hk=>?_
    obtain ⟨t,rfl⟩ := intItems_at hv
    obtain ⟨h1,h2⟩ := argBest_gt (numAt xs) (xs.size - 1)
    refine ⟨h',tk,rfl,q h' _ t hk ?_ fun a ha=>?_⟩
    · rw [hns,numAt_eq]; exact getD_mem (by rw [List.length_map,Array.length_toList]; omega)
    · rw [hns] at ha
      obtain ⟨j,hj,rfl⟩ := mem_getD ha
      rw [List.length_map,Array.length_toList] at hj
      rw [← numAt_eq]; exact h2 j (by lia -zetaDelta)
end
noncomputable def runK : List Int → List Int → Nat
  | x :: xs,y :: ys=>if x = y ∧ keptB x = true then runK xs ys + 1 else 0
  | _,_=>0
noncomputable def win (L:List Int) (i i2:Nat) : List Int := (L.take i2).drop i
theorem win_cons {L:List Int} {i i2:Nat} (h:i < i2) (h2:i2 ≤ L.length) : win L i i2 = L[i] :: win L (i + 1) i2 := by
  unfold win
  rw [List.drop_eq_getElem_cons (by simp; lia -zetaDelta)]
  simp
theorem win_nil {L:List Int} {i i2:Nat} (h:i2 ≤ i) : win L i i2 = [] := by
  unfold win; exact List.drop_eq_nil_of_le (by simp; exact Nat.le_trans (Nat.min_le_left _ _) h)
theorem win_len {L:List Int} {i i2:Nat} (h2:i2 ≤ L.length) : (win L i i2).length = i2 - i := by unfold win; simp; lia -zetaDelta
noncomputable def run2 (X Y:List Int) (i i2 j j2:Nat) : Nat := runK (win X i i2) (win Y j j2)
theorem run2_step {X Y:List Int} {i i2 j j2:Nat} (hi:i < i2) (hi2:i2 ≤ X.length) (hj:j < j2) (hj2:j2 ≤ Y.length) : run2 X Y i i2 j j2 = if X[i] = Y[j] ∧ keptB X[i] = true then run2 X Y (i + 1) i2 (j + 1) j2 + 1 else 0 := by
  unfold run2
  rw [win_cons hi hi2,win_cons hj hj2,runK]
theorem run2_zero {X Y:List Int} {i i2 j j2:Nat} (h:i2 ≤ i ∨ j2 ≤ j) : run2 X Y i i2 j j2 = 0 := by
  unfold run2
  rcases h with h | h
  · rw [win_nil h]; cases win Y j j2 <;> rfl
  · rw [win_nil h]; cases win X i i2 <;> rfl
noncomputable def upB (X Y:List Int) (i2 j2:Nat) (b:Nat × Nat × Nat) (i j:Nat) : Nat × Nat × Nat := if b.1 < run2 X Y i i2 j j2 then (run2 X Y i i2 j j2,i,j) else b
noncomputable def rowB (X Y:List Int) (i2 j1 j2:Nat) (b:Nat × Nat × Nat) (i:Nat) (n:Nat) : Nat × Nat × Nat := (List.range n).foldl (fun b jj=>upB X Y i2 j2 b i (j1 + jj)) b
noncomputable def allB (X Y:List Int) (i1 i2 j1 j2:Nat) (n:Nat) : Nat × Nat × Nat := (List.range n).foldl (fun b ii=>rowB X Y i2 j1 j2 b (i1 + ii) (j2 - j1)) (0,i1,j1)
theorem rowB_succ {X Y:List Int} {i2 j1 j2:Nat} {b:Nat × Nat × Nat} {i n:Nat} : rowB X Y i2 j1 j2 b i (n + 1) = upB X Y i2 j2 (rowB X Y i2 j1 j2 b i n) i (j1 + n) := by
  unfold rowB; rw [List.range_succ,List.foldl_append]; rfl
theorem allB_succ {X Y:List Int} {i1 i2 j1 j2 n:Nat} : allB X Y i1 i2 j1 j2 (n + 1) = rowB X Y i2 j1 j2 (allB X Y i1 i2 j1 j2 n) (i1 + n) (j2 - j1) := by
  unfold allB; rw [List.range_succ,List.foldl_append]; rfl
theorem St.bornNew {env:Env} {m:List (Str × Option Value)} {N:Pt} {M:List (Addr × OP)} {h h':Heap} {a:Addr} {P:OP} (S:St h.get? h.objs.size env m N ((a,P) :: M) h') (ha:h.objs.size ≤ a) : New h a P h' := ⟨S.keep,S.offMK _ List.mem_cons_self,ha,S.led _ List.mem_cons_self⟩
theorem runK_le (X Y:List Int) : runK X Y ≤ X.length ∧ runK X Y ≤ Y.length := by
  induction X generalizing Y with
  | nil=>cases Y <;> simp [runK]
  | cons x X ih =>
    cases Y with
    | nil=>simp [runK]
    | cons y Y =>
      rw [runK]
      split
      · have := ih Y; simp; omega
      · simp
noncomputable def InW (i1 i2 j1 j2:Nat) (b:Nat × Nat × Nat) : Prop := i1 ≤ b.2.1 ∧ b.2.1 + b.1 ≤ i2 ∧ j1 ≤ b.2.2 ∧ b.2.2 + b.1 ≤ j2
theorem upB_in {X Y:List Int} {i1 i2 j1 j2 i j:Nat} {b:Nat × Nat × Nat} (h2:i2 ≤ X.length) (h4:j2 ≤ Y.length) (hi:i1 ≤ i ∧ i < i2) (hj:j1 ≤ j ∧ j < j2) (hb:InW i1 i2 j1 j2 b) : InW i1 i2 j1 j2 (upB X Y i2 j2 b i j) := by
  unfold upB
  split
  · have h := runK_le (win X i i2) (win Y j j2)
    rw [win_len h2,win_len h4] at h
    exact ⟨hi.1,Nat.add_le_of_le_sub' (Nat.le_of_lt hi.2) h.1,hj.1,Nat.add_le_of_le_sub' (Nat.le_of_lt hj.2) h.2⟩
  · exact hb
theorem rowB_in {X Y:List Int} {i1 i2 j1 j2 i n:Nat} {b:Nat × Nat × Nat} (h2:i2 ≤ X.length) (h4:j2 ≤ Y.length) (hi:i1 ≤ i ∧ i < i2) (hn:j1 + n ≤ j2) (hb:InW i1 i2 j1 j2 b) : InW i1 i2 j1 j2 (rowB X Y i2 j1 j2 b i n) := by
  induction n with
  | zero=>exact hb
  | succ n ih=>rw [rowB_succ]; exact upB_in h2 h4 hi (by lia -zetaDelta) (ih (by exact Nat.le_of_lt ‹_›))
theorem allB_in {X Y:List Int} {i1 i2 j1 j2 n:Nat} (h2:i2 ≤ X.length) (h4:j2 ≤ Y.length) (h1:i1 ≤ i2) (h3:j1 ≤ j2) (hn:i1 + n ≤ i2) : InW i1 i2 j1 j2 (allB X Y i1 i2 j1 j2 n) := by
  induction n with
  | zero=>unfold allB InW; simp; exact ⟨h1,h3⟩
  | succ n ih=>rw [allB_succ]; exact rowB_in h2 h4 (by lia -zetaDelta) (by lia -zetaDelta) (ih (by lia -zetaDelta))
noncomputable def topT : Nat → (Nat → Bool) → Nat
  | 0,_=>0
  | n + 1,p=>if p n then n else topT n p
theorem topT_eq {n:Nat} {p:Nat → Bool} {k:Nat} (h1:k < n) (h2:p k = true) (h3:∀ t,t < n → p t = true → t ≤ k) : topT n p = k := by
  induction n with
  | zero=>lia -zetaDelta
  | succ n ih =>
    rw [topT]
    split
    · rename_i hp
      have := h3 n (by exact Nat.le_refl _) hp
      exact Nat.le_antisymm this (Nat.le_of_lt_succ h1)
    · rename_i hp
      refine ih ?_ fun t ht=>h3 t (by exact Nat.le_succ_of_le ‹_›)
      rcases Nat.lt_succ_iff_lt_or_eq.mp h1 with h | h
      · exact h
      · rw [h] at h2; exact absurd h2 hp
theorem lsl_win {L:List Int} {i i2:Nat} (h:i ≤ i2) (h2:i2 ≤ L.length) : lsl L (some (i:Int)) (some (i2:Int)) = win L i i2 := by
  unfold lsl win
  simp only [Option.elim_some]
  rw [clip_nat (Nat.le_trans h h2),clip_nat h2,List.drop_take]
noncomputable def aheadP (X Y:List Int) (at_ to t:Nat) : Bool := besideB (win X (at_ - t) at_) (win Y (to - t) to)
noncomputable def behindP (X Y:List Int) (e l t:Nat) : Bool := besideB (win X e (e + t)) (win Y l (l + t))
theorem aheadP_zero {X Y:List Int} {a b:Nat} : aheadP X Y a b 0 = true := by unfold aheadP; rw [win_nil (by exact Nat.le_refl _),win_nil (by lia -zetaDelta)]; rfl
theorem behindP_zero {X Y:List Int} {a b:Nat} : behindP X Y a b 0 = true := by unfold behindP; rw [win_nil (by exact Nat.le_refl _),win_nil (by lia -zetaDelta)]; rfl
theorem filt_succ {n:Nat} {p:Nat → Bool} : (((List.range (n + 1)).filter p).map fun t : Nat=>(t:Int)) = (((List.range n).filter p).map fun t : Nat=>(t:Int)) ++ (if p n = true then [(n:Int)] else []) := by
  rw [List.range_succ,List.filter_append,List.map_append]
  by_cases h : p n = true <;> simp [h]
theorem top_of {n:Nat} {p:Nat → Bool} {k:Int} (hk:k ∈ (((List.range n).filter p).map fun t : Nat=>(t:Int))) (ha:∀ a ∈ (((List.range n).filter p).map fun t : Nat=>(t:Int)),a ≤ k) : k = (topT n p:Nat) := by
  obtain ⟨t,ht,rfl⟩ := List.mem_map.mp hk
  rw [List.mem_filter,List.mem_range] at ht
  rw [topT_eq ht.1 ht.2 fun u hu hp=>?_]
  have := ha (u:Int) (List.mem_map.mpr ⟨u,List.mem_filter.mpr ⟨List.mem_range.mpr hu,hp⟩,rfl⟩)
  exact Int.ofNat_le.mp this
theorem spanIn {x y z p q r:Nat} (h1:x ≤ y) (h2:y + p ≤ z) (h3:q ≤ y - x) (h4:r ≤ z - (y + p)) : q ≤ y ∧ y + p + r ≤ z ∧ x ≤ y - q ∧ y - q + (q + p + r) ≤ z := by
  have h5 : q ≤ y := Nat.le_trans h3 (Nat.sub_le _ _)
  have h6 := Nat.add_le_of_le_sub' h2 h4
  refine ⟨h5,h6,?_,?_⟩
  · exact Nat.le_sub_of_add_le (Nat.add_comm q x ▸ Nat.add_le_of_le_sub h1 h3)
  · rw [Nat.add_assoc q,← Nat.add_assoc,Nat.sub_add_cancel h5,← Nat.add_assoc]; exact h6
theorem topT_lt {n:Nat} {p:Nat → Bool} (h:0 < n) : topT n p < n := by
  induction n with
  | zero=>assumption
  | succ n ih =>
    rw [topT]
    split
    · exact Nat.lt_succ_self _
    · cases n with
      | zero=>simp [topT]
      | succ n=>have := ih (by exact Nat.succ_pos _); exact Nat.le_succ_of_le ‹_›
noncomputable def blockF (X Y:List Int) (i1 i2 j1 j2:Nat) : Nat × Nat × Nat :=
  let b := allB X Y i1 i2 j1 j2 (i2 - i1)
  let ah := topT (min (b.2.1 - i1) (b.2.2 - j1) + 1) (aheadP X Y b.2.1 b.2.2)
  let be := topT (min (i2 - (b.2.1 + b.1)) (j2 - (b.2.2 + b.1)) + 1) (behindP X Y (b.2.1 + b.1) (b.2.2 + b.1))
  (b.2.1 - ah,b.2.2 - ah,ah + b.1 + be)
theorem minNat {a b i j:Nat} (h1:i ≤ a) (h2:j ≤ b) : min ((a:Int) - i) ((b:Int) - j) + 1 - 0 = ((min (a - i) (b - j) + 1 : Nat) : Int) := by
  rw [← Int.ofNat_sub h1,← Int.ofNat_sub h2]; generalize a - i = p; generalize b - j = q; clear h1 h2; omega
theorem minTo {a b i j:Nat} (h1:i ≤ a) (h2:j ≤ b) : (min ((a:Int) - i) ((b:Int) - j) + 1 - 0).toNat = min (a - i) (b - j) + 1 := by rw [minNat h1 h2,Int.toNat_natCast]
theorem minRng {a b i j:Nat} (h1:i ≤ a) (h2:j ≤ b) (h3:a ≤ 11) : -(2 ^ 62) ≤ min ((a:Int) - i) ((b:Int) - j) + 1 ∧ min ((a:Int) - i) ((b:Int) - j) + 1 < 2 ^ 62 := by
  have := minNat h1 h2
  rw [Int.sub_zero] at this
  rw [this]
  have h4 : min (a - i) (b - j) + 1 ≤ 12 := Nat.succ_le_succ (Nat.le_trans (Nat.min_le_left _ _) (Nat.le_trans (Nat.sub_le _ _) h3))
  generalize min (a - i) (b - j) + 1 = n at h4
  clear this h1 h2 h3
  lia
theorem minLe {a b i j:Nat} (h3:a ≤ 11) : min (a - i) (b - j) + 1 ≤ sizeLine := by
  rw [sizeLine_eq]
  exact Nat.le_trans (Nat.succ_le_succ (Nat.le_trans (Nat.min_le_left _ _) (Nat.le_trans (Nat.sub_le _ _) h3))) (by decide)
namespace block_specN
abbrev TT : Prop := ∀ {A:Around} {h:Heap} {n:Nat} {a b d wd:Addr} {va vb:List Value} {X Y:List Int} {kvs:List (Int × Value)} {i1 i2 j1 j2:Nat} {ti1 ti2 tj1 tj2:Tok} {Q:Value → Heap → Prop} (Z:Stat h.get?) (R:Rm A (n + 9)) (ha:At h.get? a (LO va)) (hi:IntsAre va X) (hb:At h.get? b (LO vb)) (hj:IntsAre vb Y) (hd:At h.get? d (DO kvs)) (hw:At h.get? wd (TO [.int i1 ti1,.int i2 ti2,.int j1 tj1,.int j2 tj2])) (hX:X.length ≤ 11) (hY:Y.length ≤ 11) (ht:Tells kvs X) (h1:i1 ≤ i2) (h2:i2 ≤ X.length) (h3:j1 ≤ j2) (h4:j2 ≤ Y.length) (k:∀ c h' tx ty tz,New h c (TO [.int ((blockF X Y i1 i2 j1 j2).1 : Nat) tx,.int ((blockF X Y i1 i2 j1 j2).2.1 : Nat) ty,.int ((blockF X Y i1 i2 j1 j2).2.2 : Nat) tz]) h' → Q (.ref c) h'),WP A (call (.ref 320) [.ref a,.ref b,.ref d,.ref wd]) Q h
noncomputable def PP : {p:Heap → Nat → Addr → Addr → Addr → Addr → List Value → List Value → List Int → List Int → List (Int × Value) → Nat → Nat → Nat → Nat → (Value → Heap → Prop) → Addr → Env → Around → Heap → Prop // (∀ h n a b d wd va vb X Y kvs i1 i2 j1 j2 Q L env A' h₁,p h n a b d wd va vb X Y kvs i1 i2 j1 j2 Q L env A' h₁) → TT} := ⟨_,by
  intro f A h n a b d wd va vb X Y kvs i1 i2 j1 j2 ti1 ti2 tj1 tj2 Q Z R ha hi hb hj hd hw hX hY ht h1 h2 h3 h4 k
  apply enterC (vals := [.ref a,.ref b,.ref d,.ref wd]) (binds := [(Str.ofString "left",.ref a),(Str.ofString "right",.ref b),(Str.ofString "kept",.ref d),(Str.ofString "window",.ref wd)]) (lb := [(Str.ofString "window",.ref wd)]) (cv := [(Str.ofString "left",0,some (.ref a)),(Str.ofString "right",1,some (.ref b)),(Str.ofString "kept",2,some (.ref d)),(Str.ofString "at",3,none),(Str.ofString "to",4,none),(Str.ofString "end",5,none),(Str.ofString "last",6,none)]) (rest := [Str.ofString "i1",Str.ofString "i2",Str.ofString "j1",Str.ofString "j2",Str.ofString "size",Str.ofString "i",Str.ofString "j",Str.ofString "k",Str.ofString "ahead",Str.ofString "behind"]) (gl := [(Str.ofString "range",.type "range"),(Str.ofString "max",.builtin "max"),(Str.ofString "min",.builtin "min")]) Z R
  k_is; k_is; exact rfl; kernel_rfl; wtm_at "each"; wtm_at "each"; (intro L; wtm_at "each"); kernel_rfl; kernel_rfl; kernel_rfl; kernel_rfl; exact rfl; exact rfl; exact rfl; wtm_at "enth"
  intro L env A' h₁
  revert A ti1 ti2 tj1 tj2 Z R ha hi hb hj hd hw hX hY ht h1 h2 h3 h4 k
  exact @f h n a b d wd va vb X Y kvs i1 i2 j1 j2 Q L env A' h₁⟩
noncomputable def SS := pick1 (by have := neA; exact inferInstance) (un (un (un (un (un (un (un (un (un (un (un (un (un (un (un (un (un (un (un PP.1)))))))))))))))))))
noncomputable def h := SS.1.1.1.1.1.1.1.1.1.1.1.1.1.1.1.1.1.1.1.1
noncomputable def n := SS.1.1.1.1.1.1.1.1.1.1.1.1.1.1.1.1.1.1.1.2
noncomputable def a := SS.1.1.1.1.1.1.1.1.1.1.1.1.1.1.1.1.1.1.2
noncomputable def b := SS.1.1.1.1.1.1.1.1.1.1.1.1.1.1.1.1.1.2
noncomputable def d := SS.1.1.1.1.1.1.1.1.1.1.1.1.1.1.1.1.2
noncomputable def wd := SS.1.1.1.1.1.1.1.1.1.1.1.1.1.1.1.2
noncomputable def va := SS.1.1.1.1.1.1.1.1.1.1.1.1.1.1.2
noncomputable def vb := SS.1.1.1.1.1.1.1.1.1.1.1.1.1.2
noncomputable def X := SS.1.1.1.1.1.1.1.1.1.1.1.1.2
noncomputable def Y := SS.1.1.1.1.1.1.1.1.1.1.1.2
noncomputable def kvs := SS.1.1.1.1.1.1.1.1.1.1.2
noncomputable def i1 := SS.1.1.1.1.1.1.1.1.1.2
noncomputable def i2 := SS.1.1.1.1.1.1.1.1.2
noncomputable def j1 := SS.1.1.1.1.1.1.1.2
noncomputable def j2 := SS.1.1.1.1.1.1.2
noncomputable def Q := SS.1.1.1.1.1.2
noncomputable def L := SS.1.1.1.1.2
noncomputable def env := SS.1.1.1.2
noncomputable def A' := SS.1.1.2
noncomputable def h₁ := SS.1.2
theorem main : PP.1 h n a b d wd va vb X Y kvs i1 i2 j1 j2 Q L env A' h₁ := by
  intro A ti1 ti2 tj1 tj2 Z R ha hi hb hj hd hw hX hY ht h1 h2 h3 h4 k henv R' C K₁ S
  let MB1 (q3:Option Value) (q4:Option Value) (q5:Option Value) (q6:Option Value) : List (Addr × OP) := [(L + 1 + 0,CO (some (Value.ref a))),(L + 1 + 1,CO (some (Value.ref b))),(L + 1 + 2,CO (some (Value.ref d))),(L + 1 + 3,CO (q3)),(L + 1 + 4,CO (q4)),(L + 1 + 5,CO (q5)),(L + 1 + 6,CO (q6))]
  let mB2 (q5:Nat) (t5:Tok) (q6:Option Value) (q7:Option Value) (q8:Option Value) : List (Str × Option Value) := [(Str.ofString "window",some (Value.ref wd)),(Str.ofString "i1",some (Value.int i1 ti1)),(Str.ofString "i2",some (Value.int i2 ti2)),(Str.ofString "j1",some (Value.int j1 tj1)),(Str.ofString "j2",some (Value.int j2 tj2)),(Str.ofString "size",some (.int q5 t5)),(Str.ofString "i",q6),(Str.ofString "j",q7),(Str.ofString "k",q8),(Str.ofString "ahead",none),(Str.ofString "behind",none)]
  dsimp only [List.map] at C S
  refine S.letm ?_; clear S; intro mS MS S
  have hvX : va.length = X.length := hi.length
  have hvY : vb.length = Y.length := hj.length
  wtm_at "go"
  refine' W_AssignTup ?_ ?y1 ?y2
  case y1=>rfl
  case y2=>rfl
  wtm_at "go"
  refine' W_assign_Tuple (R'.le (by exact Nat.zero_le _)) (S.kk hw) rfl ?y3 ?_
  case y3=>rfl
  intro g1 G1
  have S1 := S.keeps G1
  wtm_at "go"
  rename_i g2 S2 _ g3 S3 _ g4 S4 _ g5 S5
  refine' W_AssignTup ?_ ?y1 ?y2
  case y1=>rfl
  case y2=>rw [henv]; kernel_rfl
  wtm_at "go"
  wtm_at "new"
  rename_i t0
  intro c6 g6 _ _ K6 S6
  refine' W_assign_Tuple (R'.le (Nat.zero_le _)) (S6.mm (by wtm_at "mem")) rfl ?y3 ?_
  case y3=>rfl
  intro g7 G7
  have S7 := S6.keeps G7
  have S7 := S7.subl (M' := _) (List.sublist_cons_self _ _)
  wtm_at "go"
  rename_i g8 S8 _ g9 S9 _ g10 S10
  wtm_at "kp"
  refine O_range2 ?_
  intro r1 g11 N11
  have S11 := S10.born N11
  refine iter_range (S11.mm (by wtm_at "mem")) (by lia -zetaDelta) (by lia -zetaDelta) ?_
  intro I g12 N12
  have S12 := (S11.born N12).subl (M' := (I,_) :: (MB1 (some (Value.int i1 ti1)) (some (Value.int j1 tj1)) none none)) (by wtm_at "subl")
  have S12 := S12.reI (n' := i2 - i1) (by lia -zetaDelta)
  let Jz1 : Inv := fun ii m N M=>E6 fun ts ta tt u1 u2 u3=>C3 (m = (mB2 ((allB X Y i1 i2 j1 j2 ii).1) ts u1 u2 u3)) (N = (fun _=>none)) (M = (MB1 (some (Value.int ((allB X Y i1 i2 j1 j2 ii).2.1 : Nat) ta)) (some (Value.int ((allB X Y i1 i2 j1 j2 ii).2.2 : Nat) tt)) none none))
  refine for_itr (itr_range R'.h I i1 (i2 - i1)) Jz1 S12 ⟨_,_,_,_,_,_,rfl,rfl,rfl⟩ (fun _=>rfl) (fun _ _ _ _ _ _ _ _=>trivial) ?_ ?_
  · rintro ii v m N M g hii ⟨tv,rfl⟩ ⟨ts,ta,tt,u1,u2,u3,rfl,rfl,rfl⟩ S
    refine S.letm ?_; clear S; intro mS MS S
    rw [show ((i1:Int) + (ii:Nat)) = ((i1 + ii : Nat) : Int) by exact rfl]
    have hi2 : i1 + ii < i2 := by lia -zetaDelta
    obtain ⟨i,hgi⟩ : ∃ i,i = i1 + ii := ⟨_,rfl⟩
    rw [← hgi]
    wtm_at "go"
    rename_i g2 S2
    unfold Turn
    wtm_at "go"
    wtm_at "kp"
    refine O_range2 ?_
    intro r2 g3 N3
    have S3 := S2.born N3
    refine iter_range (S3.mm (by wtm_at "mem")) (by lia -zetaDelta) (by lia -zetaDelta) ?_
    intro I2 g4 N4
    have S4 := (S3.born N4).subl (M' := (I2,_) :: (I,_) :: (MB1 (some (Value.int ((allB X Y i1 i2 j1 j2 ii).2.1 : Nat) ta)) (some (Value.int ((allB X Y i1 i2 j1 j2 ii).2.2 : Nat) tt)) none none)) (by wtm_at "subl")
    have S4 := S4.reI (n' := j2 - j1) (by lia -zetaDelta)
    let Jz2 : Inv := fun jj m N M=>E5 fun ts ta tt u2 u3=>C3 (m = (mB2 ((rowB X Y i2 j1 j2 (allB X Y i1 i2 j1 j2 ii) i jj).1) ts (some (Value.int (i:Nat) tv)) u2 u3)) (N = (fun _=>none)) (M = (I,RI i1 (i2 - i1) (ii + 1)) :: (MB1 (some (Value.int ((rowB X Y i2 j1 j2 (allB X Y i1 i2 j1 j2 ii) i jj).2.1 : Nat) ta)) (some (Value.int ((rowB X Y i2 j1 j2 (allB X Y i1 i2 j1 j2 ii) i jj).2.2 : Nat) tt)) none none))
    refine for_itr (itr_range R'.h I2 j1 (j2 - j1)) Jz2 S4 ⟨_,_,_,_,_,rfl,rfl,rfl⟩ (fun _=>rfl) (fun _ _ _ _ _ _ _ _=>trivial) ?_ ?_
    · rintro jj v m N M g hjj ⟨tw,rfl⟩ ⟨ts,ta,tt,u2,u3,rfl,rfl,rfl⟩ S
      rw [show ((j1:Int) + (jj:Nat)) = ((j1 + jj : Nat) : Int) by lia -zetaDelta]
      have hj2 : j1 + jj < j2 := by lia -zetaDelta
      obtain ⟨j,hgj⟩ : ∃ j,j = j1 + jj := ⟨_,rfl⟩
      rw [← hgj]
      obtain ⟨bb,hgb⟩ : ∃ bb,bb = rowB X Y i2 j1 j2 (allB X Y i1 i2 j1 j2 ii) i jj := ⟨_,rfl⟩
      rw [← hgb] at S
      refine S.letm ?_; clear S; intro mS MS S
      wtm_at "go"
      rename_i g2 S2
      unfold Turn
      wtm_at "go"
      rename_i tk0 _ g3 S3
      let Qz3 : Flow → Heap → Prop := fun f h'=>(f = .next) ∧ ∃ tk,St h.get? h.objs.size env (mB2 bb.1 ts (some (Value.int (i:Nat) tv)) (some (Value.int (j:Nat) tw)) (some (Value.int (run2 X Y i i2 j j2:Nat) tk))) (fun _=>none) ((I2,RI j1 (j2 - j1) (jj + 1)) :: (I,RI i1 (i2 - i1) (ii + 1)) :: (MB1 (some (Value.int (bb.2.1 : Nat) ta)) (some (Value.int (bb.2.2 : Nat) tt)) none none)) h'
      refine WP.mono (Q := Qz3) ?_ ?_
      · let Jz4 : Nat → Heap → Prop := fun nk h'=>E2 fun (k:Nat) (tk:Tok)=>C5 (nk = i2 - (i + k)) (i + k ≤ i2) (j + k ≤ j2) (k + run2 X Y (i + k) i2 (j + k) j2 = run2 X Y i i2 j j2) (St h.get? h.objs.size env (mB2 bb.1 ts (some (Value.int (i:Nat) tv)) (some (Value.int (j:Nat) tw)) (some (Value.int (k:Nat) tk))) (fun _=>none) ((I2,RI j1 (j2 - j1) (jj + 1)) :: (I,RI i1 (i2 - i1) (ii + 1)) :: (MB1 (some (Value.int (bb.2.1 : Nat) ta)) (some (Value.int (bb.2.2 : Nat) tt)) none none)) h')
        refine W_While Jz4 (i2 - i) ⟨0,tk0,rfl,by lia -zetaDelta,by lia -zetaDelta,by simp,S3⟩ ?_
        rintro nk g4 ⟨k,tk,rfl,hk1,hk2,hk3,S4⟩
        refine S4.letm ?_; clear S4; intro mS MS S4
        have zX : va.length ≤ sizeLine := by rw [sizeLine_eq]; exact Nat.le_of_lt (Nat.lt_of_le_of_lt (Nat.le_of_eq hvX) (Nat.lt_of_le_of_lt hX (by decide)))
        have zY : vb.length ≤ sizeLine := by rw [sizeLine_eq]; lia -zetaDelta
        have out : run2 X Y (i + k) i2 (j + k) j2 = 0 → (Flow.next = Flow.next ∧ ∃ tk,St h.get? h.objs.size env (mB2 bb.1 ts (some (Value.int (i:Nat) tv)) (some (Value.int (j:Nat) tw)) (some (Value.int (run2 X Y i i2 j j2:Nat) tk))) (fun _=>none) ((I2,RI j1 (j2 - j1) (jj + 1)) :: (I,RI i1 (i2 - i1) (ii + 1)) :: (MB1 (some (Value.int (bb.2.1 : Nat) ta)) (some (Value.int (bb.2.2 : Nat) tt)) none none)) g4) := fun e=>⟨rfl,tk,by rw [← hk3,e]; exact S4⟩
        wtm_at "go"
        by_cases c1 : i + k < i2
        · rw [if_pos (by rw [decide_eq_true_eq]; lia -zetaDelta)]
          wtm_at "go"
          by_cases c2 : j + k < j2
          · rw [if_pos (by rw [decide_eq_true_eq]; lia -zetaDelta)]
            have hstep := run2_step c1 h2 c2 h4
            obtain ⟨tx,ex⟩ := ints_get' hi (i := i + k) (n := X[i + k]) (List.getElem?_eq_getElem (by exact Nat.lt_of_lt_of_le (by assumption) (by assumption)))
            obtain ⟨ty,ey⟩ := ints_get' hj (i := j + k) (n := Y[j + k]) (List.getElem?_eq_getElem (Nat.lt_of_lt_of_le c2 h4))
            have ei : ((i:Int) + (k:Int)).toNat = i + k := by exact Int.toNat_natCast _
            have ej : ((j:Int) + (k:Int)).toNat = j + k := by exact Int.toNat_natCast _
            wtm_at "go"
            refine O_item (S4.kk ha) (by exact Int.natCast_nonneg _) (by rw [ei]; exact ex) zX ?_ (by with_unfolding_all rfl)
            wtm_at "go"
            refine O_item (S4.kk hb) (by lia -zetaDelta) (by rw [ej]; exact ey) zY ?_ (by with_unfolding_all rfl)
            wtm_at "go"
            by_cases c3 : X[i + k] = Y[j + k]
            · rw [if_pos (by simpa using c3)]
              wtm_at "go"
              refine O_item (S4.kk ha) (by lia -zetaDelta) (by rw [ei]; exact ex) zX ?_ (by with_unfolding_all rfl)
              refine O_ditem (S4.kk hd) (ht _ (List.getElem_mem _)) ?_ (by with_unfolding_all rfl)
              wtm_at "go"
              by_cases c4 : keptB X[i + k] = true
              · rw [if_pos c4]
                rw [if_pos ⟨c3,c4⟩] at hstep
                wtm_at "go"
                rw [if_pos rfl]
                unfold Turn
                wtm_at "go"
                rename_i g5 S5
                exact ⟨i2 - (i + (k + 1)),by lia -zetaDelta,k + 1,_,rfl,by assumption,by lia -zetaDelta,by rw [← hk3,hstep]; (show k + 1 + run2 X Y (i + k + 1) i2 (j + k + 1) j2 = _); lia -zetaDelta,S5⟩
              · rw [if_neg c4]
                rw [if_neg (fun hh=>c4 hh.2)] at hstep
                exact out hstep
            · rw [if_neg (by simpa using c3)]
              rw [if_neg (fun hh=>c3 hh.1)] at hstep
              exact out hstep
          · rw [if_neg (by rw [decide_eq_true_eq]; lia -zetaDelta)]
            exact out (run2_zero (.inr (by exact Nat.le_of_not_lt ‹_›)))
        · rw [if_neg (by rw [decide_eq_true_eq]; lia -zetaDelta)]
          exact out (run2_zero (.inl (Nat.le_of_not_lt c1)))
      · rintro f g4 ⟨rfl,tk,S4⟩
        refine S4.letm ?_; clear S4; intro mS MS S4
        try dsimp only
        wtm_at "go"
        by_cases cG : bb.1 < run2 X Y i i2 j j2
        · rw [if_pos (by rw [decide_eq_true_eq]; exact Int.ofNat_lt.mpr cG)]
          have eb : upB X Y i2 j2 bb i j = (run2 X Y i i2 j j2,i,j) := if_pos cG
          wtm_at "go"
          refine' W_AssignTup ?_ ?y1 ?y2
          case y1=>rfl
          case y2=>rw [henv]; kernel_rfl
          wtm_at "go"
          wtm_at "new"
          intro c5 g5 _ _ K5 S5
          refine' W_assign_Tuple (R'.le (by lia -zetaDelta)) (S5.mm (by wtm_at "mem")) rfl ?y3 ?_
          case y3=>rfl
          intro g6 G6
          have S6 := (S5.keeps G6).subl (M' := _) (List.sublist_cons_self _ _)
          wtm_at "go"
          rename_i g7 S7
          show InvAt _ _ _ _ _ _ _
          have er : rowB X Y i2 j1 j2 (allB X Y i1 i2 j1 j2 ii) i (jj + 1) = (run2 X Y i i2 j j2,i,j) := by rw [rowB_succ,← hgb,← hgj]; exact eb
          refine' ⟨_,_,_,⟨_,_,_,_,_,?q1,rfl,?q2⟩,S7⟩
          case q1=>rw [er]; try rfl
          case q2=>rw [er]; try rfl
        · rw [if_neg (by rw [decide_eq_true_eq]; lia -zetaDelta)]
          have eb : upB X Y i2 j2 bb i j = bb := if_neg cG
          wtm_at "go"
          show InvAt _ _ _ _ _ _ _
          have er : rowB X Y i2 j1 j2 (allB X Y i1 i2 j1 j2 ii) i (jj + 1) = bb := by rw [rowB_succ,← hgb,← hgj]; exact eb
          refine' ⟨_,_,_,⟨_,_,_,_,_,?q1,rfl,?q2⟩,S4⟩
          case q1=>rw [er]; try rfl
          case q2=>rw [er]; try rfl
    · rintro m N M g4 ⟨ts,ta,tt,u2,u3,rfl,rfl,rfl⟩ S
      refine S.letm ?_; clear S; intro mS MS S
      try dsimp only
      wtm_at "go"
      show InvAt _ _ _ _ _ _ _
      have er : allB X Y i1 i2 j1 j2 (ii + 1) = rowB X Y i2 j1 j2 (allB X Y i1 i2 j1 j2 ii) i (j2 - j1) := by rw [allB_succ,← hgi]
      refine' ⟨_,_,_,⟨_,_,_,_,_,_,?q1,rfl,?q2⟩,S⟩
      case q1=>rw [er]; try rfl
      case q2=>rw [er]; try rfl
  · rintro m N M g1 ⟨ts,ta,tt,u1,u2,u3,rfl,rfl,rfl⟩ S
    obtain ⟨best,hbest⟩ : ∃ best,best = allB X Y i1 i2 j1 j2 (i2 - i1) := ⟨_,rfl⟩
    rw [← hbest] at S
    refine S.letm ?_; clear S; intro mS MS S
    have hin : InW i1 i2 j1 j2 best := by rw [hbest]; exact allB_in h2 h4 h1 h3 (by lia -zetaDelta)
    obtain ⟨hn1,hn2,hn3,hn4⟩ := hin
    have zX : va.length ≤ sizeLine := by rw [sizeLine_eq]; lia -zetaDelta
    have zY : vb.length ≤ sizeLine := by rw [sizeLine_eq]; lia -zetaDelta
    try dsimp only
    wtm_at "go"
    refine' W_ListComp (n₀ := h.objs.size) (cl := [(Str.ofString "to",L + 1 + 4),(Str.ofString "right",L + 1 + 1),(Str.ofString "left",L + 1 + 0),(Str.ofString "kept",L + 1 + 2),(Str.ofString "at",L + 1 + 3)]) (cs' := [(Str.ofString "to",L + 1 + 4),(Str.ofString "right",L + 1 + 1),(Str.ofString "left",L + 1 + 0),(Str.ofString "kept",L + 1 + 2),(Str.ofString "at",L + 1 + 3)]) (gl' := [(Str.ofString "_law_beside",.ref 315)]) Z C ?y1 ?y2 ?y3 ?y4 ?y5 ?y6 ?y7 ?_
    case y1=>rw [henv]; kernel_rfl
    case y2=>wtm_at "each"
    case y3=>rw [henv]; kernel_rfl
    case y4=>kernel_rfl
    case y5=>rfl
    case y6=>kernel_rfl
    case y7=>intro _; rfl
    wtm_at "go"
    wtm_at "kp"
    refine O_min2 (R'.le (by lia -zetaDelta)) ?_
    intro p1 pt pK
    have pS1 := S.keeps pK
    wtm_at "go"
    wtm_at "kp"
    refine O_range1 ?_
    intro pr p2 pN
    have pS2 := pS1.born pN
    have B1 : best.2.1 ≤ X.length := Nat.le_trans (Nat.le_trans (Nat.le_add_right _ _) hn2) h2
    have B2 : best.2.2 ≤ Y.length := Nat.le_trans (Nat.le_trans (Nat.le_add_right _ _) hn4) h4
    refine iter_range (pS2.mm (by wtm_at "mem")) (by decide) (minRng hn1 hn3 (Nat.le_trans B1 hX)) ?_
    intro pI p3 pN3
    have pS3 := (pS2.born pN3).subl (M' := (pI,_) :: (MB1 (some (Value.int (best.2.1 : Nat) ta)) (some (Value.int (best.2.2 : Nat) tt)) none none)) (by wtm_at "subl")
    obtain ⟨pn,phn⟩ : ∃ n,n = min (best.2.1 - i1) (best.2.2 - j1) + 1 := ⟨_,rfl⟩
    have pS3 := pS3.reI (n' := pn) (by rw [phn]; exact minTo hn1 hn3)
    refine ⟨pI,pn,_,RI 0 pn,_,fun i ys _=>IntsAre ys (((List.range i).filter (aheadP X Y best.2.1 best.2.2)).map fun t : Nat=>(t:Int)),_,_,_,rfl,itr2_range R'.h pI 0 pn,?_,pS3,.nil,fun _ _ _ _ _ _ _ _ _=>trivial,?_,?_⟩
    · rw [phn]; exact minLe (Nat.le_trans B1 hX)
    · intro envc i v ys' N' e1 e2 e3 g3 Cc hi' hv hJ _ S3
      obtain ⟨ti,hv⟩ := hv
      rw [Int.zero_add] at hv
      subst hv
      show WP _ _ _ _
      wtm_at "go"
      intro s1 g4 n4
      have S4 := S3.born n4
      refine O_slice_list (by wtm_at "at") (by wtm_at "at") zX (.int _ _) (.int _ _) ?_ (by with_unfolding_all rfl)
      intro s2 g5 n5
      have S5 := (S4.born n5)
      wtm_at "go"
      intro s3 g6 n6
      have S6 := S5.born n6
      refine O_slice_list (by wtm_at "at") (by wtm_at "at") zY (.int _ _) (.int _ _) ?_ (by with_unfolding_all rfl)
      intro s4 g7 n7
      have S7 := (S6.born n7)
      wtm_at "go"
      wtm_at "kp"
      rw [phn] at hi'
      obtain ⟨k1,k2⟩ := Nat.le_min.mp (Nat.le_of_lt_succ hi')
      have E1 : lsl X (some ((best.2.1 : Nat) - (i:Nat) : Int)) (some ((best.2.1 : Nat) : Int)) = win X (best.2.1 - i) (best.2.1) := by rw [← Int.ofNat_sub (Nat.le_trans k1 (Nat.sub_le _ _))]; exact lsl_win (Nat.sub_le _ _) B1
      have E2 : lsl Y (some ((best.2.2 : Nat) - (i:Nat) : Int)) (some ((best.2.2 : Nat) : Int)) = win Y (best.2.2 - i) (best.2.2) := by rw [← Int.ofNat_sub (Nat.le_trans k2 (Nat.sub_le _ _))]; exact lsl_win (Nat.sub_le _ _) B2
      refine beside_spec (n := n) (Z.up S7.keep) (R'.le (by lia -zetaDelta)) (by wtm_at "at") (ints_lsl hi _ _) (by wtm_at "at") (ints_lsl hj _ _) (S7.kk hd) (Nat.le_trans (lsl_len _ _ _) hX) (fun x hx=>ht x (lsl_mem hx)) ?_
      intro g8 K8
      have S8 := (S7.keeps K8).subl (M' := e1 :: e2 :: e3 :: (MB1 (some (Value.int (best.2.1 : Nat) ta)) (some (Value.int (best.2.2 : Nat) tt)) none none)) (by wtm_at "subl")
      rw [E1,E2]
      have hp : besideB (win X (best.2.1 - i) (best.2.1)) (win Y (best.2.2 - i) (best.2.2)) = aheadP X Y best.2.1 best.2.2 i := rfl
      rw [hp]
      have ef := @filt_succ i (aheadP X Y best.2.1 best.2.2)
      wtm_at "go"
      split
      · rename_i hk
        rw [if_pos hk] at ef
        wtm_at "go"
        exact ⟨N',Sub.rfl,by show IntsAre _ _; rw [ef]; exact ints_append hJ (ints_one _ _),S8⟩
      · rename_i hk
        rw [if_neg hk,List.append_nil] at ef
        exact ⟨N',Sub.rfl,by show IntsAre _ _; rw [ef]; exact hJ,S8⟩
    · intro D ys' N' g3 hD hN hJ S3
      have hJ : IntsAre ys' (((List.range pn).filter (aheadP X Y best.2.1 best.2.2)).map fun t : Nat=>(t:Int)) := hJ
      wtm_at "go"
      wtm_at "kp"
      refine O_max (R'.le (by lia -zetaDelta)) (S3.mm (by wtm_at "mem")) hJ ?_ ?_
      · rw [List.length_map]; exact List.length_pos_of_mem (List.mem_filter.mpr ⟨List.mem_range.mpr (show 0 < pn by exact Nat.lt_of_le_of_lt (Nat.zero_le _) (Nat.lt_of_succ_le (Nat.le_of_eq phn.symm))),aheadP_zero⟩)
      intro g4 kk tkk K4 hkm hkx
      obtain ⟨ah,hah,rfl⟩ : ∃ ah : Nat,ah = topT pn (aheadP X Y best.2.1 best.2.2) ∧ kk = ah := ⟨_,rfl,top_of hkm hkx⟩
      have S4 := (S3.keeps K4)
      wtm_at "go"
      have hahl : ah < pn := by rw [hah]; exact topT_lt (by rw [phn]; exact Nat.succ_pos _)
      rename_i g5 S5
      refine' W_AssignTup ?_ ?y1 ?y2
      case y1=>rfl
      case y2=>rw [henv]; kernel_rfl
      wtm_at "go"
      wtm_at "new"
      rename_i te tl
      intro c5 g6 _ _ K6 S6
      refine' W_assign_Tuple (R'.le (by lia -zetaDelta)) (S6.mm (by wtm_at "mem")) rfl ?y3 ?_
      case y3=>rfl
      intro g7 K7
      have S7 := (S6.keeps K7).subl (M' := _) (List.sublist_cons_self _ _)
      wtm_at "go"
      rename_i g8 S8' _ g9 S9'
      have S9 := S9'.drop
      obtain ⟨e,he⟩ : ∃ e : Nat,e = best.2.1 + best.1 := ⟨_,rfl⟩
      obtain ⟨l,hl⟩ : ∃ l : Nat,l = best.2.2 + best.1 := ⟨_,rfl⟩
      have S9 := S9.eqM (show MB1 (some (Value.int (best.2.1 : Nat) ta)) (some (Value.int (best.2.2 : Nat) tt)) (some (Value.int ((best.2.1 : Int) + best.1) te)) (some (Value.int ((best.2.2 : Int) + best.1) tl)) = MB1 (some (Value.int (best.2.1 : Nat) ta)) (some (Value.int (best.2.2 : Nat) tt)) (some (Value.int (e:Nat) te)) (some (Value.int (l:Nat) tl)) by rw [he,hl]; rfl)
      refine' W_ListComp (n₀ := h.objs.size) (cl := [(Str.ofString "right",L + 1 + 1),(Str.ofString "left",L + 1 + 0),(Str.ofString "last",L + 1 + 6),(Str.ofString "kept",L + 1 + 2),(Str.ofString "end",L + 1 + 5)]) (cs' := [(Str.ofString "right",L + 1 + 1),(Str.ofString "left",L + 1 + 0),(Str.ofString "last",L + 1 + 6),(Str.ofString "kept",L + 1 + 2),(Str.ofString "end",L + 1 + 5)]) (gl' := [(Str.ofString "_law_beside",.ref 315)]) Z C ?y1 ?y2 ?y3 ?y4 ?y5 ?y6 ?y7 ?_
      case y1=>rw [henv]; kernel_rfl
      case y2=>wtm_at "each"
      case y3=>rw [henv]; kernel_rfl
      case y4=>kernel_rfl
      case y5=>rfl
      case y6=>kernel_rfl
      case y7=>intro _; rfl
      wtm_at "go"
      wtm_at "kp"
      refine O_min2 (R'.le (by lia -zetaDelta)) ?_
      intro q1 qt qK
      have qS1 := S9.keeps qK
      wtm_at "go"
      wtm_at "kp"
      refine O_range1 ?_
      intro qr q2 qN
      have qS2 := qS1.born qN
      have C1 : e ≤ i2 := he ▸ hn2
      have C2 : l ≤ j2 := hl ▸ hn4
      refine iter_range (qS2.mm (by wtm_at "mem")) (by decide) (minRng C1 C2 (Nat.le_trans h2 hX)) ?_
      intro qI q3 qN3
      have qS3 := (qS2.born qN3).subl (M' := (qI,_) :: (MB1 (some (Value.int (best.2.1 : Nat) ta)) (some (Value.int (best.2.2 : Nat) tt)) (some (Value.int (e:Nat) te)) (some (Value.int (l:Nat) tl)))) (by wtm_at "subl")
      obtain ⟨qn,qhn⟩ : ∃ n,n = min (i2 - e) (j2 - l) + 1 := ⟨_,rfl⟩
      have qS3 := qS3.reI (n' := qn) (by rw [qhn]; exact minTo C1 C2)
      refine ⟨qI,qn,_,RI 0 qn,_,fun i ys _=>IntsAre ys (((List.range i).filter (behindP X Y e l)).map fun t : Nat=>(t:Int)),_,_,_,rfl,itr2_range R'.h qI 0 qn,?_,qS3,.nil,fun _ _ _ _ _ _ _ _ _=>trivial,?_,?_⟩
      · rw [qhn]; exact minLe (Nat.le_trans h2 hX)
      · intro envc i v ys' N' e1 e2 e3 g3 Cc hi' hv hJ _ S3
        obtain ⟨ti,hv⟩ := hv
        rw [Int.zero_add] at hv
        subst hv
        show WP _ _ _ _
        wtm_at "go"
        intro s1 g4 n4
        have S4 := S3.born n4
        refine O_slice_list (by wtm_at "at") (by wtm_at "at") zX (.int _ _) (.int _ _) ?_ (by with_unfolding_all rfl)
        intro s2 g5 n5
        have S5 := (S4.born n5)
        wtm_at "go"
        intro s3 g6 n6
        have S6 := S5.born n6
        refine O_slice_list (by wtm_at "at") (by wtm_at "at") zY (.int _ _) (.int _ _) ?_ (by with_unfolding_all rfl)
        intro s4 g7 n7
        have S7 := (S6.born n7)
        wtm_at "go"
        wtm_at "kp"
        rw [qhn] at hi'
        obtain ⟨k1,k2⟩ := Nat.le_min.mp (Nat.le_of_lt_succ hi')
        have E1 : lsl X (some ((e:Nat) : Int)) (some ((e:Nat) + (i:Nat) : Int)) = win X (e) (e + i) := lsl_win (i2 := e + i) (Nat.le_add_right _ _) (Nat.le_trans (Nat.add_le_of_le_sub' C1 k1) h2)
        have E2 : lsl Y (some ((l:Nat) : Int)) (some ((l:Nat) + (i:Nat) : Int)) = win Y (l) (l + i) := lsl_win (i2 := l + i) (Nat.le_add_right _ _) (Nat.le_trans (Nat.add_le_of_le_sub' C2 k2) h4)
        refine beside_spec (n := n) (Z.up S7.keep) (R'.le (by lia -zetaDelta)) (by wtm_at "at") (ints_lsl hi _ _) (by wtm_at "at") (ints_lsl hj _ _) (S7.kk hd) (Nat.le_trans (lsl_len _ _ _) hX) (fun x hx=>ht x (lsl_mem hx)) ?_
        intro g8 K8
        have S8 := (S7.keeps K8).subl (M' := e1 :: e2 :: e3 :: (MB1 (some (Value.int (best.2.1 : Nat) ta)) (some (Value.int (best.2.2 : Nat) tt)) (some (Value.int (e:Nat) te)) (some (Value.int (l:Nat) tl)))) (by wtm_at "subl")
        rw [E1,E2]
        have hp : besideB (win X (e) (e + i)) (win Y (l) (l + i)) = behindP X Y e l i := rfl
        rw [hp]
        have ef := @filt_succ i (behindP X Y e l)
        wtm_at "go"
        split
        · rename_i hk
          rw [if_pos hk] at ef
          wtm_at "go"
          exact ⟨N',Sub.rfl,by show IntsAre _ _; rw [ef]; exact ints_append hJ (ints_one _ _),S8⟩
        · rename_i hk
          rw [if_neg hk,List.append_nil] at ef
          exact ⟨N',Sub.rfl,by show IntsAre _ _; rw [ef]; exact hJ,S8⟩
      · intro D ys' N' g3 hD hN hJ S3
        have hJ : IntsAre ys' (((List.range qn).filter (behindP X Y e l)).map fun t : Nat=>(t:Int)) := hJ
        wtm_at "go"
        wtm_at "kp"
        refine O_max (R'.le (by lia -zetaDelta)) (S3.mm (by wtm_at "mem")) hJ ?_ ?_
        · rw [List.length_map]; exact List.length_pos_of_mem (List.mem_filter.mpr ⟨List.mem_range.mpr (show 0 < qn by exact Nat.lt_of_le_of_lt (Nat.zero_le _) (Nat.lt_of_succ_le (Nat.le_of_eq qhn.symm))),behindP_zero⟩)
        intro g4 kk tkk K4 hkm hkx
        obtain ⟨be,hbe,rfl⟩ : ∃ be : Nat,be = topT qn (behindP X Y e l) ∧ kk = be := ⟨_,rfl,top_of hkm hkx⟩
        have S4 := (S3.keeps K4)
        have hbel : be < qn := by rw [hbe]; exact topT_lt (by rw [qhn]; exact Nat.succ_pos _)
        wtm_at "go"
        rename_i g5 S5
        wtm_at "new"
        intro c g6 hc _ K6 S6
        wtm_at "f"
        have hB : blockF X Y i1 i2 j1 j2 = (best.2.1 - ah,best.2.2 - ah,ah + best.1 + be) := by
          unfold blockF
          rw [← hbest]
          try dsimp only
          rw [← he,← hl,← phn,← qhn,← hah,← hbe]
        have := k c g6
        rw [hB] at this
        dsimp only at this
        rw [phn] at hahl
        obtain ⟨k1,k2⟩ := Nat.le_min.mp (Nat.le_of_lt_succ hahl)
        have e1 : ((best.2.1 : Int) - (ah:Int)) = ((best.2.1 - ah : Nat) : Int) := (Int.ofNat_sub (Nat.le_trans k1 (Nat.sub_le _ _))).symm
        have e2 : ((best.2.2 : Int) - (ah:Int)) = ((best.2.2 - ah : Nat) : Int) := (Int.ofNat_sub (Nat.le_trans k2 (Nat.sub_le _ _))).symm
        have e3 : ((ah:Int) + (best.1 : Int) + (be:Int)) = ((ah + best.1 + be : Nat) : Int) := by exact rfl
        have B := S6.bornNew hc
        rw [e1,e2,e3] at B
        exact this _ _ _ B
end block_specN
theorem block_spec : block_specN.TT := block_specN.PP.2 fun h n a b d wd va vb X Y kvs i1 i2 j1 j2 Q L env A' h₁=>block_specN.SS.2 block_specN.main (((((((((((((((((((h,n),a),b),d),wd),va),vb),X),Y),kvs),i1),i2),j1),j2),Q),L),env),A'),h₁)
end
section
inductive Prs (n:Nat) (G:Pt) : List Value → List (Nat × Nat) → Prop
  | nil : Prs n G [] []
  | cons {t:Addr} {x y:Nat} {tx ty:Tok} {vs:List Value} {ps:List (Nat × Nat)} : n ≤ t → At G t (TO [.int x tx,.int y ty]) → Prs n G vs ps → Prs n G (.ref t :: vs) ((x,y) :: ps)
theorem Prs.up {n k:Nat} {G G':Pt} {vs:List Value} {ps:List (Nat × Nat)} (p:Prs n G vs ps) (s:Sub G G') (hk:k ≤ n) : Prs k G' vs ps := by
  induction p with
  | nil=>exact .nil
  | cons ha hx _ ih=>exact .cons (Nat.le_trans hk ha) (hx.up s) ih
theorem Prs.above {n k:Nat} {N:Pt} {h:Heap} {vs:List Value} {ps:List (Nat × Nat)} (p:Prs n h.get? vs ps) (hk:k ≤ n) : Prs k (above n N h) vs ps := by
  induction p with
  | nil=>exact .nil
  | cons ha hx _ ih=>exact .cons (Nat.le_trans hk ha) (above_at ha hx) ih
theorem Prs.append {n:Nat} {G:Pt} {vs us:List Value} {ps qs:List (Nat × Nat)} (p:Prs n G vs ps) (q:Prs n G us qs) : Prs n G (vs ++ us) (ps ++ qs) := by
  induction p with
  | nil=>exact q
  | cons ha hx _ ih=>exact .cons ha hx ih
theorem Prs.length {n:Nat} {G:Pt} {vs:List Value} {ps:List (Nat × Nat)} (p:Prs n G vs ps) : vs.length = ps.length := by
  induction p with
  | nil=>rfl
  | cons _ _ _ ih=>simp [ih]
theorem blockF_in {X Y:List Int} {i1 i2 j1 j2:Nat} (h1:i1 ≤ i2) (h2:i2 ≤ X.length) (h3:j1 ≤ j2) (h4:j2 ≤ Y.length) :
    i1 ≤ (blockF X Y i1 i2 j1 j2).1 ∧ (blockF X Y i1 i2 j1 j2).1 + (blockF X Y i1 i2 j1 j2).2.2 ≤ i2 ∧ j1 ≤ (blockF X Y i1 i2 j1 j2).2.1 ∧ (blockF X Y i1 i2 j1 j2).2.1 + (blockF X Y i1 i2 j1 j2).2.2 ≤ j2 := by
  have hin := allB_in (X := X) (Y := Y) (n := i2 - i1) h2 h4 h1 h3 (by lia -zetaDelta)
  unfold InW at hin
  unfold blockF
  try dsimp only
  generalize allB X Y i1 i2 j1 j2 (i2 - i1) = b at *
  have a1 := topT_lt (n := min (b.2.1 - i1) (b.2.2 - j1) + 1) (p := aheadP X Y b.2.1 b.2.2) (Nat.succ_pos _)
  have a2 := topT_lt (n := min (i2 - (b.2.1 + b.1)) (j2 - (b.2.2 + b.1)) + 1) (p := behindP X Y (b.2.1 + b.1) (b.2.2 + b.1)) (Nat.succ_pos _)
  obtain ⟨m1,m2⟩ := Nat.le_min.mp (Nat.le_of_lt_succ a1)
  obtain ⟨m3,m4⟩ := Nat.le_min.mp (Nat.le_of_lt_succ a2)
  obtain ⟨_,_,r1,r2⟩ := spanIn hin.1 hin.2.1 m1 m3
  obtain ⟨_,_,r3,r4⟩ := spanIn hin.2.2.1 hin.2.2.2 m2 m4
  exact ⟨r1,r2,r3,r4⟩
noncomputable def diag (i j n:Nat) : List (Nat × Nat) := (List.range n).map fun t=>(i + t,j + t)
theorem diag_succ {i j n:Nat} : diag i j (n + 1) = diag i j n ++ [(i + n,j + n)] := by unfold diag; rw [List.range_succ,List.map_append]; rfl
noncomputable def pairsF : Nat → List Int → List Int → Nat → Nat → Nat → Nat → List (Nat × Nat)
  | 0,_,_,_,_,_,_=>[]
  | m + 1,X,Y,i1,i2,j1,j2 =>
    if i1 = i2 ∨ j1 = j2 then [] else
      if (blockF X Y i1 i2 j1 j2).2.2 = 0 then [] else
        pairsF m X Y i1 (blockF X Y i1 i2 j1 j2).1 j1 (blockF X Y i1 i2 j1 j2).2.1 ++ diag (blockF X Y i1 i2 j1 j2).1 (blockF X Y i1 i2 j1 j2).2.1 (blockF X Y i1 i2 j1 j2).2.2 ++
          pairsF m X Y ((blockF X Y i1 i2 j1 j2).1 + (blockF X Y i1 i2 j1 j2).2.2) i2 ((blockF X Y i1 i2 j1 j2).2.1 + (blockF X Y i1 i2 j1 j2).2.2) j2
theorem sumLe {x y k p i1 i2:Nat} (a:x ≤ p - i1) (b:y ≤ i2 - (p + k)) (c:i1 ≤ p) (d:p + k ≤ i2) : x + k + y ≤ i2 - i1 := by
  have a := Nat.add_le_of_le_sub c a
  have b := Nat.add_le_of_le_sub d b
  exact Nat.le_sub_of_add_le (by clear c d; omega)
theorem pairsF_len {m:Nat} {X Y:List Int} {i1 i2 j1 j2:Nat} (h1:i1 ≤ i2) (h2:i2 ≤ X.length) (h3:j1 ≤ j2) (h4:j2 ≤ Y.length) : (pairsF m X Y i1 i2 j1 j2).length ≤ i2 - i1 := by
  induction m generalizing i1 i2 j1 j2 with
  | zero=>simp [pairsF]
  | succ m ih =>
    rw [pairsF]
    split
    · simp
    · split
      · simp
      · have hb := blockF_in (X := X) (Y := Y) h1 h2 h3 h4
        obtain ⟨b1,b2,b3,b4⟩ := hb
        have e1 := ih b1 (Nat.le_trans (Nat.le_trans (Nat.le_add_right _ _) b2) h2) b3 (Nat.le_trans (Nat.le_trans (Nat.le_add_right _ _) b4) h4)
        have e2 := ih b2 h2 b4 h4
        simp only [List.length_append,diag,List.length_map,List.length_range]
        exact sumLe e1 e2 b1 b2
theorem pairs_spec (m:Nat) : ∀ {A:Around} {h:Heap} {a b d wd:Addr} {va vb:List Value} {X Y:List Int} {kvs:List (Int × Value)} {i1 i2 j1 j2:Nat} {ti1 ti2 tj1 tj2:Tok} {Q:Value → Heap → Prop}
    (Z:Stat h.get?) (R:Rm A (m + 10)) (ha:At h.get? a (LO va)) (hi:IntsAre va X) (hb:At h.get? b (LO vb)) (hj:IntsAre vb Y) (hd:At h.get? d (DO kvs)) (hw:At h.get? wd (TO [.int i1 ti1,.int i2 ti2,.int j1 tj1,.int j2 tj2]))
    (hX:X.length ≤ 11) (hY:Y.length ≤ 11) (ht:Tells kvs X) (h1:i1 ≤ i2) (h2:i2 ≤ X.length) (h3:j1 ≤ j2) (h4:j2 ≤ Y.length) (hm:i2 - i1 < m)
    (k:∀ c h' vs,New h c (LO vs) h' → Prs h.objs.size h'.get? vs (pairsF m X Y i1 i2 j1 j2) → Q (.ref c) h'),WP A (call (.ref 325) [.ref a,.ref b,.ref d,.ref wd]) Q h := by
  induction m with
  | zero =>
    intro A h a b d wd va vb X Y kvs i1 i2 j1 j2 ti1 ti2 tj1 tj2 Q Z R ha hi hb hj hd hw hX hY ht h1 h2 h3 h4 hm k
    lia -zetaDelta
  | succ m ih =>
    intro A h a b d wd va vb X Y kvs i1 i2 j1 j2 ti1 ti2 tj1 tj2 Q Z R ha hi hb hj hd hw hX hY ht h1 h2 h3 h4 hm k
    apply enterC (vals := [.ref a,.ref b,.ref d,.ref wd]) (binds := [(Str.ofString "left",.ref a),(Str.ofString "right",.ref b),(Str.ofString "kept",.ref d),(Str.ofString "window",.ref wd)]) (lb := [(Str.ofString "left",.ref a),(Str.ofString "right",.ref b),(Str.ofString "kept",.ref d),(Str.ofString "window",.ref wd)]) (cv := [(Str.ofString "i",0,none),(Str.ofString "j",1,none)]) (rest := [Str.ofString "i1",Str.ofString "i2",Str.ofString "j1",Str.ofString "j2",Str.ofString "size",Str.ofString "ahead",Str.ofString "behind"]) (gl := [(Str.ofString "_law_block",.ref 320),(Str.ofString "_law_pairs",.ref 325),(Str.ofString "range",.type "range")]) Z R
    k_is; k_is; exact rfl; kernel_rfl; wtm_at "each"; wtm_at "each"; (intro L; wtm_at "each"); kernel_rfl; kernel_rfl; kernel_rfl; kernel_rfl; exact rfl; exact rfl; exact rfl; wtm_at "enth"
    intro L env A' h₁ henv R' C K₁ S
    dsimp only [List.map] at C S
    refine S.letm ?_; clear S; intro mS MS S
    wtm_at "go"
    refine' W_AssignTup ?_ ?y1 ?y2
    case y1=>rfl
    case y2=>rfl
    wtm_at "go"
    refine' W_assign_Tuple (R'.le (by exact Nat.zero_le _)) (S.kk hw) rfl ?y3 ?_
    case y3=>rfl
    intro g1 G1
    have S1 := S.keeps G1
    wtm_at "go"
    rename_i g2 S2 _ g3 S3 _ g4 S4 _ g5 S5
    by_cases c1 : i1 = i2
    · rw [if_pos (by rw [beq_iff_eq]; lia -zetaDelta)]
      wtm_at "go"
      rw [if_pos rfl]
      wtm_at "go"
      wtm_at "new"
      intro c g6 hc _ K6 S6
      wtm_at "f"
      refine k c g6 [] (S6.bornNew hc) ?_
      rw [pairsF,if_pos (.inl c1)]
      exact .nil
    · rw [if_neg (by rw [beq_iff_eq]; lia -zetaDelta)]
      wtm_at "go"
      by_cases c2 : j1 = j2
      · rw [if_pos (by rw [beq_iff_eq]; lia -zetaDelta)]
        wtm_at "go"
        rw [if_pos rfl]
        wtm_at "go"
        wtm_at "new"
        intro c g6 hc _ K6 S6
        wtm_at "f"
        refine k c g6 [] (S6.bornNew hc) ?_
        rw [pairsF,if_pos (.inr c2)]
        exact .nil
      · rw [if_neg (by rw [beq_iff_eq]; lia -zetaDelta)]
        wtm_at "go"
        rw [if_neg (by simp)]
        wtm_at "go"
        have hbi := blockF_in (X := X) (Y := Y) h1 h2 h3 h4
        refine' W_AssignTup ?_ ?y1 ?y2
        case y1=>rfl
        case y2=>rfl
        wtm_at "go"
        wtm_at "kp"
        refine block_spec (n := m) (Z.up S5.keep) (R'.le (by lia -zetaDelta)) (S5.kk ha) hi (S5.kk hb) hj (S5.kk hd) (S5.kk hw) hX hY ht h1 h2 h3 h4 ?_
        intro c6 g6 tx ty tz N6
        have S6 := S5.born N6
        refine' W_assign_Tuple (R'.le (Nat.zero_le _)) (S6.mm (by wtm_at "mem")) rfl ?y3 ?_
        case y3=>rfl
        intro g7 G7
        have S7 := (S6.keeps G7).drop
        obtain ⟨out,hpF⟩ : ∃ o,o = pairsF (m + 1) X Y i1 i2 j1 j2 := ⟨_,rfl⟩
        rw [← hpF] at k
        rw [pairsF,if_neg (by simp only [not_or]; exact ⟨c1,c2⟩)] at hpF
        obtain ⟨bk,hb3⟩ : ∃ bk,bk = blockF X Y i1 i2 j1 j2 := ⟨_,rfl⟩
        rw [← hb3] at hbi hpF
        rw [← hb3]
        wtm_at "go"
        rename_i g8 S8 _ g9 S9 _ g10 S10 tz0
        by_cases c3 : bk.2.2 = 0
        · rw [if_pos (by rw [beq_iff_eq]; lia -zetaDelta)]
          rw [if_pos c3] at hpF
          wtm_at "go"
          wtm_at "new"
          intro c g6 hc _ K6 S6
          wtm_at "f"
          refine k c g6 [] (S6.bornNew hc) ?_
          rw [hpF]
          exact .nil
        · rw [if_neg (by rw [beq_iff_eq]; lia -zetaDelta)]
          rw [if_neg c3] at hpF
          wtm_at "go"
          wtm_at "new"
          intro c1 g1 hc _ K1 S1
          wtm_at "go"
          wtm_at "kp"
          refine ih (Z.up S1.keep) R' (S1.kk ha) hi (S1.kk hb) hj (S1.kk hd) (S1.mm (by wtm_at "mem")) hX hY ht hbi.1 (Nat.le_trans (Nat.le_trans (Nat.le_add_right _ _) hbi.2.1) h2) hbi.2.2.1 (Nat.le_trans (Nat.le_trans (Nat.le_add_right _ _) hbi.2.2.2) h4) (Nat.lt_of_lt_of_le (Nat.sub_lt_sub_right hbi.1 (Nat.lt_of_lt_of_le (Nat.lt_add_of_pos_right (Nat.pos_of_ne_zero c3)) hbi.2.1)) (Nat.le_of_lt_succ hm)) ?_
          intro cA gA vA NA PA
          have SA := (S1.grow NA.keep).drop
          have hcA := above_at (N := fun _=>none) NA.ge NA.at_
          have PA := PA.above (N := fun _=>none) (Nat.le_of_lt S1.le)
          have sN0 := S1.grow_sub (h' := gA)
          generalize above g1.objs.size (fun _=>none) gA = NA' at *
          wtm_at "go"
          rename_i g2 S2 tu tv
          wtm_at "new"
          intro c2 g3 hc2 _ K3 S3
          rw [show ((bk.1 : Int) + bk.2.2) = ((bk.1 + bk.2.2 : Nat) : Int) by exact rfl,show ((bk.2.1 : Int) + bk.2.2) = ((bk.2.1 + bk.2.2 : Nat) : Int) by exact rfl] at S3
          wtm_at "go"
          wtm_at "kp"
          refine ih (Z.up S3.keep) R' (S3.kk ha) hi (S3.kk hb) hj (S3.kk hd) (S3.mm (by wtm_at "mem")) hX hY ht hbi.2.1 h2 hbi.2.2.2 h4 (Nat.lt_of_lt_of_le (Nat.sub_lt_sub_left (Nat.lt_of_le_of_lt hbi.1 (Nat.lt_of_lt_of_le (Nat.lt_add_of_pos_right (Nat.pos_of_ne_zero c3)) hbi.2.1)) (Nat.lt_of_le_of_lt hbi.1 (Nat.lt_add_of_pos_right (Nat.pos_of_ne_zero c3)))) (Nat.le_of_lt_succ hm)) ?_
          intro cB gB vB NB PB
          have SB := (S3.grow NB.keep).drop
          have sNB := S3.grow_sub (h' := gB)
          have hcB := above_at (N := NA') NB.ge NB.at_
          have PB := PB.above (N := NA') (Nat.le_of_lt S3.le)
          have PA := PA.up sNB (Nat.le_refl _)
          have hcA := hcA.up sNB
          generalize above g3.objs.size NA' gB = NB' at *
          wtm_at "go"
          rename_i g4 S4
          refine' W_ListComp (n₀ := h.objs.size) (cl := [(Str.ofString "j",L + 1 + 1),(Str.ofString "i",L + 1 + 0)]) (cs' := [(Str.ofString "j",L + 1 + 1),(Str.ofString "i",L + 1 + 0)]) (gl' := []) Z C ?y1 ?y2 ?y3 ?y4 ?y5 ?y6 ?y7 ?_
          case y1=>rw [henv]; kernel_rfl
          case y2=>wtm_at "each"
          case y3=>rw [henv]; kernel_rfl
          case y4=>kernel_rfl
          case y5=>rfl
          case y6=>kernel_rfl
          case y7=>intro _; rfl
          wtm_at "go"
          wtm_at "kp"
          refine O_range1 ?_
          intro r g5 n5
          have S5' := S4.born n5
          refine iter_range (S5'.mm (by wtm_at "mem")) (by decide) (by lia -zetaDelta) ?_
          intro I g6 n6
          have S6' := (S5'.born n6).subl (M' := (I,_) :: [(L + 1 + 0,CO (some (Value.int (bk.1 : Nat) tx))),(L + 1 + 1,CO (some (Value.int (bk.2.1 : Nat) ty)))]) (by wtm_at "subl")
          have S6' := S6'.reI (n' := bk.2.2) (by exact Int.toNat_natCast _)
          refine ⟨I,bk.2.2,_,RI 0 bk.2.2,_,fun i ys N=>Prs h.objs.size N ys (diag bk.1 bk.2.1 i),_,_,_,rfl,itr2_range R'.h I 0 bk.2.2,?_,S6',.nil,fun _ _ _ _ _ _ _ _ _=>trivial,?_,?_⟩
          · rw [sizeLine_eq]; exact Nat.le_of_lt (Nat.lt_of_le_of_lt (Nat.le_add_left _ _) (Nat.lt_of_le_of_lt hbi.2.1 (Nat.lt_of_le_of_lt h2 (Nat.lt_of_le_of_lt hX (by decide)))))
          · intro envc i v ys' N' e1 e2 e3 g7 Cc hi' hv hJ _ S7'
            obtain ⟨ti,hv⟩ := hv
            rw [Int.zero_add] at hv
            subst hv
            show WP _ _ _ _
            wtm_at "go"
            wtm_at "new"
            rename_i tA tB
            intro ct g8 hct _ K8 S8
            obtain ⟨N'',sN,hN,S9⟩ := S8.seal hct
            refine ⟨N'',sN,?_,S9⟩
            show Prs _ _ _ _
            rw [diag_succ]
            exact (hJ.up sN (Nat.le_refl _)).append (.cons hct hN .nil)
          · intro D ys' N' g7 hD hN hJ S7'
            have hJ : Prs h.objs.size N' ys' (diag bk.1 bk.2.1 bk.2.2) := hJ
            wtm_at "go"
            have lA : vA.length ≤ 11 := by
              rw [PA.length]
              exact Nat.le_trans (pairsF_len hbi.1 (Nat.le_trans (Nat.le_trans (Nat.le_add_right _ _) hbi.2.1) h2) hbi.2.2.1 (Nat.le_trans (Nat.le_trans (Nat.le_add_right _ _) hbi.2.2.2) h4)) (Nat.le_trans (Nat.sub_le _ _) (Nat.le_trans (Nat.le_add_right _ _) (Nat.le_trans hbi.2.1 (Nat.le_trans h2 hX))))
            have lB : vB.length ≤ 11 := by
              rw [PB.length]
              exact Nat.le_trans (pairsF_len hbi.2.1 h2 hbi.2.2.2 h4) (Nat.le_trans (Nat.sub_le _ _) (Nat.le_trans h2 hX))
            have lD : ys'.length = bk.2.2 := by rw [hJ.length]; simp [diag]
            refine O_concat (S7'.nn (hcA.up hN)) (S7'.mm (by wtm_at "mem")) (by rw [sizeLine_eq]; lia -zetaDelta) ?_
            intro e g8 n8
            have S8 := S7'.born n8
            wtm_at "go"
            refine O_concat (S8.mm (by wtm_at "mem")) (S8.nn (hcB.up hN)) (by rw [sizeLine_eq,List.length_append]; lia -zetaDelta) ?_
            intro f g9 n9
            have S9 := S8.born n9
            wtm_at "f"
            refine k f g9 _ (S9.bornNew (S8.born_ge n9)) ?_
            rw [hpF]
            exact (((PA.up hN (Nat.le_refl _)).append hJ).append (PB.up hN (Nat.le_refl _))).up S9.per (Nat.le_refl _)
end
section
local macro_rules | `(tactic| wtm_at "br") => `(tactic| first | rw [if_pos (by rw [decide_eq_true_eq]; lia -zetaDelta)] | rw [if_neg (by rw [decide_eq_true_eq]; lia -zetaDelta)] | rw [if_pos rfl] | rw [if_neg Bool.false_ne_true])
local macro_rules | `(tactic| wtm_at "gb") => `(tactic| (wtm_at "go"; repeat (wtm_at "br"; wtm_at "go")))
section
variable {A:Around} {K N:Pt} {n₀:Nat} {env:Env} {m m':List (Str × Option Value)} {M M':List (Addr × OP)} {h h':Heap} {cs:List (Str × Addr)} {gl:List (Str × Value)}
theorem O_litem_neg {value slice:PySem.Expr} {l:Addr} {vs:List Value} {k:Int} {u:Tok} {x:Value} {Q:Value → Heap → Prop} (hl:At h.get? l (LO vs)) (h0:k < 0) (h1:-(vs.length : Int) ≤ k) (hx:vs[(k + vs.length).toNat]? = some x) (hsz:vs.length ≤ sizeLine) (q:Q x h)
    (hs:subscripted slice false (.ref l) (.int k u) = operate [.ref l,.int k u] (getItem (.ref l) (.int k u))) : WP A (subscriptTail value slice (.ref l) (.int k u)) Q h := by
  refine O_subTail (T := "list") (fun s e=>?_) list_getitem_lookup (WP_lib fun s e=>?_) hs
  · subst e; exact (LO.isList hl).typeIs
  · subst e
    rw [sizeLine_eq] at hsz
    exact wpAny_getItem_list_neg (LO.isList hl) h0 (by simpa using h1) (by lia -zetaDelta) (by simpa using hx) ⟨_,_,rfl,q⟩
theorem O_titem {value slice:PySem.Expr} {l:Addr} {vs:List Value} {k:Nat} {u:Tok} {x:Value} {Q:Value → Heap → Prop} (hl:At h.get? l (TO vs)) (hx:vs[k]? = some x) (hk:k < 1000) (q:Q x h)
    (hs:subscripted slice false (.ref l) (.int (k:Nat) u) = operate [.ref l,.int (k:Nat) u] (getItem (.ref l) (.int (k:Nat) u))) : WP A (subscriptTail value slice (.ref l) (.int (k:Nat) u)) Q h := by
  refine O_subTail (T := "tuple") (fun s e=>?_) slot_tuple_getitem.lookup (WP_lib fun s e=>?_) hs
  · subst e; exact (TO.isTup hl).typeIs
  · subst e
    refine PyProof.Rows.getItem_tuple (TO.isTup hl) (j := k) (by lia -zetaDelta) (by lia -zetaDelta) ?_ (by simpa using hx) ⟨_,_,rfl,q⟩
    have := (List.getElem?_eq_some_iff.mp hx).1
    have h0 : ¬ ((k:Int) < 0) := by lia -zetaDelta
    simp [seqIndex?,h0,this]
theorem own_list {elts:List PySem.Expr} {x1} {pos:Pos} {I l T:Addr} {i:Nat} {Q:Unit → Heap → Prop} (hi:At h.get? I (LI l i)) (q:Q () h) : WP A (letOwnedTupleGo (.Tuple elts x1 pos) (.ref I) (.ref T)) Q h :=
  WP_lib fun s e=>by subst e; exact wpAny_letOwnedTupleGo_listiter hi ⟨_,_,rfl,q⟩
theorem W_AssignSub {o i:PySem.Expr} {pos':Pos} {value:PySem.Expr} {pos:Pos} {Q:Flow → Heap → Prop} (x:WP A (eval value env) (fun v h1=>WP A (eval o env) (fun ov h2=>WP A (eval i env) (fun iv h3=>WP A (setItem ov iv v) (fun _ h4=>Q .next h4) h3) h2) h1) h)
    (hs:swapsWith value (some (.Subscript o i pos')) pos.line env = pure false) : WP A (exec (.Assign [.Subscript o i pos'] value pos) env) Q h :=
  fun s tk=>wpAny_Assign_Subscript (x.go fun v h1 t1 z=>z.go fun ov h2 t2 u=>u.go fun iv h3 t3 p=>p.go fun _ h4 t4 q=>⟨h4,t4,rfl,q⟩) hs
theorem O_setitem_neg {l:Addr} {vs:List Value} {k:Int} {u:Tok} {v:Value} {Q:Unit → Heap → Prop} (S:St K n₀ env m N M h) (hm:(l,LO vs) ∈ M) (h0:k < 0) (h1:-(vs.length : Int) ≤ k) (hsz:vs.length ≤ sizeLine)
    (up:Upd l (LO (vs.set (k + vs.length).toNat v)) M M') (q:∀ h',St K n₀ env m N M' h' → Q () h') : WP A (setItem (.ref l) (.int k u) v) Q h :=
  WP_lib fun s e=>by
    subst e
    have hl := LO.isList (S.mm hm)
    obtain ⟨o,ho,hP⟩ := S.mm hm
    obtain ⟨ne,hd⟩ : ∃ ne,o.data = .seq vs.toArray ne := by obtain ⟨n,rfl⟩ := hP; exact ⟨n,rfl⟩
    rw [sizeLine_eq] at hsz
    have hfin : ∀ i : Nat,At (s.heap.update l (Obj.mapSeq (·.setIfInBounds i v))).get? l (LO (vs.set i v)) := fun i=>by
      obtain ⟨n',hd'⟩ := Obj.data_mapSeq hd (·.setIfInBounds i v)
      refine ⟨_,Heap.get?_update_self _ ho (Obj.isFreed_of_seq hd'),?_⟩
      obtain ⟨n,rfl⟩ := hP
      refine ⟨n,?_⟩
      simp [Obj.mapSeq]
    unfold setItem
    refine wpAny_holding ?_
    first | refine wpAny_bind (wpAny_pure ?_) | skip
    refine wpAny_bind (wpAny_sequenceKey hl.typeIs (by decide) ?_)
    refine wpAny_bind (wpAny_callSpecial?_slot (name := Str.ofString "__setitem__") hl.typeIs slot_list_setitem (wpAny_call_entry slot_list_setitem hl.typeIs entry_list_setitem ?_ (args_list_setitem _ _ _)))
    show wpAny _ _ (Builtin.List.listSubscript? (.int k u) >>= _) _ _ s
    refine wpAny_bind (wpAny_listSubscript_int (fitsIndex_neg h0 (by lia -zetaDelta)) ?_)
    have hidx := seqIndex_neg (n := vs.length) h0 h1
    obtain ⟨y,hy⟩ : ∃ y,vs[(k + vs.length).toNat]? = some y := ⟨_,List.getElem?_eq_getElem (by lia -zetaDelta)⟩
    obtain ⟨j,hj⟩ : ∃ j : Nat,j = (k + vs.length).toNat := ⟨_,rfl⟩
    rw [← hj] at hidx hy up
    clear hj
    obtain ⟨e,rfl⟩ : ∃ e : Nat,k = Int.negSucc e := by
      cases k with
      | ofNat n=>exact absurd h0 (Int.not_lt.mpr (Int.natCast_nonneg n))
      | negSucc n=>exact ⟨n,rfl⟩
    show wpAny _ _ ((Builtin.List.listItems (.ref l) >>= fun xs=>pure ((seqIndex? (Int.negSucc e) xs.size).bind fun i=>xs[i]?.map (i,·))) >>= _) _ _ s
    refine wpAny_bind (wpAny_bind ?_)
    show wpAny _ _ (seqItems? (.ref l) >>= _) _ _ s
    refine wpAny_bind (wpAny_seqItems ho hd (wpAny_pure (wpAny_pure ?_)))
    rw [List.size_toArray,hidx]
    simp only [Option.bind_some,List.getElem?_toArray,hy,Option.map_some]
    show wpAny _ _ (setSeqItemAt l j v >>= _) _ _ s
    have fin : Q () (s.heap.update l (Obj.mapSeq (·.setIfInBounds j v))) := q _ (S.upd up (Heap.SameBut.update ..).extBut (hfin j))
    refine wpAny_bind (wpAny_setSeqItemAt ho hd ?_)
    first
      | exact wpAny_bind (wpAny_pure (wpAny_pure ⟨.none,rfl,wpAny_pure ⟨_,_,rfl,fin⟩⟩))
      | exact wpAny_pure ⟨.none,rfl,wpAny_pure ⟨_,_,rfl,fin⟩⟩
end
abbrev Op := Str × Nat × Nat × Nat × Nat
noncomputable def OpT (o:Op) : OP := fun b=>∃ t0 t1 t2 t3 t4,TO [.str o.1 t0,.int (o.2.1 : Nat) t1,.int (o.2.2.1 : Nat) t2,.int (o.2.2.2.1 : Nat) t3,.int (o.2.2.2.2 : Nat) t4] b
inductive Ops (n:Nat) (G:Pt) : List Value → List Op → Prop
  | nil : Ops n G [] []
  | cons {t:Addr} {o:Op} {vs:List Value} {ps:List Op} : n ≤ t → At G t (OpT o) → Ops n G vs ps → Ops n G (.ref t :: vs) (o :: ps)
theorem Ops.up {n k:Nat} {G G':Pt} {vs:List Value} {ps:List Op} (p:Ops n G vs ps) (s:Sub G G') (hk:k ≤ n) : Ops k G' vs ps := by
  induction p with
  | nil=>exact .nil
  | cons ha hx _ ih=>exact .cons (Nat.le_trans hk ha) (hx.up s) ih
theorem Ops.above {n k:Nat} {N:Pt} {h:Heap} {vs:List Value} {ps:List Op} (p:Ops n h.get? vs ps) (hk:k ≤ n) : Ops k (above n N h) vs ps := by
  induction p with
  | nil=>exact .nil
  | cons ha hx _ ih=>exact .cons (Nat.le_trans hk ha) (above_at ha hx) ih
theorem Ops.append {n:Nat} {G:Pt} {vs us:List Value} {ps qs:List Op} (p:Ops n G vs ps) (q:Ops n G us qs) : Ops n G (vs ++ us) (ps ++ qs) := by
  induction p with
  | nil=>exact q
  | cons ha hx _ ih=>exact .cons ha hx ih
theorem Ops.length {n:Nat} {G:Pt} {vs:List Value} {ps:List Op} (p:Ops n G vs ps) : vs.length = ps.length := by
  induction p with
  | nil=>rfl
  | cons _ _ _ ih=>simp [ih]
theorem Ops.last {n:Nat} {G:Pt} {vs:List Value} {os:List Op} {o:Op} (p:Ops n G vs (os ++ [o])) : ∃ us t,vs = us ++ [.ref t] ∧ Ops n G us os ∧ n ≤ t ∧ At G t (OpT o) := by
  induction os generalizing vs with
  | nil=>cases p with | cons ha hx q=>cases q; exact ⟨[],_,rfl,.nil,ha,hx⟩
  | cons a os ih =>
    cases p with
    | cons ha hx q =>
      obtain ⟨us,t,rfl,h1,h2,h3⟩ := ih q
      exact ⟨_ :: us,t,rfl,.cons ha hx h1,h2,h3⟩
theorem Prs.get {n:Nat} {G:Pt} {vs:List Value} {ps:List (Nat × Nat)} (p:Prs n G vs ps) {i:Nat} {v:Value} (h:vs[i]? = some v) : ∃ t x y tx ty,v = .ref t ∧ ps[i]? = some (x,y) ∧ At G t (TO [.int (x:Nat) tx,.int (y:Nat) ty]) := by
  induction p generalizing i with
  | nil=>simp at h
  | cons ha hx _ ih =>
    cases i with
    | zero=>simp at h; exact ⟨_,_,_,_,_,h.symm,rfl,hx⟩
    | succ i=>exact ih (by simpa using h)
noncomputable def tagOf (i j x y:Nat) : Str := if i < x ∧ j < y then Str.ofString "replace" else if i < x then Str.ofString "delete" else Str.ofString "insert"
noncomputable def gapF (ops:List Op) (i j x y:Nat) : List Op := if i < x ∨ j < y then ops ++ [(tagOf i j x y,i,x,j,y)] else ops
noncomputable def eqF (ops:List Op) (x y:Nat) : List Op :=
  match ops.getLast? with
  | some o=>if o.1 = Str.ofString "equal" then ops.dropLast ++ [(Str.ofString "equal",o.2.1,x + 1,o.2.2.2.1,y + 1)] else ops ++ [(Str.ofString "equal",x,x + 1,y,y + 1)]
  | none=>ops ++ [(Str.ofString "equal",x,x + 1,y,y + 1)]
noncomputable def toldStep (many:Nat) (s:List Op × Nat × Nat) (p:Nat × Nat) : List Op × Nat × Nat :=
  (if p.1 < many then eqF (gapF s.1 s.2.1 s.2.2 p.1 p.2) p.1 p.2 else gapF s.1 s.2.1 s.2.2 p.1 p.2,p.1 + 1,p.2 + 1)
noncomputable def toldF (ps:List (Nat × Nat)) (many others:Nat) : List Op := ((ps ++ [(many,others)]).foldl (toldStep many) ([],0,0)).1
theorem gapF_len {ops:List Op} {i j x y:Nat} : (gapF ops i j x y).length ≤ ops.length + 1 := by unfold gapF; split <;> simp
theorem eqF_len {ops:List Op} {x y:Nat} : (eqF ops x y).length ≤ ops.length + 1 := by
  unfold eqF
  split
  · split <;> simp
  · simp
theorem toldStep_len {many:Nat} {s:List Op × Nat × Nat} {p:Nat × Nat} : (toldStep many s p).1.length ≤ s.1.length + 2 := by
  unfold toldStep
  try dsimp only
  have := @gapF_len s.1 s.2.1 s.2.2 p.1 p.2
  have := @eqF_len (gapF s.1 s.2.1 s.2.2 p.1 p.2) p.1 p.2
  split <;> lia -zetaDelta
theorem toldFold_len {many:Nat} {ps:List (Nat × Nat)} {s:List Op × Nat × Nat} : (ps.foldl (toldStep many) s).1.length ≤ s.1.length + 2 * ps.length := by
  induction ps generalizing s with
  | nil=>simp
  | cons p ps ih=>rw [List.foldl_cons]; have := @ih (toldStep many s p); have := @toldStep_len many s p; simp; lia -zetaDelta
namespace told_specN
abbrev TT : Prop := ∀ {A:Around} {h:Heap} {n:Nat} {l:Addr} {vs:List Value} {ps:List (Nat × Nat)} {many others:Nat} {tm to:Tok} {Q:Value → Heap → Prop} (Z:Stat h.get?) (R:Rm A (n + 5)) (hl:At h.get? l (LO vs)) (hp:Prs 0 h.get? vs ps) (hlen:ps.length ≤ 11) (k:∀ c h' us,New h c (LO us) h' → Ops h.objs.size h'.get? us (toldF ps many others) → Q (.ref c) h'),WP A (call (.ref 332) [.ref l,.int (many:Nat) tm,.int (others:Nat) to]) Q h
noncomputable def PP : {p:Heap → Nat → (Value → Heap → Prop) → Addr → Env → Around → Heap → Prop // (∀ h n Q L env A' h₁,p h n Q L env A' h₁) → TT} := ⟨_,by
  intro f A h n l vs ps many others tm to Q Z R hl hp hlen k
  apply enter2 (args := ⟨[.ref l,.int (many:Nat) tm,.int (others:Nat) to],[]⟩) (binds := [(Str.ofString "pairs",.ref l),(Str.ofString "many",.int many tm),(Str.ofString "others",.int others to)]) (rest := [Str.ofString "told",Str.ofString "i",Str.ofString "j",Str.ofString "x",Str.ofString "y",Str.ofString "tag"]) (gl := []) Z R
  wtm_at "ent"
  intro L env A' h₁
  revert A l vs ps many others tm to Z R hl hp hlen k
  exact @f h n Q L env A' h₁⟩
noncomputable def SS := pick1 (by have := neA; exact inferInstance) (un (un (un (un (un (un PP.1))))))
noncomputable def h := SS.1.1.1.1.1.1.1
noncomputable def n := SS.1.1.1.1.1.1.2
noncomputable def Q := SS.1.1.1.1.1.2
noncomputable def L := SS.1.1.1.1.2
noncomputable def env := SS.1.1.1.2
noncomputable def A' := SS.1.1.2
noncomputable def h₁ := SS.1.2
theorem main : PP.1 h n Q L env A' h₁ := by
  intro A l vs ps many others tm to Z R hl hp hlen k henv R' C K₁ S
  refine S.letm ?_; clear S; intro mS MS S
  wtm_at "go"
  refine' W_AssignSwap (names := [Str.ofString "told",Str.ofString "i",Str.ofString "j"]) ?_ ?y1 ?y2
  case y1=>rfl
  case y2=>rw [henv]; kernel_rfl
  wtm_at "go"
  wtm_at "new"
  intro c h2 hc _ K2 S2
  wtm_at "go"
  wtm_at "new"
  rename_i ti0 tj0
  intro cT h3 _ _ K3 S3
  refine U_tuple (R'.le (Nat.zero_le _)) (by wtm_at "at") rfl ?_
  intro h4 K4
  have S4 := (S3.keeps K4).drop
  wtm_at "rev"
  wtm_at "go"
  rename_i g1 S5 _ g2 S6 _ g3 S7
  wtm_at "new"
  intro cp g4 hcp _ K8 S8
  obtain ⟨N0,sN0,hN0,S9⟩ := S8.seal hcp
  wtm_at "go"
  wtm_at "new"
  intro cl g5 _ _ K10 S10
  have hvl : vs.length = ps.length := hp.length
  refine O_concat (S10.kk hl) (S10.mm (by wtm_at "mem")) (by rw [sizeLine_eq]; simp; exact Nat.le_of_lt (Nat.lt_of_le_of_lt (Nat.le_of_eq hvl) (Nat.lt_of_le_of_lt hlen (by decide)))) ?_
  intro cc g6 N11
  have S11 := S10.born N11
  refine iter_list S11 (S11.mm (by wtm_at "mem")) ?_
  intro I g7 K12 S12
  have S13 := S12.subl (M' := (I,_) :: (cc,_) :: (c,_) :: []) (by wtm_at "subl")
  have hz : (vs ++ [Value.ref cp]).length = ps.length + 1 := by simp [hvl]
  let mB1 (q4:Nat) (t4:Tok) (q5:Nat) (t5:Tok) (q6:Option Value) (q7:Option Value) (q8:Option Value) : List (Str × Option Value) := [(Str.ofString "pairs",some (Value.ref l)),(Str.ofString "many",some (Value.int (many:Nat) tm)),(Str.ofString "others",some (Value.int (others:Nat) to)),(Str.ofString "told",some (Value.ref c)),(Str.ofString "i",some (.int q4 t4)),(Str.ofString "j",some (.int q5 t5)),(Str.ofString "x",q6),(Str.ofString "y",q7),(Str.ofString "tag",q8)]
  let MB2 (us:List Value) : List (Addr × OP) := [(cc,LO (vs ++ [.ref cp])),(c,LO us)]
  let MB3 (q0:OP) (q2:OP) : List (Addr × OP) := [(I,q0),(cc,LO (vs ++ [.ref cp])),(c,q2)]
  let Jz1 : Inv := fun i m N M=>E6 fun us ci cj ti tj u1=>E2 fun u2 u3=>C5 (m = (mB1 ci ti cj tj u1 u2 u3)) (Sub N0 N) (Ops h.objs.size N us (((ps ++ [(many,others)]).take i).foldl (toldStep many) ([],0,0)).1) (ci = (((ps ++ [(many,others)]).take i).foldl (toldStep many) ([],0,0)).2.1) ((cj = (((ps ++ [(many,others)]).take i).foldl (toldStep many) ([],0,0)).2.2) ∧ (M = MB2 us))
  refine for_itrT (itr_list R'.h I cc (vs ++ [.ref cp])) Jz1 S13 ⟨_,_,_,_,_,_,_,_,rfl,Sub.rfl,.nil,rfl,rfl,rfl⟩ (fun i v h Q hv hi q=>?_) (fun i m N M h P hJ S=>by obtain ⟨us,ci,cj,ti,tj,u1,u2,u3,rfl,_,_,_,_,rfl⟩ := hJ; exact S.mm (by wtm_at "mem")) ?_ ?_
  · rcases List.mem_append.mp (List.mem_of_getElem? hv) with h | h
    · obtain ⟨i,hi'⟩ := List.getElem?_of_mem h
      obtain ⟨t,x,y,tx,ty,rfl,_⟩ := hp.get hi'
      exact own_list hi q
    · rw [List.mem_singleton] at h
      subst h
      exact own_list hi q
  · rintro i v m N M g hilt hv ⟨us,ci,cj,ti,tj,u1,u2,u3,rfl,sN,hO,hci,hcj,rfl⟩ S
    refine S.letm ?_; clear S; intro mS MS S
    have P : Prs 0 g.get? (vs ++ [.ref cp]) (ps ++ [(many,others)]) := (hp.up S.keep (Nat.le_refl _)).append (.cons (Nat.zero_le _) ((hN0.up sN).up S.per) .nil)
    obtain ⟨t,x,y,tx,ty,rfl,hxy,hT⟩ := P.get hv
    obtain ⟨st,hst⟩ : ∃ st,st = ((ps ++ [(many,others)]).take i).foldl (toldStep many) ([],0,0) := ⟨_,rfl⟩
    have hst2 : ((ps ++ [(many,others)]).take (i + 1)).foldl (toldStep many) ([],0,0) = toldStep many st (x,y) := by rw [List.take_add_one,hxy,Option.toList_some,List.foldl_append,← hst]; rfl
    have hl1 : us.length ≤ 24 := by
      rw [hO.length]
      refine Nat.le_trans toldFold_len ?_
      simp
      lia -zetaDelta
    rw [← hst] at hO hci hcj
    refine' W_assign_Tuple (R'.le (by lia -zetaDelta)) hT rfl ?y3 ?_
    case y3=>rfl
    intro g1 G1
    have S1 := S.keeps G1
    wtm_at "go"
    rename_i g2 S2 _ g3 S3
    unfold Turn
    let Qz2 : Flow → Heap → Prop := fun f h'=>(f = .next) ∧ E3 fun N' us' u3=>C3 (Sub N N') (Ops h.objs.size N' us' (gapF st.1 ci cj x y)) (St h.get? h.objs.size env (mB1 ci ti cj tj (some (Value.int (x:Nat) tx)) (some (Value.int (y:Nat) ty)) u3) N' (MB3 (LI cc (i + 1)) (LO us')) h')
    refine W_cons (WP.mono (Q := Qz2) ?_ ?_)
    · by_cases a1 : ci < x
      · by_cases a2 : cj < y
        · skip
          wtm_at "gb"
          rename_i tg _ g4 S4
          have ht : tagOf ci cj x y = Str.ofString "replace" := by unfold tagOf; simp [a1,a2]
          have hg : gapF st.1 ci cj x y = st.1 ++ [(Str.ofString "replace",ci,x,cj,y)] := by unfold gapF; rw [if_pos (by lia -zetaDelta),ht]
          refine M_list (S4.mm (by wtm_at "mem")) F.slot_list_append F.type_list_append ?_
          wtm_at "go"
          wtm_at "new"
          intro ct g5 hct _ K5 S5
          obtain ⟨N',sN',hN',S6⟩ := S5.seal hct
          wtm_at "go"
          wtm_at "kp"
          refine O_append S6 (by wtm_at "mem") (by rw [sizeLine_eq]; exact Nat.le_of_lt (Nat.lt_of_le_of_lt hl1 (by decide))) (by wtm_at "upd") ?_
          intro g7 S7
          wtm_at "nr"
          wtm_at "go"
          refine ⟨rfl,N',_,_,sN',?_,S7⟩
          rw [hg]
          exact (hO.up sN' (Nat.le_refl _)).append (.cons hct (let ⟨o,ho,hP⟩ := hN'; ⟨o,ho,_,_,_,_,_,hP⟩) .nil)
        · skip
          wtm_at "gb"
          rename_i tg _ g4 S4
          have ht : tagOf ci cj x y = Str.ofString "delete" := by unfold tagOf; simp [a1,a2]
          have hg : gapF st.1 ci cj x y = st.1 ++ [(Str.ofString "delete",ci,x,cj,y)] := by unfold gapF; rw [if_pos (by lia -zetaDelta),ht]
          refine M_list (S4.mm (by wtm_at "mem")) F.slot_list_append F.type_list_append ?_
          wtm_at "go"
          wtm_at "new"
          intro ct g5 hct _ K5 S5
          obtain ⟨N',sN',hN',S6⟩ := S5.seal hct
          wtm_at "go"
          wtm_at "kp"
          refine O_append S6 (by wtm_at "mem") (by rw [sizeLine_eq]; lia -zetaDelta) (by wtm_at "upd") ?_
          intro g7 S7
          wtm_at "nr"
          wtm_at "go"
          refine ⟨rfl,N',_,_,sN',?_,S7⟩
          rw [hg]
          exact (hO.up sN' (Nat.le_refl _)).append (.cons hct (let ⟨o,ho,hP⟩ := hN'; ⟨o,ho,_,_,_,_,_,hP⟩) .nil)
      · by_cases a2 : cj < y
        · skip
          wtm_at "gb"
          rename_i tg _ g4 S4
          have ht : tagOf ci cj x y = Str.ofString "insert" := by unfold tagOf; simp [a1,a2]
          have hg : gapF st.1 ci cj x y = st.1 ++ [(Str.ofString "insert",ci,x,cj,y)] := by unfold gapF; rw [if_pos (by lia -zetaDelta),ht]
          refine M_list (S4.mm (by wtm_at "mem")) F.slot_list_append F.type_list_append ?_
          wtm_at "go"
          wtm_at "new"
          intro ct g5 hct _ K5 S5
          obtain ⟨N',sN',hN',S6⟩ := S5.seal hct
          wtm_at "go"
          wtm_at "kp"
          refine O_append S6 (by wtm_at "mem") (by rw [sizeLine_eq]; lia -zetaDelta) (by wtm_at "upd") ?_
          intro g7 S7
          wtm_at "nr"
          wtm_at "go"
          refine ⟨rfl,N',_,_,sN',?_,S7⟩
          rw [hg]
          exact (hO.up sN' (Nat.le_refl _)).append (.cons hct (let ⟨o,ho,hP⟩ := hN'; ⟨o,ho,_,_,_,_,_,hP⟩) .nil)
        · wtm_at "gb"
          have hg : gapF st.1 ci cj x y = st.1 := by unfold gapF; rw [if_neg (by lia -zetaDelta)]
          refine ⟨rfl,N,_,_,Sub.rfl,?_,S3⟩
          rw [hg]
          exact hO
    · rintro f g4 ⟨rfl,N',us',u4,sN',hO',S4⟩
      refine S4.letm ?_; clear S4; intro mS MS S4
      try dsimp only
      have hstep : toldStep many st (x,y) = (if x < many then eqF (gapF st.1 ci cj x y) x y else gapF st.1 ci cj x y,x + 1,y + 1) := by rw [hci,hcj]; rfl
      have hl2 : us'.length ≤ 25 := by rw [hO'.length]; have := @gapF_len st.1 ci cj x y; rw [← hO.length] at this; lia -zetaDelta
      obtain ⟨ops,hops⟩ : ∃ ops,ops = gapF st.1 ci cj x y := ⟨_,rfl⟩
      rw [← hops] at hO' hstep
      obtain ⟨tsp,htsp⟩ : ∃ z,z = toldStep many st (x,y) := ⟨_,rfl⟩
      rw [hstep] at htsp
      let Qz3 : Flow → Heap → Prop := fun f h'=>(f = .next) ∧ E2 fun N' us'=>C3 (Sub N N') (Ops h.objs.size N' us' tsp.1) (St h.get? h.objs.size env (mB1 ci ti cj tj (some (Value.int (x:Nat) tx)) (some (Value.int (y:Nat) ty)) u4) N' (MB3 (LI cc (i + 1)) (LO us')) h')
      refine W_cons (WP.mono (Q := Qz3) ?_ ?_)
      · by_cases b1 : x < many
        · rw [if_pos b1] at htsp
          wtm_at "gb"
          refine O_truthy_list (S4.mm (by wtm_at "mem")) (by rw [sizeLine_eq]; exact Nat.le_of_lt (Nat.lt_of_le_of_lt hl2 (by decide))) ?_
          rcases List.eq_nil_or_concat ops with rfl | ⟨os,o,rfl⟩
          · have : us' = [] := by have := hO'.length; simpa using this
            subst this
            rw [show (!([] : List Value).isEmpty) = false from rfl]
            wtm_at "gb"
            refine M_list (S4.mm (by wtm_at "mem")) F.slot_list_append F.type_list_append ?_
            wtm_at "go"
            wtm_at "new"
            rename_i tq1 tq2 tq3
            intro ct g5 hct _ K5 S5
            obtain ⟨N2,sN2,hN2,S6⟩ := S5.seal hct
            wtm_at "go"
            wtm_at "kp"
            refine O_append S6 (by wtm_at "mem") (by rw [sizeLine_eq]; simp) (by wtm_at "upd") ?_
            intro g7 S7
            wtm_at "nr"
            wtm_at "go"
            refine ⟨rfl,N2,_,sN'.trans sN2,?_,S7⟩
            rw [htsp]
            show Ops _ _ _ ([] ++ [_])
            exact (hO'.up sN2 (Nat.le_refl _)).append (.cons hct (let ⟨o,ho,hP⟩ := hN2; ⟨o,ho,_,_,_,_,_,hP⟩) .nil)
          · rw [List.concat_eq_append] at *
            obtain ⟨us2,t2,rfl,p1,p2,p3⟩ := hO'.last
            have hne : (!(us2 ++ [Value.ref t2]).isEmpty) = true := by simp
            rw [hne]
            obtain ⟨ob,hob,tk0,tk1,tk2,tk3,tk4,hT2⟩ := p3
            have p3 : At N' t2 (TO [.str o.1 tk0,.int (o.2.1 : Nat) tk1,.int (o.2.2.1 : Nat) tk2,.int (o.2.2.2.1 : Nat) tk3,.int (o.2.2.2.2 : Nat) tk4]) := ⟨ob,hob,hT2⟩
            have hz2 : (us2 ++ [Value.ref t2]).length ≤ sizeLine := by rw [sizeLine_eq]; exact Nat.le_of_lt (Nat.lt_of_le_of_lt hl2 (by decide))
            have hix : (us2 ++ [Value.ref t2])[(-1 + ((us2 ++ [Value.ref t2]).length : Int)).toNat]? = some (.ref t2) := by
              rw [show (-1 + ((us2 ++ [Value.ref t2]).length : Int)).toNat = us2.length by simp; lia -zetaDelta]; simp
            wtm_at "gb"
            refine O_litem_neg (S4.mm (by wtm_at "mem")) (by lia -zetaDelta) (by simp; lia -zetaDelta) hix hz2 ?_ (by with_unfolding_all rfl)
            wtm_at "gb"
            refine O_titem (k := 0) (S4.nn p3) rfl (by decide) ?_ (by with_unfolding_all rfl)
            wtm_at "gb"
            by_cases e1 : o.1 = Str.ofString "equal"
            · rw [if_pos (by rw [e1]; exact beq_self_eq_true _)]
              have heq : eqF (os ++ [o]) x y = os ++ [(Str.ofString "equal",o.2.1,x + 1,o.2.2.2.1,y + 1)] := by
                unfold eqF; simp only [List.getLast?_append,List.getLast?_singleton,Option.some_or]; rw [if_pos e1]; simp
              wtm_at "gb"
              refine W_AssignSub ?_ (by rfl)
              wtm_at "gb"
              refine O_litem_neg (S4.mm (by wtm_at "mem")) (by lia -zetaDelta) (by simp; lia -zetaDelta) hix hz2 ?_ (by with_unfolding_all rfl)
              wtm_at "gb"
              refine O_titem (k := 1) (S4.nn p3) rfl (by decide) ?_ (by with_unfolding_all rfl)
              wtm_at "gb"
              refine O_litem_neg (S4.mm (by wtm_at "mem")) (by lia -zetaDelta) (by simp; lia -zetaDelta) hix hz2 ?_ (by with_unfolding_all rfl)
              wtm_at "gb"
              refine O_titem (k := 3) (S4.nn p3) rfl (by decide) ?_ (by with_unfolding_all rfl)
              wtm_at "gb"
              wtm_at "new"
              intro ct g5 hct _ K5 S5
              obtain ⟨N2,sN2,hN2,S6⟩ := S5.seal hct
              wtm_at "gb"
              refine O_setitem_neg S6 (by wtm_at "mem") (by lia -zetaDelta) (by simp; lia -zetaDelta) hz2 (by wtm_at "upd") ?_
              intro g6 S7
              have hset : (us2 ++ [Value.ref t2]).set (-1 + ((us2 ++ [Value.ref t2]).length : Int)).toNat (.ref ct) = us2 ++ [.ref ct] := by
                rw [show (-1 + ((us2 ++ [Value.ref t2]).length : Int)).toNat = us2.length by simp; lia -zetaDelta]; simp
              have S7 := S7.eqM (show MB3 (LI cc (i + 1)) (LO _) = MB3 (LI cc (i + 1)) (LO (us2 ++ [.ref ct])) by rw [hset])
              wtm_at "gb"
              refine ⟨rfl,N2,_,sN'.trans sN2,?_,S7⟩
              rw [htsp,heq]
              exact (p1.up sN2 (Nat.le_refl _)).append (.cons hct (let ⟨o,ho,hP⟩ := hN2; ⟨o,ho,_,_,_,_,_,hP⟩) .nil)
            · rw [if_neg (by simpa using e1)]
              have heq : eqF (os ++ [o]) x y = (os ++ [o]) ++ [(Str.ofString "equal",x,x + 1,y,y + 1)] := by
                unfold eqF; simp only [List.getLast?_append,List.getLast?_singleton,Option.some_or]; rw [if_neg e1]
              wtm_at "gb"
              refine M_list (S4.mm (by wtm_at "mem")) F.slot_list_append F.type_list_append ?_
              wtm_at "go"
              wtm_at "new"
              rename_i tq1 tq2 tq3
              intro ct g5 hct _ K5 S5
              obtain ⟨N2,sN2,hN2,S6⟩ := S5.seal hct
              wtm_at "go"
              wtm_at "kp"
              refine O_append S6 (by wtm_at "mem") (by rw [sizeLine_eq]; simp at hl2 ⊢; exact Nat.le_of_lt (Nat.lt_of_le_of_lt hl2 (by decide))) (by wtm_at "upd") ?_
              intro g7 S7
              wtm_at "nr"
              wtm_at "go"
              refine ⟨rfl,N2,_,sN'.trans sN2,?_,S7⟩
              rw [htsp,heq]
              exact (hO'.up sN2 (Nat.le_refl _)).append (.cons hct (let ⟨o,ho,hP⟩ := hN2; ⟨o,ho,_,_,_,_,_,hP⟩) .nil)
        · rw [if_neg b1] at htsp
          wtm_at "gb"
          exact ⟨rfl,N',us',sN',by rw [htsp]; exact hO',S4⟩
      · rintro f g5 ⟨rfl,N5,us5,sN5,hO5,S5⟩
        rw [htsp,← hstep] at hO5
        refine S5.letm ?_; clear S5; intro mS MS S5
        try dsimp only
        wtm_at "go"
        refine' W_AssignSwap (names := [Str.ofString "i",Str.ofString "j"]) ?_ ?y1 ?y2
        case y1=>rfl
        case y2=>rw [henv]; kernel_rfl
        wtm_at "go"
        wtm_at "new"
        rename_i tk1 tk2
        intro cT g6 _ _ K6 S6
        refine U_tuple (R'.le (by lia -zetaDelta)) (by wtm_at "at") rfl ?_
        intro g7 K7
        have S7 := (S6.keeps K7).drop
        wtm_at "rev"
        wtm_at "go"
        rename_i g8 S8 _ g9 S9
        refine ⟨_,_,_,⟨_,x + 1,y + 1,_,_,_,_,_,rfl,sN.trans sN5,?_,?_,?_,rfl⟩,S9⟩
        · rw [hst2]; exact hO5
        · rw [hst2,hstep]
        · rw [hst2,hstep]
  · rintro m N M g ⟨us,ci,cj,ti,tj,u1,u2,u3,rfl,sN,hO,hci,hcj,rfl⟩ S
    refine S.letm ?_; clear S; intro mS MS S
    try dsimp only
    wtm_at "go"
    wtm_at "f"
    rw [List.take_of_length_le (by rw [hz]; simp)] at hO
    have S1 := S.subl (M' := (c,LO us) :: []) (by wtm_at "subl")
    exact k c g us (S1.bornNew hc) (hO.up S.per (Nat.le_refl _))
end told_specN
theorem told_spec : told_specN.TT := told_specN.PP.2 fun h n Q L env A' h₁=>told_specN.SS.2 told_specN.main ((((((h,n),Q),L),env),A'),h₁)
end
section
open Builtin in
section
theorem forIn_pure {β:Type} {f:Nat → β → Sem (ForInStep β)} {g:Nat → β} : ∀ (n k:Nat),(∀ i,k ≤ i → i < k + n → f i (g i) = pure (.yield (g (i + 1)))) → forIn (List.range' k n) (g k) f = (pure (g (k + n)) : Sem β) := by
  intro n
  induction n with
  | zero=>intro k _; rfl
  | succ n ih =>
    intro k h
    rw [List.range'_succ,List.forIn_cons,h k (Nat.le_refl _) (by lia)]
    have := ih (k + 1) fun i h1 h2=>h i (Nat.le_of_lt (Nat.lt_of_succ_le h1)) (by lia)
    rw [show k + 1 + n = k + (n + 1) by lia] at this
    exact this
theorem forIn_pure' {β γ:Type} {f:Nat → β → Sem (ForInStep β)} {g:Nat → β} {n:Nat} {b0:β} {K:β → Sem γ} {r:γ} (hb:b0 = g 0) (h:∀ i,i < n → f i (g i) = pure (.yield (g (i + 1)))) (hK:K (g n) = pure r) : (forIn (List.range' 0 n) b0 f >>= K) = pure r := by
  subst hb
  have := forIn_pure (f := f) (g := g) n 0 (fun i _ hi=>h i (by lia))
  rw [this]
  show K _ = _
  rw [Nat.zero_add]
  exact hK
theorem lat (id:String) (b:Array UInt8) (hz:b.size ≤ sizeLine) : _codecs.runDecoder id _codecs.latin1Decoder none true b 0 [] = pure (b.map (·.toNat),b.size) := by
  unfold Builtin._codecs.runDecoder
  simp only [Std.Legacy.Range.forIn_eq_forIn_range']
  have hs : [:b.size].size = b.size := by simp [Std.Legacy.Range.size]
  rw [hs]
  refine forIn_pure' (g := fun i=>(i,((b.toList.take i).map (·.toNat)).toArray,{ })) rfl (fun i hi=>?_) ?_
  · try dsimp only
    rw [if_neg (by simp; exact Nat.le_trans (Nat.min_le_right _ _) hz),if_neg (by lia)]
    show pure _ = pure _
    congr 4
    have e : (b.getD i 0) = b.toList[i]'(by simpa using hi) := by simp [hi]
    rw [e,List.take_add_one,List.getElem?_eq_getElem (by simpa using hi)]
    simp
  · try dsimp only
    rw [List.take_of_length_le (by simp)]
    have e : (b.toList.map (·.toNat)).toArray = b.map (·.toNat) := by apply Array.ext'; simp
    rw [e]
theorem lat_road {id:String} {b:Array UInt8} : _codecs.decodeRoad id b (Str.ofString "latin1") none [] = (_codecs.runDecoder id _codecs.latin1Decoder none true b 0 [] >>= fun r=>mkStr ⟨r.1⟩) := by kernel_rfl
theorem lat_text {b:Array UInt8} {t t1 t2:Tok} {d:Str} (hz:b.size ≤ sizeLine) :
    Meets («_codecs.decode.text» ⟨[.bytes b t,.str (Str.ofString "latin1") t1,.none,.str d t2],[]⟩) (fun _ R s=>R (.ok (.ret (.str ⟨b.map (·.toNat)⟩ s.toks))) { s with toks := s.toks + 1 }) := by
  refine .of_wp fun prog w A R s h=>?_
  show wpAny _ _ (Bytes.bytesLike _ (.bytes b t) >>= fun r=>_) _ _ s
  refine wpAny_bind (wpAny_of_eq KBd.like_eq ?_)
  refine wpAny_bind (wpAny_of_eq KBd.held_eq ?_)
  show wpAny _ _ (_codecs.decodeRoad _ b (Str.ofString "latin1") none [] >>= fun v=>_) _ _ s
  rw [lat_road,lat _ _ hz]
  refine wpAny_bind (wpAny_bind (wpAny_pure ?_))
  exact wpAny_mkStr (wpAny_pure ⟨_,rfl,h⟩) (by show (b.map _).size ≤ _; rw [Array.size_map]; exact hz)
theorem lat_entry {c:UInt8} {cs:List UInt8} {t u:Tok} : «bytes.decode» ⟨[.bytes (c :: cs).toArray t,.str (Str.ofString "latin1") u],[]⟩ = (mkStr (Str.ofString "utf-8") >>= fun _=>mkStr (Str.ofString "latin1") >>= fun e=>mkStr (Str.ofString "bytes.decode") >>= fun d =>
    call (.builtin "_codecs.decode.text") [.bytes (c :: cs).toArray t,e,.none,d] >>= fun v=>ret v) := by kernel_rfl
theorem lat_decode {c:UInt8} {cs:List UInt8} {t u:Tok} (hz:(c :: cs).length ≤ sizeLine) :
    Meets («bytes.decode» ⟨[.bytes (c :: cs).toArray t,.str (Str.ofString "latin1") u],[]⟩) (fun _ R s=>∀ t' k,R (.ok (.ret (.str ⟨((c :: cs).map (·.toNat)).toArray⟩ t'))) { s with toks := k }) := by
  refine .of_wp fun prog w A R s h=>?_
  rw [lat_entry]
  refine wpAny_bind (wpAny_mkStr ?_ (by decide))
  refine wpAny_bind (wpAny_mkStr ?_ (by decide))
  refine wpAny_bind (wpAny_mkStr ?_ (by decide))
  refine wpAny_bind (call_function_meets KBd.kind_text KBd.plain_text KBd.entry_text (KBd.args_text _ _ _ _) (lat_text (by simpa using hz)) ?_)
  have := h (s.toks + 1 + 1 + 1) (s.toks + 1 + 1 + 1 + 1)
  rw [show ((c :: cs).map (·.toNat)).toArray = (c :: cs).toArray.map (·.toNat) by simp] at this
  exact wpAny_pure ⟨_,rfl,this⟩
end
theorem O_decode {A:Around} {h:Heap} {c:UInt8} {cs:List UInt8} {t u:Tok} {Q:Value → Heap → Prop} (hz:(c :: cs).length ≤ sizeLine) (q:∀ t',Q (.str ⟨((c :: cs).map (·.toNat)).toArray⟩ t') h) :
    WP A (call (.builtin "bytes.decode") [.bytes (c :: cs).toArray t,.str (Str.ofString "latin1") u]) Q h :=
  WP_lib fun s e=>by
    subst e
    exact call_meets FB.slot_bytes_decode (typeIs_bytes _ _ _) FB.entry_bytes_decode (by unfold argsOk; kernel_rfl) (lat_decode hz) (fun t' k=>⟨_,_,rfl,q t'⟩)
theorem WP_forIn {A:Around} {h:Heap} {β:Type} {f:Nat → β → Sem (ForInStep β)} {Q:β → Heap → Prop} (J:List Nat → β → Prop) {L0:List Nat} (turn:∀ done c rest b,done ++ c :: rest = L0 → J done b → WP A (f c b) (fun r h'=>h' = h ∧ ∃ b',r = .yield b' ∧ J (done ++ [c]) b') h) :
    ∀ (L done:List Nat) (b:β),done ++ L = L0 → J done b → (∀ b,J L0 b → Q b h) → WP A (forIn L b f) Q h := by
  intro L
  induction L with
  | nil=>intro done b e hJ q; exact WP_pure (q b (by simpa [← e] using hJ))
  | cons c L ih =>
    intro done b e hJ q
    rw [List.forIn_cons]
    refine WP_bind ((turn done c L b e hJ).mono ?_)
    rintro r h' ⟨rfl,b',rfl,hJ'⟩
    exact ih (done ++ [c]) b' (by simpa using e) hJ' q
theorem WP_attempt {A:Around} {h:Heap} {α:Type} {t:Sem α} {Q:Except Value α → Heap → Prop} (x:WP A t (fun a h'=>Q (.ok a) h') h) : WP A t.attempt Q h :=
  fun s tk=>wpAny_attempt (wpAny_mono (x s tk) (fun _ _ y=>y) fun _ _ f=>f.elim)
theorem WP_mkInt {A:Around} {h:Heap} {i:Int} {Q:Value → Heap → Prop} (q:∀ t,Q (.int i t) h) : WP A (mkInt i) Q h := fun s tk=>wpAny_mkInt ⟨_,_,rfl,q _⟩
theorem O_look {A:Around} {h:Heap} {P:Params} {c:Nat} {Q:Builtin.Str.Mapped → Heap → Prop} (ht:At h.get? 254 (LO (hv P))) (hc:c < 256) (q:Q (.text (hdrS c)) h) : WP A (Builtin.Str.tableLookup (.ref 254) c) Q h := by
  unfold Builtin.Str.tableLookup
  refine WP_bind (WP_attempt (WP_bind (WP_mkInt fun t=>?_)))
  obtain ⟨u,hu⟩ := hv_get P c hc
  refine WP_lib fun s e=>?_
  subst e
  refine wpAny_getItem_list (x := .str (hdrS c) u) (LO.isList ht) (by lia) (by lia) (by simpa using hu) ⟨_,_,rfl,?_⟩
  exact WP_pure q
noncomputable def TJ (done:List Nat) (b:List Str × Nat × Bool × List (Nat × Option Nat) × Bool) : Prop :=
  b.1.reverse.foldl (fun acc p=>acc ++ p.cps) #[] = (done.flatMap hdrL).toArray ∧ b.2.1 = (done.flatMap hdrL).length ∧ (∀ c a,b.2.2.2.1.lookup c = some a → ∃ d,a = some d ∧ hdrL c = [d]) ∧ b.2.2.2.2 = false
theorem WP_ifT {α:Type} {A:Around} {c:Prop} [Decidable c] {a b:Sem α} {Q:α → Heap → Prop} {h:Heap} (hc:c) (x:WP A a Q h) : WP A (if c then a else b) Q h := by rw [if_pos hc]; exact x
theorem WP_ifF {α:Type} {A:Around} {c:Prop} [Decidable c] {a b:Sem α} {Q:α → Heap → Prop} {h:Heap} (hc:¬ c) (x:WP A b Q h) : WP A (if c then a else b) Q h := by rw [if_neg hc]; exact x
theorem O_translate {A:Around} {h:Heap} {P:Params} {cs:List Nat} {t:Tok} {Q:Value → Heap → Prop} (ht:At h.get? 254 (LO (hv P))) (hc:∀ c ∈ cs,c < 256) (hne:cs ≠ []) (hlen:cs.length ≤ 50) (q:∀ t',Q (.str ⟨(cs.flatMap hdrL).toArray⟩ t') h) :
    WP A (call (.builtin "str.translate") [.str ⟨cs.toArray⟩ t,.ref 254]) Q h := by
  refine WP_lib fun s e=>?_
  refine wpAny_call_entry F.slot_str_translate (typeIs_str s _ t) F.entry_str_translate ?_ (F.args_str_translate_2 _ _)
  have hlen' : ∀ L : List Nat,(L.flatMap hdrL).length ≤ 3 * L.length := fun L=>by
    induction L with
    | nil=>simp
    | cons c L ih=>have := hdrL_len c; rw [List.flatMap_cons,List.length_append,List.length_cons]; lia
  have main : WP A.in1 (Builtin.«str.translate» ⟨[.str ⟨cs.toArray⟩ t,.ref 254],[]⟩) (fun fin h'=>∃ v,fin = Fin.done (Flow.ret v) ∧ Q v h') h := by
    unfold Builtin.«str.translate»
    have e1 : Builtin.Str.strOneArg "translate" ⟨[.str ⟨cs.toArray⟩ t,.ref 254],[]⟩ = pure (.str ⟨cs.toArray⟩ t,⟨cs.toArray⟩,.ref 254) := by kernel_rfl
    rw [e1]
    show WP _ (if ((⟨cs.toArray⟩ : Str).length == 0) = true then _ else _) _ _
    refine WP_ifF (by simp [Str.length,hne]) ?_
    rw [← Array.forIn_toList]
    refine WP_bind (WP_forIn TJ (L0 := cs) ?_ _ [] _ rfl ⟨rfl,rfl,fun c a e=>by simp at e,rfl⟩ ?_)
    · rintro done c rest ⟨pcs,tot,fast,known,ad⟩ hdone ⟨j1,j2,j3,rfl⟩
      dsimp only at j1 j2 j3 ⊢
      have hcc : c < 256 := hc c (by rw [← hdone]; simp)
      have htot : Builtin.Str.tooLong tot = false := by
        have h1 := hlen' done
        have h2 : done.length ≤ cs.length := by rw [← hdone]; simp
        unfold Builtin.Str.tooLong
        rw [decide_eq_false_iff_not,sizeLine_eq]; lia
      refine WP_ifF (by rw [htot]; exact Bool.false_ne_true) ?_
      have e0 : (hdrS c).length = (hdrL c).length := rfl
      have done1 : ∀ d fast' known',hdrL c = [d] → (∀ c a,known'.lookup c = some a → ∃ d,a = some d ∧ hdrL c = [d]) → TJ (done ++ [c]) (⟨#[d]⟩ :: pcs,tot + 1,fast',known',false) := fun d f' k' hd hk=>by
        refine ⟨?_,?_,hk,rfl⟩
        · dsimp only; rw [List.reverse_cons,List.foldl_append,j1]; simp [hd]
        · dsimp only; rw [j2]; simp [hd]
      have done2 : ∀ fast' known',(∀ c a,known'.lookup c = some a → ∃ d,a = some d ∧ hdrL c = [d]) → TJ (done ++ [c]) (hdrS c :: pcs,tot + (hdrS c).length,fast',known',false) := fun f' k' hk=>by
        refine ⟨?_,?_,hk,rfl⟩
        · dsimp only; rw [List.reverse_cons,List.foldl_append,j1]; simp [hdrS]
        · dsimp only; rw [j2,e0]; simp
      by_cases hf : fast = true
      · refine WP_ifT hf ?_
        cases hk : known.lookup c with
        | some a =>
          obtain ⟨d,rfl,hd⟩ := j3 c a hk
          exact WP_pure ⟨rfl,_,rfl,done1 d _ _ hd j3⟩
        | none =>
          show WP _ (Builtin.Str.tableLookup (.ref 254) c >>= _) _ _
          refine WP_bind (O_look ht hcc ?_)
          try dsimp only
          obtain ⟨ans,hans⟩ : ∃ a,a = (if ((hdrS c).length == 1 && (hdrS c).cps.all fun x=>decide (x < 128)) = true then some (hdrS c).cps[0]? else none) := ⟨_,rfl⟩
          rw [← hans]
          cases ans with
          | none =>
            try dsimp only
            refine WP_bind (WP_pure ?_)
            refine WP_bind (WP_rule ?_)
            refine WP_ifF Bool.false_ne_true ?_
            refine WP_bind (O_look ht hcc ?_)
            exact WP_pure ⟨rfl,_,rfl,done2 _ _ j3⟩
          | some x =>
            obtain ⟨d,rfl,hd⟩ : ∃ d,x = some d ∧ hdrL c = [d] := by
              split at hans
              · rename_i hh
                have h1 : (hdrL c).length = 1 := by have := (Bool.and_eq_true_iff.mp hh).1; rw [e0] at this; simpa using this
                obtain ⟨d,hd⟩ := List.length_eq_one_iff.mp h1
                refine ⟨d,?_,hd⟩
                have : (hdrS c).cps[0]? = some d := by simp [hdrS,hd]
                rw [this] at hans
                simpa using hans
              · cases hans
            try dsimp only
            refine WP_bind (WP_pure ?_)
            refine WP_pure ⟨rfl,_,rfl,done1 d _ _ hd ?_⟩
            intro c' a' h'
            rw [List.lookup_cons] at h'
            split at h'
            · rename_i hh
              have : c' = c := by simpa using hh
              subst this
              cases h'
              exact ⟨d,rfl,hd⟩
            · exact j3 c' a' h'
      · refine WP_ifF hf (WP_ifF Bool.false_ne_true ?_)
        refine WP_bind (O_look ht hcc ?_)
        exact WP_pure ⟨rfl,_,rfl,done2 _ _ j3⟩
    · rintro ⟨pcs,tot,fast,known,ad⟩ ⟨j1,j2,j3,j4⟩
      dsimp only at j1 j2 j3 ⊢
      have htot : Builtin.Str.tooLong tot = false := by
        have h1 := hlen' cs
        unfold Builtin.Str.tooLong
        rw [decide_eq_false_iff_not,sizeLine_eq]; lia
      refine WP_ifF (by rw [htot]; exact Bool.false_ne_true) ?_
      rw [j1]
      have hl1 := hlen' cs
      exact fun s tk=>wpAny_bind (wpAny_mkStr (wpAny_pure ⟨_,_,rfl,_,rfl,q _⟩) (by show (cs.flatMap hdrL).toArray.size ≤ _; rw [sizeLine_eq]; simp only [List.size_toArray]; lia))
  subst e
  exact wpAny_mono (main s s.toks) (fun fin s' ⟨h',tk',e,v,hv,q⟩=>⟨v,hv,h',tk',e,q⟩) fun _ _ f=>f
theorem W_Joined {A:Around} {env:Env} {h:Heap} {v₁ v₂:PySem.Expr} {rest:List PySem.Expr} {pos:Pos} {Q:Value → Heap → Prop} (x:WP A (joinParts Str.empty (eval v₁ env :: eval v₂ env :: evalEach rest env)) Q h) : WP A (eval (.JoinedStr (v₁ :: v₂ :: rest) pos) env) Q h :=
  fun s tk=>JoinedStr_many (x s tk)
theorem W_parts_nil {A:Around} {h:Heap} {out:Str} {Q:Value → Heap → Prop} (q:∀ t,Q (.str out t) h) (hz:out.length ≤ sizeLine) : WP A (joinParts out []) Q h := fun s tk=>joinParts_nil ⟨_,_,rfl,q _⟩ hz
theorem W_parts_cons {A:Around} {h:Heap} {out:Str} {x:Sem Value} {rest:List (Sem Value)} {Q:Value → Heap → Prop} (y:WP A x (fun v h1=>∃ z t,v = .str z t ∧ (out ++ z).length ≤ sizeLine ∧ WP A (joinParts (out ++ z) rest) Q h1) h) : WP A (joinParts out (x :: rest)) Q h :=
  fun s tk=>joinParts_cons (y.go fun v h1 t1 ⟨z,t,e,hz,q⟩=>by subst e; exact ⟨hz,q s t1⟩)
theorem W_FmtS {A:Around} {env:Env} {h:Heap} {value:PySem.Expr} {pos:Pos} {Q:Value → Heap → Prop} (x:WP A (eval value env) (fun v h1=>∃ z t,v = .str z t ∧ z.length ≤ sizeLine ∧ ∀ t',Q (.str z t') h1) h) : WP A (eval (.FormattedValue value 115 none pos) env) Q h :=
  fun s tk=>wpAny_FormattedValue_s (x.go fun v h1 t1 ⟨z,t,e,hz,q⟩=>by
    subst e
    show wpAny _ _ (habitSame "fstring-hands-on-the-str" (.str z t)) _ _ _
    exact habitSame_str (fun t' tk=>formatField_str (fun t'' tk'=>⟨_,_,rfl,q t''⟩) hz) hz)
theorem M_bytes {A:Around} {h:Heap} {b:Array UInt8} {t:Tok} {name:Str} {id:String} {pl:Sem Bool} {Q:Value × List Value → Heap → Prop} (slot:Slot "bytes" name id) (ty:typeOf (.builtin id) = pure (.type "method_descriptor")) (q:Q (.builtin id,[.bytes b t]) h) : WP A (getMethod (.bytes b t) name pl) Q h :=
  WP_lib fun s e=>by subst e; exact KBd.method_of (.bytes b t) (typeIs_bytes _ _ _) slot ty KBd.noRef ⟨_,_,rfl,q⟩
theorem M_str {A:Around} {h:Heap} {x:Str} {t:Tok} {name:Str} {id:String} {pl:Sem Bool} {Q:Value × List Value → Heap → Prop} (slot:Slot "str" name id) (ty:typeOf (.builtin id) = pure (.type "method_descriptor")) (q:Q (.builtin id,[.str x t]) h) : WP A (getMethod (.str x t) name pl) Q h :=
  WP_lib fun s e=>by subst e; exact getMethod_builtin (typeIs_str _ _ _) F.plainAttrs_str slot ty (fun _ e=>nomatch e) ⟨_,_,rfl,q⟩
noncomputable def headL (xs:List Int) : List Nat := if xs = [] then [] else [61,63,113,63,113,63] ++ writ xs ++ [63,61]
theorem hencode_spec {A:Around} {h:Heap} {n:Nat} {xs:List Int} {tb tq:Tok} {Q:Value → Heap → Prop}
    (Z:Stat h.get?) (R:Rm A (n + 5)) (hlen:xs.length ≤ 11) (ho:∀ x ∈ xs,0 ≤ x ∧ x < 256)
    (k:∀ t h',Keep h h' → Q (.str (mkS (headL xs)) t) h') : WP A (call (.ref 277) [.bytes (byteArr xs) tb,.str (Str.ofString "q") tq]) Q h := by
  apply enter2 (args := ⟨[.bytes (byteArr xs) tb,.str (Str.ofString "q") tq],[]⟩) (binds := [(Str.ofString "header_bytes",.bytes (byteArr xs) tb),(Str.ofString "charset",.str (Str.ofString "q") tq)]) (rest := [Str.ofString "encoded"]) (gl := [(Str.ofString "_QUOPRI_HEADER_MAP",.ref 254)]) Z R
  k_is; k_is; (intro s e; subst e; exact BindsTo.of_defaults rfl (Z.inn 270 _ (by k_is)) rfl rfl rfl); kernel_rfl; kernel_rfl; exact rfl; exact rfl; exact rfl; kernel_rfl; wtm_at "enth"
  intro L env A' h₁ henv R' C K₁ S
  refine S.letm ?_; clear S; intro mS MS S
  wtm_at "go"
  refine WP_lib fun s e=>?_
  subst e
  refine truthy_bytes (by rw [byteArr_size]; exact Nat.le_of_lt (Nat.lt_of_le_of_lt hlen (by decide))) ⟨_,_,rfl,?_⟩
  rw [byteArr_size]
  wtm_at "go"
  cases xs with
  | nil =>
    rw [if_pos (by rfl)]
    wtm_at "go"
    wtm_at "f"
    exact k _ _ S.keep
  | cons x xs =>
    rw [if_neg (by simp; lia)]
    wtm_at "go"
    have hb : byteArr (x :: xs) = (x.toNat.toUInt8 :: xs.map fun n=>n.toNat.toUInt8).toArray := rfl
    have hm : (x.toNat.toUInt8 :: xs.map fun n=>n.toNat.toUInt8).map (·.toNat) = (x :: xs).map Int.toNat := by
      rw [show (x.toNat.toUInt8 :: xs.map fun n=>n.toNat.toUInt8) = (x :: xs).map fun n=>n.toNat.toUInt8 from rfl,List.map_map]
      refine List.map_congr_left fun y hy=>?_
      have := ho y hy
      simp only [Function.comp]
      exact UInt8.toNat_ofNat_of_lt' (by show y.toNat < 256; lia)
    with_reducible refine M_bytes FB.slot_bytes_decode FB.type_bytes_decode ?_
    wtm_at "go"
    wtm_at "kp"
    rw [hb]
    refine O_decode (by rw [sizeLine_eq]; simp at hlen ⊢; exact Nat.le_of_lt (Nat.lt_of_le_of_lt hlen (by decide))) ?_
    intro t1
    rw [hm]
    with_reducible refine M_str F.slot_str_translate F.type_str_translate ?_
    wtm_at "go"
    wtm_at "kp"
    refine O_translate (hv_at (Z.up S.keep)) ?_ (by simp) (by simp at hlen ⊢; exact Nat.le_of_lt (Nat.lt_of_le_of_lt hlen (by decide))) ?_
    · intro c hc
      obtain ⟨y,hy,rfl⟩ := List.mem_map.mp hc
      have := ho y hy
      lia
    intro t2
    have hw : (((x :: xs).map Int.toNat).flatMap hdrL) = writ (x :: xs) := by unfold writ; rw [List.flatMap_map]
    rw [hw]
    wtm_at "go"
    rename_i g1 S1
    refine W_Joined ?_
    refine W_parts_cons ?_
    wtm_at "go"
    rename_i t3
    refine ⟨_,_,rfl,by decide,?_⟩
    refine W_parts_cons (W_FmtS ?_)
    wtm_at "go"
    refine ⟨_,_,rfl,by decide,fun t'=>?_⟩
    refine ⟨_,_,rfl,by decide,?_⟩
    have hwl := writ_len (x :: xs)
    have e1 : Str.empty ++ Str.ofString "=?" ++ Str.ofString "q" ++ Str.ofString "?q?" = mkS [61,63,113,63,113,63] := by decide
    show WP _ (joinParts _ (eval _ env :: eval _ env :: eval _ env :: [])) _ _
    refine W_parts_cons ?_
    wtm_at "go"
    refine ⟨_,_,rfl,by decide,?_⟩
    rw [e1]
    refine W_parts_cons (W_FmtS ?_)
    wtm_at "go"
    refine ⟨_,_,rfl,?_,fun t'=>?_⟩
    · show (writ (x :: xs)).toArray.size ≤ _
      rw [sizeLine_eq,List.size_toArray]; lia
    have e2 : mkS [61,63,113,63,113,63] ++ (⟨(writ (x :: xs)).toArray⟩ : Str) = mkS ([61,63,113,63,113,63] ++ writ (x :: xs)) := mkS_app _ _
    refine ⟨_,_,rfl,?_,?_⟩
    · rw [e2]
      show (([61,63,113,63,113,63] : List Nat) ++ writ (x :: xs)).toArray.size ≤ _
      rw [sizeLine_eq,List.size_toArray,List.length_append]; simp only [List.length_cons,List.length_nil] at hlen hwl ⊢; lia
    rw [e2]
    refine W_parts_cons ?_
    wtm_at "go"
    have e3 : mkS ([61,63,113,63,113,63] ++ writ (x :: xs)) ++ Str.ofString "?=" = mkS (headL (x :: xs)) := by
      rw [show Str.ofString "?=" = mkS [63,61] by decide,mkS_app]
      unfold headL
      rw [if_neg (by simp)]
    have e4 : (mkS (headL (x :: xs))).length ≤ sizeLine := by
      show (headL (x :: xs)).toArray.size ≤ _
      unfold headL
      rw [if_neg (by simp),sizeLine_eq,List.size_toArray,List.length_append,List.length_append]; simp only [List.length_cons,List.length_nil] at hlen hwl ⊢; lia
    refine ⟨_,_,rfl,by rw [e3]; exact e4,?_⟩
    rw [e3]
    refine W_parts_nil (fun t=>?_) e4
    wtm_at "f"
    exact k _ _ S1.keep
end
section
open Builtin Builtin.Str
theorem clip_le (n:Nat) (i:Int) : clipAt n i ≤ n := by unfold clipAt; exact Int.toNat_le.mpr (Int.max_le.mpr ⟨Int.natCast_nonneg n,Int.min_le_right _ _⟩)
theorem clipIdem {x:Int} {n:Nat} : max 0 (min x n) = max 0 (min (if max 0 (min x (n:Int)) < 0 then max 0 (min x (n:Int)) + n else max 0 (min x (n:Int))) n) := by
  rw [if_neg (Int.not_lt.mpr (Int.le_max_left 0 _)),Int.min_eq_left (a := max 0 (min x (n:Int))) (Int.max_le.mpr ⟨Int.natCast_nonneg n,Int.min_le_right _ _⟩),Int.max_eq_right (Int.le_max_left 0 _)]
theorem idx_clip (lo hi:Option Int) (n:Nat) : strSliceIndices lo hi 1 n = strSliceIndices (some ((lo.elim 0 (clipAt n) : Nat) : Int)) (some ((hi.elim n (clipAt n) : Nat) : Int)) 1 n := by
  have e : ∀ i : Int,((clipAt n i:Nat) : Int) = max 0 (min (if i < 0 then i + n else i) n) := clipAt_cast n
  unfold strSliceIndices
  simp only [show ((1:Int) > 0) = True from by simp,if_true]
  congr 1
  · cases lo with
    | none=>simp; exact rfl
    | some i =>
      simp only [Option.elim_some,e]
      exact clipIdem
  · cases hi with
    | none =>
      have h1 : ¬ ((((Option.elim (none:Option Int) n (clipAt n)) : Nat) : Int) < 0) := by lia -zetaDelta
      try dsimp only
      rw [if_neg h1]
      show (n:Int) = max 0 (min (n:Int) n)
      lia -zetaDelta
    | some i =>
      simp only [Option.elim_some,e]
      exact clipIdem
theorem slice_key (xs:List Nat) (lo hi:Option Int) : (strSliceIndices lo hi 1 (mkS xs).length).filterMap ((mkS xs).cps[·]?) = lsl xs lo hi ∧ (strSliceIndices lo hi 1 (mkS xs).length).length = (lsl xs lo hi).length := by
  have hlen : (mkS xs).length = xs.length := mkS_len xs
  rw [idx_clip,hlen]
  unfold lsl
  obtain ⟨a,ha⟩ : ∃ a,a = lo.elim 0 (clipAt xs.length) := ⟨_,rfl⟩
  obtain ⟨b,hb⟩ : ∃ b,b = hi.elim xs.length (clipAt xs.length) := ⟨_,rfl⟩
  rw [← ha,← hb]
  have ha' : a ≤ xs.length := by rw [ha]; cases lo with | none=>exact Nat.zero_le _ | some i=>exact clip_le _ _
  have hb' : b ≤ xs.length := by rw [hb]; cases hi with | none=>exact Nat.le_refl _ | some i=>exact clip_le _ _
  by_cases hab : a ≤ b
  · have h1 := StrLaws.sliced_plain (mkS xs) hab (by rw [hlen]; exact hb')
    rw [hlen] at h1
    refine ⟨by rw [h1]; rfl,?_⟩
    rw [StrLaws.strSliceIndices_plain hab hb']
    simp; lia -zetaDelta
  · have : strSliceIndices (some (a:Int)) (some (b:Int)) 1 xs.length = [] := by
      unfold strSliceIndices sliceRange
      have h1 : ¬ ((a:Int) < 0) := by lia -zetaDelta
      have h2 : ¬ ((b:Int) < 0) := by lia -zetaDelta
      have e1 : max (0:Int) (min (a:Int) (xs.length : Int)) = a := by lia -zetaDelta
      have e2 : max (0:Int) (min (b:Int) (xs.length : Int)) = b := by lia -zetaDelta
      have h3 : ¬ ((a:Int) < (b:Int)) := by lia -zetaDelta
      simp [h1,h2,e1,e2,h3]
    rw [this,show b - a = 0 by lia -zetaDelta]
    simp
theorem slice_mk (xs:List Nat) (lo hi:Option Int) : Txt.slice (mkS xs) lo hi = mkS (lsl xs lo hi) := by
  obtain ⟨h1,h2⟩ := slice_key xs lo hi
  unfold Txt.slice
  split
  · rename_i h
    have h3 : (lsl xs lo hi).length = xs.length := by rw [← h2]; simpa [mkS_len] using h
    have : (lsl xs lo hi).Sublist xs := (List.take_sublist _ _).trans (List.drop_sublist _ _)
    rw [this.eq_of_length h3]
  · rw [h1]; rfl
theorem isPart_val {v:Value} {lo:Option Int} (p:IsPart v lo) : ∃ l : Option (Int × Tok),v = partValue l ∧ lo = l.map (·.1) := by
  cases p with
  | none=>exact ⟨none,rfl,rfl⟩
  | int i t=>exact ⟨some (i,t),rfl,rfl⟩
section
variable {A:Around} {h:Heap}
theorem O_sslice {value slice:PySem.Expr} {xs:List Nat} {t:Tok} {a:Addr} {vl vu:Value} {lo hi:Option Int} {Q:Value → Heap → Prop} (ha:At h.get? a (SO vl vu)) (hz:xs.length ≤ sizeLine) (pl:IsPart vl lo) (pu:IsPart vu hi)
    (q:∀ t,Q (.str (mkS (lsl xs lo hi)) t) h) (hs:subscripted slice false (.str (mkS xs) t) (.ref a) = operate [.ref a,.str (mkS xs) t] (getItem (.str (mkS xs) t) (.ref a))) : WP A (subscriptTail value slice (.str (mkS xs) t) (.ref a)) Q h := by
  refine O_subTail (T := "str") (fun s e=>typeIs_str s _ t) F.slot_str_getitem.lookup (WP_lib fun s e=>?_) hs
  subst e
  obtain ⟨l,rfl,rfl⟩ := isPart_val pl
  obtain ⟨u,rfl,rfl⟩ := isPart_val pu
  obtain ⟨o,ho,rfl⟩ := ha
  refine wpAny_getItem_str_slice (l := l) (u := u) (st := none) ⟨_,ho,rfl,rfl⟩ rfl (post_val_or_str ?_)
  have e : ∀ c : Prop,[Decidable c] → (if c then mkS xs else ⟨((slicePicked (mkS xs) l u none).filterMap ((mkS xs).cps[·]?)).toArray⟩ : Str) = (if c then mkS xs else mkS (lsl xs (l.map (·.1)) (u.map (·.1)))) := fun c _=>by
    split
    · rfl
    · rw [← (slice_key xs (l.map (·.1)) (u.map (·.1))).1]; rfl
  have e2 := slice_mk xs (l.map (·.1)) (u.map (·.1))
  unfold Txt.slice at e2
  refine ⟨?_,fun t' k=>⟨_,_,rfl,?_⟩⟩
  · show (if ((1:Int) == 1 && (strSliceIndices (l.map (·.1)) (u.map (·.1)) 1 (mkS xs).length).length == (mkS xs).length) = true then mkS xs else _).length ≤ _
    refine Nat.le_trans (Nat.le_of_eq (congrArg Str.length e2)) ?_
    rw [mkS_len]; exact Nat.le_trans (lsl_len _ _ _) hz
  · have := q t'
    rw [← e2] at this
    exact this
theorem O_len_str {xs:List Nat} {t:Tok} {Q:Value → Heap → Prop} (hz:xs.length ≤ sizeLine) (q:∀ t,Q (.int (xs.length : Nat) t) h) : WP A (call (.builtin "len") [.str (mkS xs) t]) Q h :=
  WP_lib fun s e=>by
    subst e
    refine P.len_str (by rw [mkS_len]; rw [sizeLine_eq] at hz; lia -zetaDelta) ⟨_,_,rfl,?_⟩
    rw [mkS_len]; exact q _
theorem O_bytes {n:Nat} {l:Addr} {vs:List Value} {ns:List Int} {Q:Value → Heap → Prop} (R:Rm A n) (hl:At h.get? l (LO vs)) (hi:IntsAre vs ns) (hr:∀ n ∈ ns,0 ≤ n ∧ n < 256) (hz:vs.length ≤ sizeLine)
    (q:∀ h' t,Keep h h' → Q (.bytes (byteArr ns) t) h') : WP A (call (.type "bytes") [.ref l]) Q h :=
  WP_lib fun s e=>by subst e; exact call_bytes_ints (LO.isList hl) hi hr hz R.h fun h' t k hk=>⟨_,_,rfl,q h' t hk⟩
noncomputable def RvI (l:Addr) (n i:Nat) : OP := fun o=>o.cls = .type "list_reverseiterator" ∧ o.data = .fields #[.ref l,rawInt ((n:Int) - 1 - (i:Nat))]
theorem O_reversed {l:Addr} {vs:List Value} {Q:Value → Heap → Prop} (hl:At h.get? l (LO vs)) (q:∀ I h',New h I (RvI l vs.length 0) h' → Q (.ref I) h') : WP A (call (.type "reversed") [.ref l]) Q h :=
  WP_lib fun s e=>by
    subst e
    refine call_reversed_list (LO.isList hl) ⟨_,_,rfl,q _ _ (New.push _ rfl ⟨rfl,?_⟩)⟩
    simp [revObj]
theorem iter_reversed {I l:Addr} {n i:Nat} {Q:Value → Heap → Prop} (hI:At h.get? I (RvI l n i)) (q:Q (.ref I) h) : WP A (pyIter (.ref I)) Q h :=
  WP_lib fun s e=>by subst e; exact wpAny_pyIter_revIter hI ⟨_,_,rfl,q⟩
theorem itr_rev (hh:A.handled = none) (I l:Addr) (vs:List Value) : Itr A I vs.length (fun i v=>vs[vs.length - 1 - i]? = some v) (RvI l vs.length) (fun h=>At h.get? l (LO vs)) where
  item := fun i h Q hi ha hn q=>WP_lib fun s e=>by
    subst e
    obtain ⟨x,hx⟩ : ∃ x,vs[vs.length - 1 - i]? = some x := ⟨_,List.getElem?_eq_getElem (by omega)⟩
    have e1 : ((vs.length : Int) - 1 - (i:Nat)) = ((vs.length - 1 - i : Nat) : Int) := by omega
    have ha' : s.heap.IsRevIter I l ((vs.length - 1 - i : Nat) : Int) := by rw [← e1]; exact ha
    refine wpAny_pyNext_rev_item (l := l) ha' (LO.isList hn) (by simpa using hx) fun h' hit hs=>⟨h',_,rfl,q x h' hx ?_ hs.extBut⟩
    have e2 : (((vs.length - 1 - i : Nat) : Int) - 1) = ((vs.length : Int) - 1 - ((i + 1 : Nat) : Int)) := by lia -zetaDelta
    rw [e2] at hit
    exact hit
  done := fun h Q ha hn q=>WP_lib fun s e=>by
    subst e
    have e1 : ((vs.length : Int) - 1 - ((vs.length : Nat) : Int)) = -1 := by lia -zetaDelta
    have ha' : s.heap.IsRevIter I l (-1) := by rw [← e1]; exact ha
    exact wpAny_pyNext_rev_end hh ha' fun h' hk=>⟨h',_,rfl,q h' hk⟩
theorem own_rev {elts:List PySem.Expr} {x1} {pos:Pos} {I l T:Addr} {n i:Nat} {Q:Unit → Heap → Prop} (hi:At h.get? I (RvI l n i)) (q:Q () h) : WP A (letOwnedTupleGo (.Tuple elts x1 pos) (.ref I) (.ref T)) Q h := by
  obtain ⟨o,ho,hc,hd⟩ := hi
  unfold letOwnedTupleGo
  refine WP_bind (WP_load ho ?_)
  rw [hc,hd]
  show WP A (if (["enumerate","zip","dict_itemiterator","dict_reverseitemiterator","odict_iterator","itertools.zip_longest","itertools.pairwise"].contains "list_reverseiterator" && _) = true then _ else _) Q h
  rw [show (["enumerate","zip","dict_itemiterator","dict_reverseitemiterator","odict_iterator","itertools.zip_longest","itertools.pairwise"].contains "list_reverseiterator") = false from by decide,Bool.false_and,if_neg Bool.false_ne_true]
  exact WP_pure q
end
noncomputable def editF (X Y:List Int) (letter:List Nat) (o:Op) : List Nat :=
  if o.1 = Str.ofString "equal" then letter else
    lsl letter none (some ((6 + (writ (lsl X none (some (o.2.1 : Int)))).length : Nat) : Int)) ++ lsl (headL (lsl Y (some (o.2.2.2.1 : Int)) (some (o.2.2.2.2 : Int)))) (some 6) (some (-2)) ++
      lsl letter (some ((6 + (writ (lsl X none (some (o.2.2.1 : Int)))).length : Nat) : Int)) none
noncomputable def editedF (ops:List Op) (X Y:List Int) : List Nat := ops.reverse.foldl (editF X Y) (headL X)
theorem headL_len (xs:List Int) : (headL xs).length ≤ 3 * xs.length + 8 := by
  unfold headL
  split
  · simp
  · have := writ_len xs; simp; omega
theorem Ops.get {n:Nat} {G:Pt} {vs:List Value} {ps:List Op} (p:Ops n G vs ps) {i:Nat} {v:Value} (h:vs[i]? = some v) : ∃ t o,v = .ref t ∧ ps[i]? = some o ∧ At G t (OpT o) := by
  induction p generalizing i with
  | nil=>simp at h
  | cons ha hx _ ih =>
    cases i with
    | zero=>simp at h; exact ⟨_,_,h.symm,rfl,hx⟩
    | succ i=>exact ih (by simpa using h)
namespace edited_specN
abbrev TT : Prop := ∀ {A:Around} {h:Heap} {n:Nat} {l a b:Addr} {us va vb:List Value} {ops:List Op} {X Y:List Int} {Q:Value → Heap → Prop} (Z:Stat h.get?) (R:Rm A (n + 8)) (hl:At h.get? l (LO us)) (hO:Ops 0 h.get? us ops) (ha:At h.get? a (LO va)) (hi:IntsAre va X) (hb:At h.get? b (LO vb)) (hj:IntsAre vb Y) (hX:X.length ≤ 11) (hY:Y.length ≤ 11) (oX:∀ x ∈ X,0 ≤ x ∧ x < 256) (oY:∀ x ∈ Y,0 ≤ x ∧ x < 256) (hlen:∀ i,((ops.reverse.take i).foldl (editF X Y) (headL X)).length ≤ 100000) (hol:ops.length ≤ 100) (k:∀ t h',Keep h h' → Q (.str (mkS (editedF ops X Y)) t) h'),WP A (call (.ref 339) [.ref l,.ref a,.ref b]) Q h
noncomputable def PP : {p:Heap → Nat → Addr → Addr → Addr → List Op → List Int → List Int → (Value → Heap → Prop) → Addr → Env → Around → Heap → Prop // (∀ h n l a b ops X Y Q L env A' h₁,p h n l a b ops X Y Q L env A' h₁) → TT} := ⟨_,by
  intro f A h n l a b us va vb ops X Y Q Z R hl hO ha hi hb hj hX hY oX oY hlen hol k
  apply enter2 (args := ⟨[.ref l,.ref a,.ref b],[]⟩) (binds := [(Str.ofString "told",.ref l),(Str.ofString "left",.ref a),(Str.ofString "right",.ref b)]) (rest := [Str.ofString "letter",Str.ofString "tag",Str.ofString "i1",Str.ofString "i2",Str.ofString "j1",Str.ofString "j2",Str.ofString "begin",Str.ofString "end"]) (gl := [(Str.ofString "header_encode",.ref 277),(Str.ofString "bytes",.type "bytes"),(Str.ofString "reversed",.type "reversed"),(Str.ofString "_law_written",.ref 310),(Str.ofString "len",.builtin "len")]) Z R
  wtm_at "ent"
  intro L env A' h₁
  revert A us va vb Z R hl hO ha hi hb hj hX hY oX oY hlen hol k
  exact @f h n l a b ops X Y Q L env A' h₁⟩
noncomputable def SS := pick1 (by have := neA; exact inferInstance) (un (un (un (un (un (un (un (un (un (un (un (un PP.1))))))))))))
noncomputable def h := SS.1.1.1.1.1.1.1.1.1.1.1.1.1
noncomputable def n := SS.1.1.1.1.1.1.1.1.1.1.1.1.2
noncomputable def l := SS.1.1.1.1.1.1.1.1.1.1.1.2
noncomputable def a := SS.1.1.1.1.1.1.1.1.1.1.2
noncomputable def b := SS.1.1.1.1.1.1.1.1.1.2
noncomputable def ops := SS.1.1.1.1.1.1.1.1.2
noncomputable def X := SS.1.1.1.1.1.1.1.2
noncomputable def Y := SS.1.1.1.1.1.1.2
noncomputable def Q := SS.1.1.1.1.1.2
noncomputable def L := SS.1.1.1.1.2
noncomputable def env := SS.1.1.1.2
noncomputable def A' := SS.1.1.2
noncomputable def h₁ := SS.1.2
theorem main : PP.1 h n l a b ops X Y Q L env A' h₁ := by
  intro A us va vb Z R hl hO ha hi hb hj hX hY oX oY hlen hol k henv R' C K₁ S
  refine S.letm ?_; clear S; intro mS MS S
  have hva : va.length = X.length := hi.length
  have hvb : vb.length = Y.length := hj.length
  have hus : us.length = ops.length := hO.length
  wtm_at "go"
  wtm_at "kp"
  refine O_bytes R' (S.kk ha) hi oX (by rw [sizeLine_eq]; exact Nat.le_of_lt (Nat.lt_of_le_of_lt (Nat.le_of_eq hva) (Nat.lt_of_le_of_lt hX (by decide)))) ?_
  intro h2 tb K2
  have S2 := S.keeps K2
  wtm_at "go"
  wtm_at "kp"
  refine hencode_spec (n := n) (Z.up S2.keep) (R'.le (by lia -zetaDelta)) hX oX ?_
  intro tl h3 K3
  have S3 := S2.keeps K3
  wtm_at "go"
  rename_i h4 S4
  wtm_at "kp"
  refine O_reversed (S4.kk hl) ?_
  intro I h5 N5
  have S5 := S4.born N5
  refine iter_reversed (S5.mm (by wtm_at "mem")) ?_
  let Jz1 : Inv := fun i m N M=>E6 fun tl u1 u2 u3 u4 u5=>E2 fun u6 u7=>C3 (m = [(Str.ofString "told",some (Value.ref l)),(Str.ofString "left",some (Value.ref a)),(Str.ofString "right",some (Value.ref b)),(Str.ofString "letter",some (.str (mkS ((ops.reverse.take i).foldl (editF X Y) (headL X))) tl)),(Str.ofString "tag",u1),(Str.ofString "i1",u2),(Str.ofString "i2",u3),(Str.ofString "j1",u4),(Str.ofString "j2",u5),(Str.ofString "begin",u6),(Str.ofString "end",u7)]) (N = (fun _=>none)) (M = [])
  refine for_itrT (itr_rev R'.h I l us) Jz1 S5 ⟨_,_,_,_,_,_,_,_,rfl,rfl,rfl⟩ (fun i v h Q hv hi q=>?_) (fun i m N M h P hJ S=>S.kk hl) ?_ ?_
  · obtain ⟨t,o,rfl,_⟩ := hO.get hv
    exact own_rev hi q
  · rintro i v m N M g hilt hv ⟨tl,u1,u2,u3,u4,u5,u6,u7,rfl,rfl,rfl⟩ S
    refine S.letm ?_; clear S; intro mS MS S
    obtain ⟨t,o,rfl,ho,ob,hob,t0,t1,t2,t3,t4,hT⟩ := hO.get hv
    have hT : At h.get? t (TO [.str o.1 t0,.int (o.2.1 : Nat) t1,.int (o.2.2.1 : Nat) t2,.int (o.2.2.2.1 : Nat) t3,.int (o.2.2.2.2 : Nat) t4]) := ⟨ob,hob,hT⟩
    obtain ⟨lt,hlt⟩ : ∃ lt,lt = (ops.reverse.take i).foldl (editF X Y) (headL X) := ⟨_,rfl⟩
    have hz := hlen i
    have hnext : (ops.reverse.take (i + 1)).foldl (editF X Y) (headL X) = editF X Y lt o := by
      rw [List.take_add_one,List.getElem?_reverse (Nat.lt_of_lt_of_le hilt (Nat.le_of_eq hus)),← hus,ho,Option.toList_some,List.foldl_append,← hlt]; rfl
    try dsimp +zetaDelta only [setAt] at S
    rw [← hlt] at S hz
    have S := S
    refine' W_assign_Tuple (R'.le (by exact Nat.zero_le _)) (S.kk hT) rfl ?y3 ?_
    case y3=>rfl
    intro g1 G1
    have S1 := S.keeps G1
    wtm_at "go"
    rename_i g2 S2 _ g3 S3 _ g4 S4 _ g5 S5 _ g6 S6
    unfold Turn
    wtm_at "go"
    by_cases heq : o.1 = Str.ofString "equal"
    · rw [if_neg (by simp [heq])]
      wtm_at "go"
      show InvAt _ _ _ _ _ _ _
      have : editF X Y lt o = lt := by unfold editF; rw [if_pos heq]
      rw [this] at hnext
      refine' ⟨_,_,_,⟨_,_,_,_,_,_,_,_,?q1,rfl,rfl⟩,S6⟩
      case q1=>rw [hnext]; try rfl
    · rw [if_pos (by simpa using heq)]
      have hed : editF X Y lt o = lsl lt none (some ((6 + (writ (lsl X none (some (o.2.1 : Int)))).length : Nat) : Int)) ++ lsl (headL (lsl Y (some (o.2.2.2.1 : Int)) (some (o.2.2.2.2 : Int)))) (some 6) (some (-2)) ++
        lsl lt (some ((6 + (writ (lsl X none (some (o.2.2.1 : Int)))).length : Nat) : Int)) none := by unfold editF; rw [if_neg heq]
      have z1 := writ_len (lsl X none (some (o.2.1 : Int)))
      have z2 := writ_len (lsl X none (some (o.2.2.1 : Int)))
      have z3 := lsl_len X none (some (o.2.1 : Int))
      have z4 := lsl_len X none (some (o.2.2.1 : Int))
      have z5 := headL_len (lsl Y (some (o.2.2.2.1 : Int)) (some (o.2.2.2.2 : Int)))
      have z6 := lsl_len Y (some (o.2.2.2.1 : Int)) (some (o.2.2.2.2 : Int))
      wtm_at "go"
      refine' W_AssignSwap (names := [Str.ofString "begin",Str.ofString "end"]) ?_ ?y1 ?y2
      case y1=>rfl
      case y2=>rw [henv]; kernel_rfl
      wtm_at "go"
      intro s1 g7 n7
      have S7 := S6.born n7
      refine O_slice_list (S7.kk ha) (S7.mm (by wtm_at "mem")) (by rw [sizeLine_eq]; lia -zetaDelta) .none (.int _ _) ?_ (by with_unfolding_all rfl)
      intro s2 g8 n8
      have S8 := S7.born n8
      wtm_at "go"
      wtm_at "kp"
      refine written_spec (n := n) (Z.up S8.keep) (R'.le (by lia -zetaDelta)) (S8.mm (by wtm_at "mem")) (ints_lsl hi _ _) (by exact Nat.le_trans (by assumption) (by assumption)) (fun x hx=>oX x (lsl_mem hx)) ?_
      intro tw1 g9 K9
      have S9 := (S8.keeps K9).subl (M' := (I,_) :: []) (by wtm_at "subl")
      wtm_at "go"
      wtm_at "kp"
      refine O_len_str (by rw [sizeLine_eq]; lia -zetaDelta) ?_
      intro tw2
      wtm_at "go"
      intro s3 g10 n10
      have S10 := S9.born n10
      refine O_slice_list (S10.kk ha) (S10.mm (by wtm_at "mem")) (by rw [sizeLine_eq]; lia -zetaDelta) .none (.int _ _) ?_ (by with_unfolding_all rfl)
      intro s4 g11 n11
      have S11 := S10.born n11
      wtm_at "go"
      wtm_at "kp"
      refine written_spec (n := n) (Z.up S11.keep) (R'.le (by lia -zetaDelta)) (S11.mm (by wtm_at "mem")) (ints_lsl hi _ _) (by exact Nat.le_trans (by assumption) (by assumption)) (fun x hx=>oX x (lsl_mem hx)) ?_
      intro tw3 g12 K12
      have S12 := (S11.keeps K12).subl (M' := (I,_) :: []) (by wtm_at "subl")
      wtm_at "go"
      wtm_at "kp"
      refine O_len_str (by rw [sizeLine_eq]; lia -zetaDelta) ?_
      intro tw4
      wtm_at "go"
      wtm_at "new"
      intro cT g13 _ _ K13 S13
      refine U_tuple (R'.le (Nat.zero_le _)) (by wtm_at "at") rfl ?_
      intro g14 K14
      have S14 := (S13.keeps K14).drop
      wtm_at "rev"
      wtm_at "go"
      rename_i g15 S15 _ g16 S16
      obtain ⟨bg,hbg⟩ : ∃ bg : Nat,bg = 6 + (writ (lsl X none (some (o.2.1 : Int)))).length := ⟨_,rfl⟩
      obtain ⟨en,hen⟩ : ∃ en : Nat,en = 6 + (writ (lsl X none (some (o.2.2.1 : Int)))).length := ⟨_,rfl⟩
      try dsimp +zetaDelta only [setAt] at S16
      rw [show ((6:Int) + ((writ (lsl X none (some (o.2.1 : Int)))).length : Nat)) = (bg:Int) by lia -zetaDelta] at S16 ⊢
      try dsimp +zetaDelta only [setAt] at S16
      rw [show ((6:Int) + ((writ (lsl X none (some (o.2.2.1 : Int)))).length : Nat)) = (en:Int) by lia -zetaDelta] at S16
      rw [← hbg,← hen] at hed
      intro s5 g17 n17
      have S17 := S16.born n17
      refine O_sslice (S17.mm (by wtm_at "mem")) (by rw [sizeLine_eq]; exact Nat.le_of_lt (Nat.lt_of_le_of_lt hz (by decide))) .none (.int _ _) ?_ (by with_unfolding_all rfl)
      intro tq1
      wtm_at "go"
      intro s6 g18 n18
      have S18 := S17.born n18
      refine O_slice_list (S18.kk hb) (S18.mm (by wtm_at "mem")) (by rw [sizeLine_eq]; lia -zetaDelta) (.int _ _) (.int _ _) ?_ (by with_unfolding_all rfl)
      intro s7 g19 n19
      have S19 := S18.born n19
      wtm_at "go"
      wtm_at "kp"
      refine O_bytes R' (S19.mm (by wtm_at "mem")) (ints_lsl hj _ _) (fun x hx=>oY x (lsl_mem hx)) (by rw [sizeLine_eq]; exact Nat.le_trans (lsl_len _ _ _) (by lia -zetaDelta)) ?_
      intro g20 tb2 K20
      have S20 := S19.keeps K20
      wtm_at "go"
      wtm_at "kp"
      refine hencode_spec (n := n) (Z.up S20.keep) (R'.le (by lia -zetaDelta)) (by exact Nat.le_trans (by assumption) (by assumption)) (fun x hx=>oY x (lsl_mem hx)) ?_
      intro tq2 g21 K21
      have S21 := S20.keeps K21
      wtm_at "go"
      intro s8 g22 n22
      have S22 := S21.born n22
      refine O_sslice (S22.mm (by wtm_at "mem")) (by rw [sizeLine_eq]; lia -zetaDelta) (.int _ _) (.int _ _) ?_ (by with_unfolding_all rfl)
      intro tq3
      have y1 := lsl_len lt none (some (bg:Int))
      have y2 := lsl_len lt (some (en:Int)) none
      have y3 := lsl_len (headL (lsl Y (some (o.2.2.2.1 : Int)) (some (o.2.2.2.2 : Int)))) (some 6) (some (-2))
      refine O_sapp (by rw [sizeLine_eq]; lia -zetaDelta) ?_
      intro tq4
      wtm_at "go"
      intro s9 g23 n23
      have S23 := S22.born n23
      refine O_sslice (S23.mm (by wtm_at "mem")) (by rw [sizeLine_eq]; lia -zetaDelta) (.int _ _) .none ?_ (by with_unfolding_all rfl)
      intro tq5
      refine O_sapp (by rw [sizeLine_eq,List.length_append]; lia -zetaDelta) ?_
      intro tq6
      wtm_at "go"
      rename_i g24 S24
      show InvAt _ _ _ _ _ _ _
      have S25 := S24.subl (M' := (I,_) :: []) (by wtm_at "subl")
      try dsimp +zetaDelta only [setAt] at S25
      rw [← hed,← hnext] at S25
      exact ⟨_,_,_,⟨_,_,_,_,_,_,_,_,rfl,rfl,rfl⟩,S25⟩
  · rintro m N M g ⟨tl,u1,u2,u3,u4,u5,u6,u7,rfl,rfl,rfl⟩ S
    refine S.letm ?_; clear S; intro mS MS S
    try dsimp only
    wtm_at "go"
    wtm_at "f"
    rw [List.take_of_length_le (by simp [hus])]
    exact k _ _ S.keep
end edited_specN
theorem edited_spec : edited_specN.TT := edited_specN.PP.2 fun h n l a b ops X Y Q L env A' h₁=>edited_specN.SS.2 edited_specN.main ((((((((((((h,n),l),a),b),ops),X),Y),Q),L),env),A'),h₁)
end
section
noncomputable def EN (it:Addr) (i:Nat) : OP := fun o=>∃ old,o = { cls := .type "enumerate",dict := none,data := .fields #[.none,.bool false,.ref it,rawInt (i:Nat),.none,old],slots := #[] }
section
variable {A:Around} {K N:Pt} {n₀:Nat} {env:Env} {m m':List (Str × Option Value)} {M M':List (Addr × OP)} {h h':Heap} {cs:List (Str × Addr)} {gl:List (Str × Value)}
theorem St.upd2 {a b:Addr} {P P' R R':OP} (S:St K n₀ env m N ((a,P) :: (b,R) :: M) h) (k:∀ x o,x ≠ a → x ≠ b → h.get? x = some o → h'.get? x = some o) (ha:At h'.get? a P') (hb:At h'.get? b R') : St K n₀ env m N ((a,P') :: (b,R') :: M) h' := by
  have nd := S.nd
  simp only [List.map_cons,List.nodup_cons,List.mem_cons,not_or] at nd
  obtain ⟨⟨n1,n2,n3⟩,⟨n4,n5⟩,n6,n7⟩ := nd
  have hKa : K a = none := S.offMK (a,P) List.mem_cons_self
  have hKb : K b = none := S.offMK (b,R) (List.mem_cons_of_mem _ List.mem_cons_self)
  have hNa : N a = none := S.offMN (a,P) List.mem_cons_self
  have hNb : N b = none := S.offMN (b,R) (List.mem_cons_of_mem _ List.mem_cons_self)
  refine { fn := S.fn,loc := S.loc,ndk := S.ndk,ns := ?_,keep := ?_,per := ?_,led := ?_,newL := S.newL,newN := S.newN,offK := S.offK,offN := S.offN,offMK := ?_,offMN := ?_,nd := ?_ }
  · obtain ⟨mm,hn,e⟩ := S.ns
    exact ⟨mm,hn.at' fun o e=>k _ _ n1 n2 e,e⟩
  · exact fun x o e=>k x o (by rintro rfl; rw [hKa] at e; cases e) (by rintro rfl; rw [hKb] at e; cases e) (S.keep x o e)
  · exact fun x o e=>k x o (by rintro rfl; rw [hNa] at e; cases e) (by rintro rfl; rw [hNb] at e; cases e) (S.per x o e)
  · intro p hp
    rcases List.mem_cons.mp hp with rfl | hp
    · exact ha
    rcases List.mem_cons.mp hp with rfl | hp
    · exact hb
    obtain ⟨o,ho,q⟩ := S.led p (List.mem_cons_of_mem _ (List.mem_cons_of_mem _ hp))
    exact ⟨o,k _ _ (fun e=>n5 (e ▸ List.mem_map_of_mem hp)) (fun e=>n6 (e ▸ List.mem_map_of_mem hp)) ho,q⟩
  · intro p hp
    rcases List.mem_cons.mp hp with rfl | hp
    · exact hKa
    rcases List.mem_cons.mp hp with rfl | hp
    · exact hKb
    exact S.offMK p (List.mem_cons_of_mem _ (List.mem_cons_of_mem _ hp))
  · intro p hp
    rcases List.mem_cons.mp hp with rfl | hp
    · exact hNa
    rcases List.mem_cons.mp hp with rfl | hp
    · exact hNb
    exact S.offMN p (List.mem_cons_of_mem _ (List.mem_cons_of_mem _ hp))
  · exact S.nd
theorem St.add {a:Addr} {P:OP} (S:St K n₀ env m N M h) (hK:K a = none) (hN:N a = none) (hM:∀ p ∈ M,p.1 ≠ a) (hL:env.locals ≠ a) (ha:At h.get? a P) : St K n₀ env m N ((a,P) :: M) h := by
  refine { S with led := ?_,offMK := ?_,offMN := ?_,nd := ?_ }
  · intro p hp; rcases List.mem_cons.mp hp with rfl | hp; exact ha; exact S.led p hp
  · intro p hp; rcases List.mem_cons.mp hp with rfl | hp; exact hK; exact S.offMK p hp
  · intro p hp; rcases List.mem_cons.mp hp with rfl | hp; exact hN; exact S.offMN p hp
  · have nd := S.nd
    simp only [List.map_cons,List.nodup_cons,List.mem_cons,not_or] at nd ⊢
    exact ⟨⟨hL,nd.1⟩,fun e=>by obtain ⟨p,hp,e'⟩ := List.mem_map.mp e; exact hM p hp e',nd.2⟩
theorem St.fresh {a:Addr} (S:St K n₀ env m N M h) (hn:h.get? a = none) : K a = none ∧ N a = none ∧ (∀ p ∈ M,p.1 ≠ a) ∧ env.locals ≠ a := by
  refine ⟨?_,?_,?_,?_⟩
  · cases e : K a with | none=>rfl | some o=>have := S.keep a o e; rw [hn] at this; cases this
  · cases e : N a with | none=>rfl | some o=>have := S.per a o e; rw [hn] at this; cases this
  · rintro p hp rfl; obtain ⟨o,ho,_⟩ := S.led p hp; rw [hn] at ho; cases ho
  · rintro rfl; obtain ⟨o,ho⟩ := S.isL; rw [hn] at ho; cases ho
theorem O_enumerate {l:Addr} {vs:List Value} {Q:Value → Heap → Prop} (S:St K n₀ env m N M h) (hl:At h.get? l (LO vs)) (q:∀ e it h',St K n₀ env m N ((e,EN it 0) :: (it,LI l 0) :: M) h' → Q (.ref e) h') : WP A (call (.type "enumerate") [.ref l]) Q h :=
  WP_lib fun s e=>by
    subst e
    refine call_enumerate_list (LO.isList hl) fun h' he hi hs hk=>⟨_,_,rfl,q _ s.heap.objs.size _ ?_⟩
    obtain ⟨a1,a2,a3,a4⟩ := S.fresh (get?_size_none s.heap)
    have hn2 : s.heap.get? (s.heap.objs.size + 1) = none := by
      cases e : s.heap.get? (s.heap.objs.size + 1) with
      | none=>rfl
      | some o=>exact absurd (Heap.lt_size e) (Nat.not_lt.mpr (Nat.le_succ _))
    obtain ⟨b1,b2,b3,b4⟩ := S.fresh hn2
    have S1 := (S.keeps hk).add (P := LI l 0) a1 a2 a3 a4 hi
    exact S1.add b1 b2 (fun p hp=>by rcases List.mem_cons.mp hp with rfl | hp; exact Nat.ne_of_lt (Nat.lt_succ_self _); exact b3 p hp) b4 ⟨_,he,_,rfl⟩
theorem iter_enum {e it:Addr} {i:Nat} {Q:Value → Heap → Prop} (he:At h.get? e (EN it i)) (q:Q (.ref e) h) : WP A (pyIter (.ref e)) Q h :=
  WP_lib fun s e'=>by
    subst e'
    obtain ⟨o,ho,old,rfl⟩ := he
    exact wpAny_pyIter_enum ho ⟨_,_,rfl,q⟩
inductive InvAt2 (K:Pt) (n₀:Nat) (env:Env) (J:Inv) (e1 e2:Addr × OP) (i:Nat) (h:Heap) : Prop where
  | mk (m:List (Str × Option Value)) (N:Pt) (M:List (Addr × OP)) (hJ:J i m N M) (S:St K n₀ env m N (e1 :: e2 :: M) h)
theorem for_enum {elts:List PySem.Expr} {x1} {p:Pos} {body} {Q:Flow → Heap → Prop} {e it l:Addr} {vs:List Value} (hh:A.handled = none) (J:Inv)
    (S:St K n₀ env m N ((e,EN it 0) :: (it,LI l 0) :: M) h) (hJ:J 0 m N M)
    (hneed:∀ i m N M h P R,J i m N M → St K n₀ env m N ((e,P) :: (it,R) :: M) h → At h.get? l (LO vs))
    (turn:∀ i v t c m N M h,vs[i]? = some v → J i m N M → St K n₀ env m N ((c,TO [.int (i:Nat) t,v]) :: (e,EN it (i + 1)) :: (it,LI l (i + 1)) :: M) h →
      WP A (assign (.Tuple elts x1 p) env (.ref c)) (fun _ h2=>Turn A env body (InvAt2 K n₀ env J (e,EN it (i + 1)) (it,LI l (i + 1)) (i + 1)) Q h2) h)
    (done:∀ m N M h,J vs.length m N M → St K n₀ env m N M h → Q .next h) : ForBody A env (.Tuple elts x1 p) body Q (.ref e) h := by
  refine ⟨fun k h=>∃ i,i ≤ vs.length ∧ k = vs.length - i ∧ InvAt2 K n₀ env J (e,EN it i) (it,LI l i) i h,vs.length,⟨0,Nat.zero_le _,rfl,m,N,M,hJ,S⟩,?_⟩
  rintro k h ⟨i,hi,rfl,m,N,M,hJ,S⟩
  have hn := hneed i m N M h _ _ hJ S
  have nd := S.nd
  simp only [List.map_cons,List.nodup_cons,List.mem_cons,not_or] at nd
  have hne : e ≠ it := nd.2.1.1
  obtain ⟨oe,hoe,old,rfl⟩ := S.led _ List.mem_cons_self
  have hit := S.led (it,LI l i) (List.mem_cons_of_mem _ List.mem_cons_self)
  cases hv : vs[i]? with
  | some v =>
    refine WP_lib fun s e'=>?_
    subst e'
    refine wpAny_pyNext_enum_item (items := vs.toArray) hoe hit (LO.isList hn) (by simpa using hv) hne fun h1 heo hit1 ht1 hz1 hk1=>⟨_,_,rfl,?_⟩
    have hi1 : i < vs.length := (List.getElem?_eq_some_iff.mp hv).1
    have he1 : e < s.heap.objs.size := Heap.lt_size hoe
    show WP A (letOwnedTupleGo (.Tuple elts x1 p) (.ref e) (.ref s.heap.objs.size)) _ _
    refine WP_lib fun s1 e'=>?_
    subst e'
    refine wpAny_letOwnedTupleGo_enum heo fun h2 he2 hs2=>⟨_,_,rfl,?_⟩
    have hk2 : ∀ x o,x ≠ e → x ≠ it → s.heap.get? x = some o → h2.get? x = some o := fun x o ha hb hx=>(hs2.2 x ha).trans (hk1 x o ha hb hx)
    obtain ⟨oi,hoi,hcl,hda⟩ := hit1
    have S2 : St K n₀ env m N ((e,EN it (i + 1)) :: (it,LI l (i + 1)) :: M) h2 := S.upd2 hk2 ⟨_,he2,_,rfl⟩ ⟨oi,(hs2.2 it (Ne.symm hne)).trans hoi,hcl,hda⟩
    obtain ⟨a1,a2,a3,a4⟩ := S.fresh (get?_size_none s.heap)
    have ht2 : At h2.get? s.heap.objs.size (TO [.int (i:Nat) s.toks,v]) := ⟨_,(hs2.2 _ (Nat.ne_of_gt he1)).trans ht1,_,rfl⟩
    have S3 := S2.add a1 a2 (fun p hp=>by
      rcases List.mem_cons.mp hp with rfl | hp
      · exact a3 (e,EN it i) List.mem_cons_self
      rcases List.mem_cons.mp hp with rfl | hp
      · exact a3 (it,LI l i) (List.mem_cons_of_mem _ List.mem_cons_self)
      exact a3 p (List.mem_cons_of_mem _ (List.mem_cons_of_mem _ hp))) a4 ht2
    refine (turn i v _ _ m N M h2 hv hJ S3).mono fun _ h3 t=>?_
    refine WP.mono t fun f h4 q=>?_
    cases f with
    | next=>exact ⟨vs.length - (i + 1),by omega,i + 1,hi1,rfl,q⟩
    | cont=>exact ⟨vs.length - (i + 1),by lia,i + 1,hi1,rfl,q⟩
    | brk=>exact q
    | ret v=>exact q
  | none =>
    have e : i = vs.length := by have := List.getElem?_eq_none_iff.mp hv; exact Nat.le_antisymm hi this
    subst e
    refine WP_lib fun s e'=>?_
    subst e'
    refine wpAny_pyNext_enum_end (items := vs.toArray) hh hoe hit (LO.isList hn) (by simp) fun h1 hk1=>⟨_,_,rfl,?_⟩
    exact done m N M h1 hJ (S.drop.off hk1)
end
end
section
open SetTable
theorem below_go {xs:Array Nat} {j:Nat} (hs:∀ a b,a < b → b < xs.size → xs.getD a 0 < xs.getD b 0) : ∀ (fuel lo hi:Nat),hi - lo ≤ fuel → lo ≤ hi → hi ≤ xs.size → (∀ i,i < lo → xs.getD i 0 < j) → (∀ i,hi ≤ i → i < xs.size → j ≤ xs.getD i 0) →
    ∃ r,SetTable.below.go xs j fuel lo hi = r ∧ r ≤ xs.size ∧ (∀ i,i < r → xs.getD i 0 < j) ∧ (∀ i,r ≤ i → i < xs.size → j ≤ xs.getD i 0) := by
  intro fuel
  have z : ∀ {lo hi:Nat},lo ≤ hi → hi ≤ lo → hi ≤ xs.size → (∀ i,i < lo → xs.getD i 0 < j) → (∀ i,hi ≤ i → i < xs.size → j ≤ xs.getD i 0) → ∃ r,lo = r ∧ r ≤ xs.size ∧ (∀ i,i < r → xs.getD i 0 < j) ∧ (∀ i,r ≤ i → i < xs.size → j ≤ xs.getD i 0) := fun a b h3 h4 h5=>by
    obtain rfl := Nat.le_antisymm a b
    exact ⟨_,rfl,h3,h4,h5⟩
  induction fuel with
  | zero =>
    intro lo hi h1 h2 h3 h4 h5
    exact z h2 (Nat.sub_eq_zero_iff_le.mp (Nat.le_zero.mp h1)) h3 h4 h5
  | succ fuel ih =>
    intro lo hi h1 h2 h3 h4 h5
    unfold SetTable.below.go
    by_cases hl : lo < hi
    · rw [if_pos hl]
      dsimp only
      obtain ⟨m1,m2,m3,m4⟩ := midOk hl h1
      generalize (lo + hi) / 2 = mid at *
      have e : mid < xs.size := Nat.lt_of_lt_of_le m2 h3
      by_cases hm : xs.getD mid j < j
      · rw [if_pos hm]
        have hg : xs.getD mid 0 < j := by simpa [Array.getD,e] using hm
        refine ih (mid + 1) hi m4 m2 h3 (fun i hi'=>?_) h5
        rcases Nat.lt_succ_iff_lt_or_eq.mp hi' with h | rfl
        · exact Nat.lt_trans (hs i _ h e) hg
        · exact hg
      · rw [if_neg hm]
        have hg : j ≤ xs.getD mid 0 := by
          have : ¬ xs.getD mid 0 < j := by simpa [Array.getD,e] using hm
          exact Nat.le_of_not_lt this
        refine ih lo mid m3 m1 (Nat.le_of_lt e) h4 (fun i hi' hi2=>?_)
        rcases Nat.lt_or_eq_of_le hi' with h | rfl
        · exact Nat.le_trans hg (Nat.le_of_lt (hs _ i h hi2))
        · exact hg
    · rw [if_neg hl]
      exact z h2 (Nat.le_of_not_lt hl) h3 h4 h5
theorem below_spec {xs:Array Nat} {j:Nat} (hs:∀ a b,a < b → b < xs.size → xs.getD a 0 < xs.getD b 0) : SetTable.below xs j ≤ xs.size ∧ (∀ i,i < SetTable.below xs j → xs.getD i 0 < j) ∧ (∀ i,SetTable.below xs j ≤ i → i < xs.size → j ≤ xs.getD i 0) := by
  obtain ⟨r,h1,h2⟩ := below_go (xs := xs) (j := j) hs xs.size 0 xs.size (by exact Nat.sub_le _ _) (by exact Nat.zero_le _) (Nat.le_refl _) (fun i h=>by lia) (fun i h1 h2=>by lia)
  unfold SetTable.below
  rw [h1]; exact h2
noncomputable def Rise (xs:Array Nat) : Prop := ∀ a b,a < b → b < xs.size → xs.getD a 0 < xs.getD b 0
theorem getD_some {xs:Array Nat} {i:Nat} (h:i < xs.size) : xs[i]? = some (xs.getD i 0) := by simp [Array.getD,h]
theorem slot_of {t:SetTable} (hd:t.dummies = #[]) (hs:Rise t.place) (j:Nat) :
    (∃ i,i < t.place.size ∧ t.place.getD i 0 = j ∧ t.slot j = .live i) ∨ ((∀ i,i < t.place.size → t.place.getD i 0 ≠ j) ∧ t.slot j = .empty) := by
  obtain ⟨h1,h2,h3⟩ := below_spec (j := j) hs
  unfold SetTable.slot
  dsimp only
  by_cases hb : t.place[below t.place j]? = some j
  · left
    obtain ⟨hlt,he⟩ := Array.getElem?_eq_some_iff.mp hb
    refine ⟨below t.place j,hlt,by simp [Array.getD,hlt,he],?_⟩
    rw [if_pos (by rw [hb]; exact beq_self_eq_true _)]
  · right
    constructor
    · intro i hi e
      apply hb
      rcases Nat.lt_or_ge i (below t.place j) with h | h
      · have := h2 i h; omega
      · rcases Nat.lt_or_ge (below t.place j) i with h' | h'
        · have h5 := h3 _ (Nat.le_refl _) (by exact Nat.lt_of_le_of_lt (by assumption) (by assumption))
          have h6 := hs _ i h' hi
          omega
        · have : i = below t.place j := by exact Nat.le_antisymm h' h
          rw [← this,getD_some hi,e]
    · rw [if_neg (by simpa using hb)]
      have : has t.dummies j = false := by rw [hd]; rfl
      rw [this,if_neg Bool.false_ne_true]
noncomputable def advM (mask:Nat) (p:SetTable.Probe) : SetTable.Probe :=
  if p.more > 0 then { p with j := p.j + 1,more := p.more - 1 } else
  let (i,perturb) := leap mask p.i p.perturb
  { p with j := i,more := runEnd mask i - i,i,perturb }
noncomputable def startM (mask h:Nat) : SetTable.Probe := { j := h % (mask + 1),more := runEnd mask (h % (mask + 1)) - h % (mask + 1),i := h % (mask + 1),perturb := h,dummy := none }
noncomputable def visM (mask:Nat) : Nat → SetTable.Probe → List Nat
  | 0,_=>[]
  | n + 1,p=>p.j :: visM mask n (advM mask p)
noncomputable def bitM (mask:Nat) : Nat → SetTable.Probe → Nat → Nat
  | 0,_,acc=>acc
  | n + 1,p,acc=>bitM mask n (advM mask p) (acc ||| 2 ^ p.j)
theorem bitM_vis {mask:Nat} {j:Nat} : ∀ (n:Nat) (p:SetTable.Probe) (acc:Nat),(bitM mask n p acc).testBit j = true → acc.testBit j = true ∨ j ∈ visM mask n p := by
  intro n
  induction n with
  | zero=>intro p acc h; exact .inl h
  | succ n ih =>
    intro p acc h
    rcases ih _ _ h with h | h
    · rw [Nat.testBit_or,Bool.or_eq_true] at h
      rcases h with h | h
      · exact .inl h
      · rw [Nat.testBit_two_pow] at h
        exact .inr (List.mem_cons.mpr (.inl (show p.j = j by simpa using h).symm))
    · exact .inr (List.mem_cons_of_mem _ h)
theorem bits7 : ((List.range 256).all fun h=>bitM 7 10 (startM 7 h) 0 == 255) = true := by decide +kernel
theorem bits31 : ((List.range 256).all fun h=>bitM 31 240 (startM 31 h) 0 == 4294967295) = true := by decide +kernel
theorem cover7 {h j:Nat} (hh:h < 256) (hj:j < 8) : j ∈ visM 7 10 (startM 7 h) := by
  have := List.all_eq_true.mp bits7 h (List.mem_range.mpr hh)
  rw [beq_iff_eq] at this
  rcases bitM_vis 10 (startM 7 h) 0 (by rw [this,show (255:Nat) = 2 ^ 8 - 1 from rfl,Nat.testBit_two_pow_sub_one]; simpa using hj) with h | h
  · simp at h
  · exact h
theorem cover31 {h j:Nat} (hh:h < 256) (hj:j < 32) : j ∈ visM 31 240 (startM 31 h) := by
  have := List.all_eq_true.mp bits31 h (List.mem_range.mpr hh)
  rw [beq_iff_eq] at this
  rcases bitM_vis 240 (startM 31 h) 0 (by rw [this,show (4294967295:Nat) = 2 ^ 32 - 1 from rfl,Nat.testBit_two_pow_sub_one]; simpa using hj) with h | h
  · simp at h
  · exact h
theorem probe_go {t:SetTable} (hd:t.dummies = #[]) (hs:Rise t.place) (h:Int) : ∀ (n fuel:Nat) (p:SetTable.Probe),n ≤ fuel → p.dummy = none → (∃ j ∈ visM t.mask n p,∀ i,i < t.place.size → t.place.getD i 0 ≠ j) →
    ∃ j,SetTable.probe.go t (fun _=>h + 1) h fuel p = some (.empty j none) ∧ (∀ i,i < t.place.size → t.place.getD i 0 ≠ j) ∧ j ∈ visM t.mask n p := by
  intro n
  induction n with
  | zero=>intro fuel p _ _ ⟨j,hj,_⟩; simp [visM] at hj
  | succ n ih =>
    intro fuel p hf hp ⟨j,hj,hfree⟩
    obtain ⟨fuel,rfl⟩ : ∃ f,fuel = f + 1 := ⟨fuel - 1,by lia⟩
    unfold SetTable.probe.go
    rcases slot_of hd hs p.j with ⟨i,hi,he,hsl⟩ | ⟨hfr,hsl⟩
    · rw [hsl]
      dsimp only
      rw [if_neg (by simp; lia)]
      have hadv : t.advance p = advM t.mask p := rfl
      rw [hadv]
      have hj' : j ∈ visM t.mask n (advM t.mask p) := by
        rcases List.mem_cons.mp hj with e | e
        · exact absurd (he.trans e.symm) (hfree i hi)
        · exact e
      have hp' : (advM t.mask p).dummy = none := by
        unfold advM
        split
        · exact hp
        · exact hp
      obtain ⟨r,h1,h2,h3⟩ := ih fuel (advM t.mask p) (by exact Nat.le_of_lt_succ ‹_›) hp' ⟨j,hj',hfree⟩
      exact ⟨r,h1,h2,List.mem_cons_of_mem _ h3⟩
    · rw [hsl]
      exact ⟨p.j,by rw [hp],hfr,List.mem_cons_self⟩
theorem vis_le {mask:Nat} : ∀ (n:Nat) (p:SetTable.Probe),p.j + p.more ≤ mask → ∀ j ∈ visM mask n p,j ≤ mask := by
  intro n
  induction n with
  | zero=>intro p _ j hj; simp [visM] at hj
  | succ n ih =>
    intro p hp j hj
    rcases List.mem_cons.mp hj with rfl | hj
    · exact Nat.le_trans (Nat.le_add_right _ _) hp
    · refine ih (advM mask p) ?_ j hj
      unfold advM
      split
      · dsimp only; lia
      · have h1 : (leap mask p.i p.perturb).1 < mask + 1 := Nat.mod_lt _ (by exact Nat.succ_pos _)
        dsimp only
        unfold runEnd
        split <;> lia
theorem room {xs:Array Nat} (hs:Rise xs) {mask:Nat} (hz:xs.size ≤ mask) : ∃ j,j ≤ mask ∧ ∀ i,i < xs.size → xs.getD i 0 ≠ j := by
  have ge : ∀ i,i < xs.size → i ≤ xs.getD i 0 := by
    intro i
    induction i with
    | zero=>intro _; exact Nat.zero_le _
    | succ i ih=>intro h; have := ih (by exact Nat.le_of_lt ‹_›); have := hs i (i + 1) (by exact Nat.le_refl _) h; exact Nat.lt_of_le_of_lt (by assumption) (by assumption)
  by_cases hall : ∀ i,i < xs.size → xs.getD i 0 = i
  · exact ⟨xs.size,hz,fun i hi=>by rw [hall i hi]; exact Nat.ne_of_lt hi⟩
  · have : ∃ i,i < xs.size ∧ xs.getD i 0 ≠ i := by
      refine Classical.byContradiction fun hc=>hall fun i hi=>Classical.byContradiction fun hn=>hc ⟨i,hi,hn⟩
    obtain ⟨i,hi,hne⟩ := this
    have first : ∀ n,n < xs.size → xs.getD n 0 ≠ n → ∃ m,m ≤ n ∧ xs.getD m 0 ≠ m ∧ ∀ k,k < m → xs.getD k 0 = k := by
      intro n
      induction n using Nat.strongRecOn with
      | _ n ih =>
        intro hn hne
        by_cases hb : ∃ k,k < n ∧ xs.getD k 0 ≠ k
        · obtain ⟨k,hk,hk2⟩ := hb
          obtain ⟨m,h1,h2,h3⟩ := ih k hk (Nat.lt_trans hk hn) hk2
          exact ⟨m,by exact Nat.le_of_lt (Nat.lt_of_le_of_lt h1 hk),h2,h3⟩
        · exact ⟨n,Nat.le_refl _,hne,fun k hk=>Classical.byContradiction fun h=>hb ⟨k,hk,h⟩⟩
    obtain ⟨m,h1,h2,h3⟩ := first i hi hne
    have hm := ge m (by exact Nat.lt_of_le_of_lt (by assumption) (by assumption))
    refine ⟨m,by exact Nat.le_of_lt (Nat.lt_of_le_of_lt h1 (Nat.lt_of_lt_of_le hi hz)),fun k hk e=>?_⟩
    rcases Nat.lt_or_ge k m with h | h
    · have := h3 k h; exact absurd h (Nat.not_lt_of_le (Nat.le_trans (Nat.le_of_eq e.symm) (Nat.le_of_eq this)))
    · rcases Nat.lt_or_ge m k with h' | h'
      · have := hs m k h' hk; exact absurd this (Nat.not_lt_of_le (Nat.le_trans (Nat.le_of_eq e) hm))
      · have : k = m := by exact Nat.le_antisymm h' h
        rw [this] at e; exact h2 e
theorem freeSlot_ok {t:SetTable} (hd:t.dummies = #[]) (hs:Rise t.place) (hz:t.place.size ≤ t.mask) (hm:t.mask = 7 ∨ t.mask = 31) {n:Int} (h0:0 ≤ n) (h1:n < 256) :
    ∃ j,t.freeSlot n = some (j,false) ∧ j ≤ t.mask ∧ ∀ i,i < t.place.size → t.place.getD i 0 ≠ j := by
  obtain ⟨j,hj,hfree⟩ := room hs hz
  have hb : bits n = n.toNat := by unfold bits; congr 1; exact Int.emod_eq_of_lt h0 (by lia)
  have hst : t.probeStart n = startM t.mask n.toNat := by unfold probeStart startM; rw [hb]
  have key : ∃ N,N ≤ 10 * turns t.mask ∧ j ∈ visM t.mask N (startM t.mask n.toNat) := by
    rcases hm with e | e
    · rw [e] at hj ⊢; exact ⟨10,by decide,cover7 (by lia) (by exact Nat.lt_succ_of_le ‹_›)⟩
    · rw [e] at hj ⊢; exact ⟨240,by decide,cover31 (by lia) (by exact Nat.lt_succ_of_le ‹_›)⟩
  obtain ⟨N,hN,hv⟩ := key
  obtain ⟨r,h2,h3,h4⟩ := probe_go hd hs n N (10 * turns t.mask) (startM t.mask n.toNat) hN rfl ⟨j,hv,hfree⟩
  refine ⟨r,?_,?_,h3⟩
  · unfold freeSlot probe
    rw [hst,h2]; rfl
  · refine vis_le N _ ?_ r h4
    have : n.toNat % (t.mask + 1) < t.mask + 1 := Nat.mod_lt _ (by exact Nat.succ_pos _)
    unfold startM runEnd
    dsimp only
    split <;> lia
end
section
open SetTable
theorem insertAt_toList {α:Type} (xs:Array α) (p:Nat) (x:α) : (insertAt xs p x).toList = xs.toList.take p ++ x :: xs.toList.drop p := by
  unfold insertAt
  simp
  exact List.take_of_length_le (by simp)
theorem insertAt_size {α:Type} (xs:Array α) (p:Nat) (x:α) (hp:p ≤ xs.size) : (insertAt xs p x).size = xs.size + 1 := by
  rw [← Array.length_toList,insertAt_toList,List.length_append,List.length_cons,List.length_take,List.length_drop,Array.length_toList,Nat.min_eq_left hp,← Nat.add_assoc,Nat.add_sub_cancel' hp]
theorem insertAt_getD {xs:Array Nat} {p x:Nat} (hp:p ≤ xs.size) (i:Nat) (hi:i < xs.size + 1) : (insertAt xs p x).getD i 0 = if i < p then xs.getD i 0 else if i = p then x else xs.getD (i - 1) 0 := by
  have e : ∀ (ys:Array Nat) (k:Nat),ys.getD k 0 = (ys.toList[k]?).getD 0 := fun ys k=>by simp [Array.getD_eq_getD_getElem?]
  rw [e,insertAt_toList,e,e]
  have hl : (xs.toList.take p).length = p := by rw [List.length_take,Array.length_toList]; exact Nat.min_eq_left hp
  by_cases h1 : i < p
  · rw [if_pos h1,List.getElem?_append_left (by rw [hl]; exact h1),List.getElem?_take_of_lt h1]
  · rw [if_neg h1,List.getElem?_append_right (by rw [hl]; exact Nat.le_of_not_lt h1),hl]
    by_cases h2 : i = p
    · rw [if_pos h2,h2]; simp
    · rw [if_neg h2]
      obtain ⟨k,hk⟩ : ∃ k,i - p = k + 1 := ⟨i - p - 1,(Nat.sub_add_cancel (Nat.sub_pos_of_lt (Nat.lt_of_le_of_ne (Nat.le_of_not_lt h1) (Ne.symm h2)))).symm⟩
      rw [hk,List.getElem?_cons_succ,List.getElem?_drop,show p + k = i - 1 by rw [← Nat.add_sub_cancel' (Nat.le_of_not_lt h1),hk]; rfl]
theorem rise_insert {xs:Array Nat} {j:Nat} (hs:Rise xs) (hj:∀ i,i < xs.size → xs.getD i 0 ≠ j) : Rise (insertAt xs (below xs j) j) := by
  obtain ⟨h1,h2,h3⟩ := below_spec (j := j) hs
  intro a b hab hb
  rw [insertAt_size _ _ _ h1] at hb
  rw [insertAt_getD h1 a (Nat.lt_trans hab hb),insertAt_getD h1 b hb]
  have hb := Nat.le_of_lt_succ hb
  have hlt : ∀ i,below xs j ≤ i → i < xs.size → j < xs.getD i 0 := fun i hi hi2=>Nat.lt_of_le_of_ne (h3 i hi hi2) (fun e=>hj i hi2 e.symm)
  have pr : ∀ {c:Nat},below xs j < c → c ≤ xs.size → below xs j ≤ c - 1 ∧ c - 1 < xs.size := fun {c} u v=>⟨Nat.le_sub_one_of_lt u,Nat.lt_of_lt_of_le (Nat.sub_lt (Nat.lt_of_le_of_lt (Nat.zero_le _) u) Nat.one_pos) v⟩
  by_cases c1 : a < below xs j
  · rw [if_pos c1]
    by_cases c2 : b < below xs j
    · rw [if_pos c2]; exact hs a b hab (Nat.lt_of_lt_of_le c2 h1)
    · rw [if_neg c2]
      by_cases c3 : b = below xs j
      · rw [if_pos c3]; exact h2 a c1
      · rw [if_neg c3]
        obtain ⟨u,v⟩ := pr (Nat.lt_of_le_of_ne (Nat.le_of_not_lt c2) (Ne.symm c3)) hb
        exact Nat.lt_trans (h2 a c1) (hlt (b - 1) u v)
  · have c1 := Nat.le_of_not_lt c1
    have c4 := Nat.lt_of_le_of_lt c1 hab
    obtain ⟨u,v⟩ := pr c4 hb
    rw [if_neg (Nat.not_lt_of_le c1),if_neg (Nat.not_lt_of_le (Nat.le_of_lt c4)),if_neg (Nat.ne_of_gt c4)]
    by_cases c3 : a = below xs j
    · rw [if_pos c3]; exact hlt (b - 1) u v
    · rw [if_neg c3]; exact hs (a - 1) (b - 1) (Nat.sub_lt_sub_right (Nat.lt_of_le_of_lt (Nat.zero_le _) (Nat.lt_of_le_of_ne c1 (Ne.symm c3))) hab) v
end
section
open SetTable
noncomputable def runsM (mask:Nat) : Nat → Nat → Nat → List Nat
  | 0,_,_=>[]
  | n + 1,i,per=>((List.range (runEnd mask i + 1 - i)).map (i + ·)) ++ runsM mask n (leap mask i per).1 (leap mask i per).2
noncomputable def bitR (mask:Nat) : Nat → Nat → Nat → Nat → Nat
  | 0,_,_,acc=>acc
  | n + 1,i,per,acc=>bitR mask n (leap mask i per).1 (leap mask i per).2 ((List.range (runEnd mask i + 1 - i)).foldl (fun acc k=>acc ||| 2 ^ (i + k)) acc)
theorem foldl_or {l:List Nat} {i j:Nat} : ∀ acc : Nat,(l.foldl (fun acc k=>acc ||| 2 ^ (i + k)) acc).testBit j = true → acc.testBit j = true ∨ j ∈ l.map (i + ·) := by
  induction l with
  | nil=>intro acc h; exact .inl h
  | cons a l ih =>
    intro acc h
    rcases ih _ h with h | h
    · rw [Nat.testBit_or,Bool.or_eq_true] at h
      rcases h with h | h
      · exact .inl h
      · rw [Nat.testBit_two_pow] at h
        exact .inr (List.mem_cons.mpr (.inl (show i + a = j by simpa using h).symm))
    · exact .inr (List.mem_cons_of_mem _ h)
theorem bitR_runs {mask j:Nat} : ∀ (n i per acc:Nat),(bitR mask n i per acc).testBit j = true → acc.testBit j = true ∨ j ∈ runsM mask n i per := by
  intro n
  induction n with
  | zero=>intro i per acc h; exact .inl h
  | succ n ih =>
    intro i per acc h
    rcases ih _ _ _ h with h | h
    · rcases foldl_or _ h with h | h
      · exact .inl h
      · exact .inr (List.mem_append_left _ h)
    · exact .inr (List.mem_append_right _ h)
theorem bitsR : ((List.range 256).all fun h=>bitR 31 46 (h % 32) h 0 == 4294967295) = true := by decide +kernel
theorem coverR {h j:Nat} (hh:h < 256) (hj:j < 32) : j ∈ runsM 31 46 (h % 32) h := by
  have := List.all_eq_true.mp bitsR h (List.mem_range.mpr hh)
  rw [beq_iff_eq] at this
  rcases bitR_runs 46 (h % 32) h 0 (by rw [this,show (4294967295:Nat) = 2 ^ 32 - 1 from rfl,Nat.testBit_two_pow_sub_one]; simpa using hj) with h | h
  · simp at h
  · exact h
theorem free_go {mask:Nat} {owner:Array (Option Nat)} : ∀ (n fuel i per:Nat),n ≤ fuel → (∃ j ∈ runsM mask n i per,owner.getD j (some 0) = none) → ∃ j,layClean.free mask owner fuel i per = some j ∧ owner.getD j (some 0) = none := by
  intro n
  induction n with
  | zero=>intro fuel i per _ ⟨j,hj,_⟩; simp [runsM] at hj
  | succ n ih =>
    intro fuel i per hf ⟨j,hj,hn⟩
    obtain ⟨fuel,rfl⟩ : ∃ f,fuel = f + 1 := ⟨fuel - 1,by lia⟩
    unfold layClean.free
    cases hfind : (List.range (runEnd mask i + 1 - i)).find? (fun k=>(owner.getD (i + k) (some 0)).isNone) with
    | some k =>
      refine ⟨i + k,rfl,?_⟩
      have := List.find?_some hfind
      simpa using this
    | none =>
      dsimp only
      refine ih fuel _ _ (by lia) ⟨j,?_,hn⟩
      rcases List.mem_append.mp hj with h | h
      · obtain ⟨k,hk,rfl⟩ := List.mem_map.mp h
        have := List.find?_eq_none.mp hfind k hk
        rw [hn] at this
        simp at this
      · exact h
end
section
open SetTable
noncomputable def occ (o:Array (Option Nat)) : List Nat := (List.range 32).filterMap fun j=>o.getD j none
theorem fm_congr {f g:Nat → Option Nat} : ∀ {l:List Nat},(∀ i ∈ l,f i = g i) → l.filterMap f = l.filterMap g := by
  intro l
  induction l with
  | nil=>intro _; rfl
  | cons a l ih=>intro h; rw [List.filterMap_cons,List.filterMap_cons,h a List.mem_cons_self,ih fun i hi=>h i (List.mem_cons_of_mem _ hi)]
theorem occ_split {o:Array (Option Nat)} {j:Nat} (hj:j < 32) : occ o = ((List.range j).filterMap fun j=>o.getD j none) ++ ((o.getD j none).toList ++ ((List.range' (j + 1) (31 - j)).filterMap fun j=>o.getD j none)) := by
  have e : List.range 32 = List.range j ++ (j :: List.range' (j + 1) (31 - j)) := by
    rw [List.range_eq_range',List.range_eq_range',← List.range'_succ,show 31 - j + 1 = 32 - j by lia]
    have := @List.range'_append_1 0 j (32 - j)
    rw [Nat.zero_add] at this
    rw [this,show j + (32 - j) = 32 by lia]
  unfold occ
  rw [e,List.filterMap_append,List.filterMap_cons]
  cases o.getD j none <;> rfl
theorem occ_set {o:Array (Option Nat)} {j k:Nat} (hz:o.size = 32) (hj:j < 32) (hn:o.getD j none = none) : (occ (o.setIfInBounds j (some k))).Perm (k :: occ o) := by
  rw [occ_split hj,occ_split (o := o) hj,hn]
  have same : ∀ i,i ≠ j → (o.setIfInBounds j (some k)).getD i none = o.getD i none := fun i hi=>by
    simp [Array.getD_eq_getD_getElem?,Array.getElem?_setIfInBounds,Ne.symm hi]
  have here : (o.setIfInBounds j (some k)).getD j none = some k := by
    simp [Array.getD_eq_getD_getElem?,Array.getElem?_setIfInBounds,hz,hj]
  rw [here]
  have e1 : ((List.range j).filterMap fun i=>(o.setIfInBounds j (some k)).getD i none) = ((List.range j).filterMap fun i=>o.getD i none) :=
    fm_congr fun i hi=>same i (by have := List.mem_range.mp hi; lia)
  have e2 : ((List.range' (j + 1) (31 - j)).filterMap fun i=>(o.setIfInBounds j (some k)).getD i none) = ((List.range' (j + 1) (31 - j)).filterMap fun i=>o.getD i none) :=
    fm_congr fun i hi=>same i (by have := List.mem_range'_1.mp hi; lia)
  rw [e1,e2]
  simpa using List.perm_middle
theorem occ_room {o:Array (Option Nat)} (hz:o.size = 32) (hl:(occ o).length < 32) : ∃ j,j < 32 ∧ o.getD j (some 0) = none := by
  refine Classical.byContradiction fun hc=>?_
  have hall : ∀ j,j < 32 → ∃ v,o.getD j none = some v := by
    intro j hj
    cases e : o.getD j none with
    | some v=>exact ⟨v,rfl⟩
    | none =>
      refine absurd ⟨j,hj,?_⟩ hc
      have hs : j < o.size := by lia
      simp [Array.getD,hs] at e ⊢
      exact e
  have : ∀ l : List Nat,(∀ j ∈ l,j < 32) → (l.filterMap fun j=>o.getD j none).length = l.length := by
    intro l
    induction l with
    | nil=>intro _; rfl
    | cons a l ih =>
      intro h
      obtain ⟨v,hv⟩ := hall a (h a List.mem_cons_self)
      rw [List.filterMap_cons,hv]
      show (List.filterMap _ l).length + 1 = l.length + 1
      rw [ih fun j hj=>h j (List.mem_cons_of_mem _ hj)]
  have := this (List.range 32) (fun j hj=>List.mem_range.mp hj)
  unfold occ at hl
  rw [this] at hl
  simp at hl
theorem lay_fold : ∀ (hs:List Int) (o:Array (Option Nat)) (k:Nat),o.size = 32 → (occ o).Perm (List.range k) → k + hs.length ≤ 31 → (∀ h ∈ hs,0 ≤ h ∧ h < 256) →
    ∃ o',hs.foldl (init := some (o,k)) (fun acc h=>do
      let (owner,k) ← acc
      let j ← layClean.free 31 owner (turns 31) (bits h % (31 + 1)) (bits h)
      pure (owner.setIfInBounds j (some k),k + 1)) = some (o',k + hs.length) ∧ o'.size = 32 ∧ (occ o').Perm (List.range (k + hs.length)) := by
  intro hs
  induction hs with
  | nil=>intro o k h1 h2 _ _; exact ⟨o,rfl,h1,h2⟩
  | cons h hs ih =>
    intro o k h1 h2 h3 h4
    have hl : (occ o).length < 32 := by rw [h2.length_eq,List.length_range]; simp at h3; lia
    obtain ⟨j,hj,hn⟩ := occ_room h1 hl
    obtain ⟨g1,g2⟩ := h4 h List.mem_cons_self
    have hb : bits h = h.toNat := by unfold bits; congr 1; exact Int.emod_eq_of_lt g1 (by lia)
    obtain ⟨r,hr,hrn⟩ := free_go (mask := 31) (owner := o) 46 (turns 31) (h.toNat % 32) h.toNat (by decide) ⟨j,coverR (by lia) hj,hn⟩
    have hr32 : r < 32 := by
      refine Classical.byContradiction fun hc=>?_
      have : ¬ r < o.size := by lia
      simp [Array.getD,this] at hrn
    have hrn' : o.getD r none = none := by
      have : r < o.size := by lia
      simp [Array.getD,this] at hrn ⊢
      exact hrn
    have hp : (occ (o.setIfInBounds r (some k))).Perm (List.range (k + 1)) := by
      rw [List.range_succ]
      exact ((occ_set h1 hr32 hrn').trans (List.Perm.cons k h2)).trans (List.perm_append_singleton k _).symm
    obtain ⟨o',e1,e2,e3⟩ := ih (o.setIfInBounds r (some k)) (k + 1) (by simpa using h1) hp (by simp at h3; lia) (fun x hx=>h4 x (List.mem_cons_of_mem _ hx))
    have ek : k + (h :: hs).length = k + 1 + hs.length := by simp; lia
    rw [ek]
    refine ⟨o',?_,e2,e3⟩
    rw [List.foldl_cons,← e1]
    congr 1
    show (do let j ← layClean.free 31 o (turns 31) (bits h % (31 + 1)) (bits h); pure (o.setIfInBounds j (some k),k + 1)) = _
    rw [hb,hr]
    rfl
end
section
open SetTable
theorem occ_replicate : occ (Array.replicate 32 none) = [] := by decide
theorem layClean_ok {hashes:Array Int} (hn:hashes.size ≤ 31) (hh:∀ h ∈ hashes.toList,0 ≤ h ∧ h < 256) : ∃ o,layClean 31 hashes = some o ∧ o.size = 32 ∧ (occ o).Perm (List.range hashes.size) := by
  obtain ⟨o,e1,e2,e3⟩ := lay_fold hashes.toList (Array.replicate 32 none) 0 (by simp) (by rw [occ_replicate]; exact .refl _) (by simpa using hn) hh
  refine ⟨o,?_,e2,by simpa using e3⟩
  unfold layClean
  rw [← Array.foldl_toList]
  have e : (hashes.toList.foldl (init := some (Array.replicate (31 + 1) none,0)) fun acc h=>do
      let (owner,k) ← acc
      let j ← layClean.free 31 owner (turns 31) (bits h % (31 + 1)) (bits h)
      pure (owner.setIfInBounds j (some k),k + 1)) = some (o,0 + hashes.toList.length) := e1
  exact (congrArg (Option.map (·.1)) e).trans rfl
noncomputable def liveOf (o:Array (Option Nat)) : List (Nat × Nat) := (List.range 32).filterMap fun j=>(o.getD j none).map (j,·)
theorem live_snd (o:Array (Option Nat)) : (liveOf o).map (·.2) = occ o := by
  unfold liveOf occ
  induction List.range 32 with
  | nil=>rfl
  | cons a l ih =>
    rw [List.filterMap_cons,List.filterMap_cons]
    cases o.getD a none with
    | none=>exact ih
    | some v=>show v :: List.map _ _ = v :: _; rw [ih]
theorem live_fst_sub (o:Array (Option Nat)) : ((liveOf o).map (·.1)).Sublist (List.range 32) := by
  unfold liveOf
  induction List.range 32 with
  | nil=>exact .slnil
  | cons a l ih =>
    rw [List.filterMap_cons]
    cases o.getD a none with
    | none=>exact .cons _ ih
    | some v=>exact .cons_cons _ ih
theorem rise_of_pairwise {l:List Nat} (h:l.Pairwise (· < ·)) : Rise l.toArray := by
  intro a b hab hb
  have hb' : b < l.length := by simpa using hb
  have := (List.pairwise_iff_getElem.mp h) a b (by lia) hb' hab
  simp [Array.getD,show a < l.length by lia,hb',this]
theorem relaid_ok {t:SetTable} {hashes:Array Int} {wanted:Nat} (hw:sizeAbove wanted - 1 = 31) (hn:hashes.size ≤ 31) (hh:∀ h ∈ hashes.toList,0 ≤ h ∧ h < 256) :
    ∃ t' order,t.relaid hashes wanted = some (t',order) ∧ t'.mask = 31 ∧ t'.dummies = #[] ∧ t'.led = t.led ∧ t'.plain = t.plain ∧ Rise t'.place ∧ t'.place.size = hashes.size ∧ (∀ i,i < t'.place.size → t'.place.getD i 0 ≤ 31) ∧ order.toList.Perm (List.range hashes.size) := by
  obtain ⟨o,e1,e2,e3⟩ := layClean_ok hn hh
  have hlen : (liveOf o).length = hashes.size := by
    have := congrArg List.length (live_snd o)
    rw [List.length_map] at this
    rw [this,e3.length_eq,List.length_range]
  refine ⟨{ mask := 31,place := ((liveOf o).map (·.1)).toArray,dummies := #[],finger := t.finger,led := t.led,moves := t.movedTo 31,plain := t.plain },((liveOf o).map (·.2)).toArray,?_,?_⟩
  · unfold relaid laid
    rw [hw,e1]
    rfl
  · have hp : ((liveOf o).map (·.1)).Pairwise (· < ·) := List.pairwise_lt_range.sublist (live_fst_sub o)
    refine ⟨rfl,rfl,rfl,rfl,rise_of_pairwise hp,by simp [hlen],fun i hi=>?_,by simpa [live_snd] using e3⟩
    have hi' : i < ((liveOf o).map (·.1)).length := by simpa using hi
    have := (live_fst_sub o).subset (List.getElem_mem hi')
    have := List.mem_range.mp this
    simp only [Array.getD,List.size_toArray,hi',dif_pos]
    simp at this ⊢
    lia
end
section
open SetTable
structure TabOk (b:Bool) (t:SetTable) (n:Nat) : Prop where
  dum : t.dummies = #[]
  led : t.led = b
  plain : t.plain = true
  rise : Rise t.place
  sz : t.place.size = n
  bd : ∀ i,i < t.place.size → t.place.getD i 0 ≤ t.mask
  cap : (t.mask = 7 ∧ n ≤ 4) ∨ (t.mask = 31 ∧ n ≤ 18)
theorem TabOk.fresh {b:Bool} {finger moves:Nat} : TabOk b (SetTable.fresh finger moves b) 0 :=
  ⟨rfl,rfl,rfl,fun a b _ h=>by simp [SetTable.fresh] at h,rfl,fun i h=>by simp [SetTable.fresh] at h,.inl ⟨rfl,by lia⟩⟩
theorem put_ok {b:Bool} {t:SetTable} {n j:Nat} (T:TabOk b t n) (hj:j ≤ t.mask) (hf:∀ i,i < t.place.size → t.place.getD i 0 ≠ j) (hroom:n + 1 ≤ t.mask) :
    (t.put j).2 ≤ n ∧ (t.put j).1.mask = t.mask ∧ (t.put j).1.dummies = #[] ∧ (t.put j).1.led = b ∧ (t.put j).1.plain = true ∧ Rise (t.put j).1.place ∧ (t.put j).1.place.size = n + 1 ∧ (∀ i,i < (t.put j).1.place.size → (t.put j).1.place.getD i 0 ≤ t.mask) ∧ (t.put j).1.fits (n + 1) = true := by
  obtain ⟨h1,_,_⟩ := below_spec (j := j) T.rise
  have hs : (insertAt t.place (below t.place j) j).size = n + 1 := by rw [insertAt_size _ _ _ h1,T.sz]
  have hd : has t.dummies j = false := by rw [T.dum]; rfl
  have hdm : (t.put j).1.dummies = #[] := by
    show (if has t.dummies j = true then _ else t.dummies) = _
    rw [hd,if_neg Bool.false_ne_true,T.dum]
  refine ⟨by rw [← T.sz]; exact h1,rfl,hdm,T.led,T.plain,rise_insert T.rise hf,hs,fun i hi=>?_,?_⟩
  · have hi' : i < t.place.size + 1 := by have : i < (insertAt t.place (below t.place j) j).size := hi; rw [hs] at this; rw [T.sz]; exact this
    show (insertAt t.place (below t.place j) j).getD i 0 ≤ _
    rw [insertAt_getD h1 i hi']
    split
    · exact T.bd i (by lia)
    · split
      · exact hj
      · exact T.bd (i - 1) (by lia)
  · unfold PySem.SetTable.fits PySem.SetTable.fill
    rw [hdm]
    have : (t.put j).1.place.size = n + 1 := hs
    rw [this]
    have : (t.put j).1.mask = t.mask := rfl
    rw [this]
    simp
    exact hroom
theorem layNew_ok {b:Bool} {t:SetTable} {es:Array (Int × Value)} {n:Int} {x:Value} (T:TabOk b t es.size) (h0:0 ≤ n) (h1:n < 256) :
    ∃ p t',layNew t es n x = (insertAt es p (n,x),t',false,false) ∧ p ≤ es.size ∧ t'.mask = t.mask ∧ t'.dummies = #[] ∧ t'.led = b ∧ t'.plain = true ∧ Rise t'.place ∧ t'.place.size = es.size + 1 ∧ (∀ i,i < t'.place.size → t'.place.getD i 0 ≤ t.mask) := by
  have hm : t.mask = 7 ∨ t.mask = 31 := by rcases T.cap with h | h; exact .inl h.1; exact .inr h.1
  have hr : es.size + 1 ≤ t.mask := by rcases T.cap with h | h <;> lia
  obtain ⟨j,hj,hjm,hf⟩ := freeSlot_ok T.dum T.rise (by rw [T.sz]; lia) hm h0 h1
  obtain ⟨p1,p2,p3,p4,p5,p6,p7,p8,p9⟩ := put_ok T hjm hf hr
  have hsz : (insertAt es (t.put j).2 (n,x)).size = es.size + 1 := insertAt_size _ _ _ p1
  refine ⟨(t.put j).2,(t.put j).1,?_,p1,p2,p3,p4,p5,p6,p7,p8⟩
  unfold layNew
  rw [hj]
  show (insertAt es (t.put j).2 (n,x),(t.put j).1.orStandIn (insertAt es (t.put j).2 (n,x)).size,false,!(t.put j).1.fits (insertAt es (t.put j).2 (n,x)).size) = _
  rw [hsz,p9]
  unfold orStandIn
  rw [p9,if_pos rfl]
  rfl
end
section
open PySem.SetTable
theorem range_fm {α:Type} (l:List α) : (List.range l.length).filterMap (l[·]?) = l := by
  induction l with
  | nil=>rfl
  | cons a l ih =>
    rw [List.length_cons,List.range_succ_eq_map,List.filterMap_cons]
    simp only [List.getElem?_cons_zero]
    rw [List.filterMap_map]
    congr 1
theorem relayAll_ok {b:Bool} {t:SetTable} {es:Array (Int × Value)} {wanted:Nat} (hw:sizeAbove wanted - 1 = 31) (hl:t.led = b) (hp:t.plain = true) (hn:es.size ≤ 18) (hh:∀ e ∈ es.toList,0 ≤ e.1 ∧ e.1 < 256) :
    ∃ es' t',relayAll t es wanted = (es',t',false) ∧ es'.toList.Perm es.toList ∧ TabOk b t' es.size := by
  obtain ⟨t',order,e1,e2,e3,e4,e5,e6,e7,e8,e9⟩ := relaid_ok (t := t) (hashes := es.map (·.1)) (wanted := wanted) hw (by simp; lia) (fun h hm=>by
    simp at hm
    obtain ⟨v,hv⟩ := hm
    exact hh (h,v) (by simpa using hv))
  have hsz : (es.map (·.1)).size = es.size := by simp
  rw [hsz] at e7 e9
  have hperm : (order.filterMap (es[·]?)).toList.Perm es.toList := by
    have h1 : (order.filterMap (es[·]?)).toList = order.toList.filterMap (es.toList[·]?) := by simp
    rw [h1]
    refine (e9.filterMap _).trans ?_
    have := range_fm es.toList
    rw [Array.length_toList] at this
    rw [this]
  have hlen : (order.filterMap (es[·]?)).size = es.size := by
    have := hperm.length_eq
    rw [Array.length_toList,Array.length_toList] at this
    exact this
  refine ⟨order.filterMap (es[·]?),t',?_,hperm,⟨e3,e4.trans hl,e5.trans hp,e6,e7,fun i hi=>by rw [e2]; exact e8 i hi,.inr ⟨e2,hn⟩⟩⟩
  unfold relayAll
  rw [e1]
  have c1 : coversAll order es.size = true := by unfold coversAll; exact List.isPerm_iff.mpr e9
  have c2 : t'.fits (order.filterMap (es[·]?)).size = true := by
    rw [hlen]
    unfold PySem.SetTable.fits PySem.SetTable.fill
    rw [e3,e7,e2]
    simp
    lia
  show (if (coversAll order es.size && t'.fits (order.filterMap (es[·]?)).size) = true then _ else _) = _
  rw [c1,c2]
  rfl
end
section
open PySem.SetTable
noncomputable def addPure (t:SetTable) (es:Array (Int × Value)) (n:Int) (x:Value) : Array (Int × Value) × SetTable × Bool :=
  let (es1,t1,d,g) := layNew t es n x
  if (!d && t1.tooFull) = true then (let (es2,t2,g2) := relayAll t1 es1 (SetTable.grown es1.size); (es2,t2,g || g2)) else (es1,t1,g)
theorem insertAt_perm {α:Type} (xs:Array α) (p:Nat) (x:α) : (insertAt xs p x).toList.Perm (x :: xs.toList) := by
  rw [insertAt_toList]
  refine List.perm_middle.trans (List.Perm.cons x ?_)
  rw [List.take_append_drop]
theorem full_iff {t:SetTable} (hd:t.dummies = #[]) : t.tooFull = decide (t.place.size * 5 ≥ t.mask * 3) := by
  unfold PySem.SetTable.tooFull PySem.SetTable.fill
  rw [hd]; simp
theorem addPure_ok {b:Bool} {t:SetTable} {es:Array (Int × Value)} {n:Int} {x:Value} (T:TabOk b t es.size) (hh:∀ e ∈ es.toList,0 ≤ e.1 ∧ e.1 < 256) (h0:0 ≤ n) (h1:n < 256) (hs:es.size ≤ 17) :
    ∃ es' t',addPure t es n x = (es',t',false) ∧ es'.toList.Perm ((n,x) :: es.toList) ∧ TabOk b t' (es.size + 1) := by
  obtain ⟨p,t1,e1,hp,e2,e3,e4,e5,e6,e7,e8⟩ := layNew_ok (x := x) T h0 h1
  have hperm := insertAt_perm es p (n,x)
  have hsz : (insertAt es p (n,x)).size = es.size + 1 := insertAt_size _ _ _ hp
  unfold addPure
  rw [e1]
  dsimp only
  rw [full_iff e3,e7,e2]
  by_cases hf : (es.size + 1) * 5 ≥ t.mask * 3
  · have hw : sizeAbove (SetTable.grown (insertAt es p (n,x)).size) - 1 = 31 := by
      rw [hsz]
      rcases T.cap with ⟨c1,c2⟩ | ⟨c1,c2⟩
      · have : es.size = 4 := by lia
        rw [this]; decide
      · lia
    obtain ⟨es',t',r1,r2,r3⟩ := relayAll_ok (t := t1) (es := insertAt es p (n,x)) hw e4 e5 (by lia) (fun e he=>by
      rcases List.mem_cons.mp (hperm.subset he) with h | h
      · rw [h]; exact ⟨h0,h1⟩
      · exact hh e h)
    refine ⟨es',t',?_,r2.trans hperm,by rw [← hsz]; exact r3⟩
    rw [if_pos (by simpa using hf),r1]
    rfl
  · refine ⟨_,t1,?_,hperm,⟨e3,e4,e5,e6,e7,fun i hi=>by rw [e2]; exact e8 i hi,?_⟩⟩
    · rw [if_neg (by simpa using hf)]
    · rw [e2]
      rcases T.cap with ⟨c1,c2⟩ | ⟨c1,c2⟩
      · exact .inl ⟨c1,by lia⟩
      · exact .inr ⟨c1,by lia⟩
end
section
noncomputable def IO (ns:List Int) : OP := fun o=>∃ vs,LO vs o ∧ IntsAre vs ns
theorem IO.lo {h:Heap} {a:Addr} {ns:List Int} (x:At h.get? a (IO ns)) : ∃ vs,At h.get? a (LO vs) ∧ IntsAre vs ns := let ⟨o,ho,vs,h1,h2⟩ := x; ⟨vs,⟨o,ho,h1⟩,h2⟩
theorem IO.of {h:Heap} {a:Addr} {vs:List Value} {ns:List Int} (x:At h.get? a (LO vs)) (hi:IntsAre vs ns) : At h.get? a (IO ns) := let ⟨o,ho,h1⟩ := x; ⟨o,ho,vs,h1,hi⟩
section
variable {A:Around} {K N:Pt} {n₀:Nat} {env:Env} {m m':List (Str × Option Value)} {M M':List (Addr × OP)} {h h':Heap} {cs:List (Str × Addr)} {gl:List (Str × Value)}
theorem O_append_io {l:Addr} {ns:List Int} {k:Int} {t:Tok} {Q:Value → Heap → Prop} (S:St K n₀ env m N M h) (hm:(l,IO ns) ∈ M) (hz:ns.length ≤ sizeLine) (u:Upd l (IO (ns ++ [k])) M M') (q:∀ h',St K n₀ env m N M' h' → Q .none h') : WP A (call (.builtin "list.append") [.ref l,.int k t]) Q h :=
  WP_lib fun s e=>by
    subst e
    obtain ⟨vs,hl,hi⟩ := IO.lo (S.mm hm)
    refine wpAny_list_append_plain (LO.plain hl) (fun h' hp hs=>⟨h',_,rfl,q h' (S.upd u hs.extBut ?_)⟩) (by rw [List.size_toArray,hi.length]; exact hz)
    have := LO.of hp
    exact IO.of this (by simpa using ints_append hi (ints_one _ _))
theorem O_setdefault {d:Addr} {kvs:List (Int × Value)} {k:Int} {t:Tok} {v:Value} {Q:Value → Heap → Prop} (S:St K n₀ env m N M h) (hd:(d,DO kvs) ∈ M) (hsm:(d == sysModules) = false) (hz:kvs.length ≤ sizeLine) (u:Upd d (DO (stored kvs k v)) M M')
    (q1:∀ x,valueAt kvs k = some x → Q x h) (q2:valueAt kvs k = none → ∀ h',St K n₀ env m N M' h' → Q v h') : WP A (call (.builtin "dict.setdefault") [.ref d,.int k t,v]) Q h :=
  WP_lib fun s e=>by
    subst e
    have hD := DO.of (S.mm hd)
    have hT : s.TypeIs (.ref d) "dict" := hD.typeIs
    refine call_meetsIn PySem.F.slot_dict_setdefault hT PySem.F.entry_dict_setdefault (PySem.F.args_dict_setdefault_3 _ _ _) (kt_meets_setdefault (intKind prg w) d (isInt_self k t) hsm v) ⟨kvs,hD,hz,fun x hx=>⟨_,_,rfl,q1 x hx⟩,fun hn h' hD' hs=>⟨_,_,rfl,q2 hn h' (S.upd u hs.extBut (DO.to hD'))⟩⟩
abbrev Tab := List (Int × Addr × List Int)
noncomputable def kvT (T:Tab) : List (Int × Value) := T.map fun p=>(p.1,.ref p.2.1)
noncomputable def ledT (T:Tab) : List (Addr × OP) := T.map fun p=>(p.2.1,IO p.2.2)
noncomputable def plT (T:Tab) : List (Int × List Int) := T.map fun p=>(p.1,p.2.2)
noncomputable def addIx (B:List (Int × List Int)) (y:Int) (i:Nat) : List (Int × List Int) :=
  if B.any (fun p=>p.1 = y) then B.map (fun p=>if p.1 = y then (p.1,p.2 ++ [(i:Int)]) else p) else B ++ [(y,[(i:Int)])]
noncomputable def b2jF (Y:List Int) : List (Int × List Int) := (List.range Y.length).foldl (fun B i=>addIx B (Y.getD i 0) i) []
noncomputable def b2jN (Y:List Int) (n:Nat) : List (Int × List Int) := (List.range n).foldl (fun B i=>addIx B (Y.getD i 0) i) []
theorem b2jN_succ {Y:List Int} {n:Nat} : b2jN Y (n + 1) = addIx (b2jN Y n) (Y.getD n 0) n := by unfold b2jN; rw [List.range_succ,List.foldl_append]; rfl
theorem addIx_len {B:List (Int × List Int)} {y:Int} {i:Nat} : (addIx B y i).length ≤ B.length + 1 := by unfold addIx; split <;> simp
theorem b2jN_len {Y:List Int} {n:Nat} : (b2jN Y n).length ≤ n := by
  induction n with
  | zero=>simp [b2jN]
  | succ n ih=>rw [b2jN_succ]; exact Nat.le_trans addIx_len (by exact Nat.lt_succ_of_le ‹_›)
noncomputable def putT (T:Tab) (y:Int) (i:Int) : Tab := T.map fun p=>if p.1 = y then (p.1,p.2.1,p.2.2 ++ [i]) else p
theorem putT_kv {T:Tab} {y i:Int} : kvT (putT T y i) = kvT T := by
  unfold kvT putT
  rw [List.map_map]
  refine List.map_congr_left fun p _=>?_
  simp only [Function.comp]
  split <;> rfl
theorem putT_pl {T:Tab} {y:Int} {i:Nat} (h:(plT T).any (fun p=>p.1 = y) = true) : plT (putT T y i) = addIx (plT T) y i := by
  unfold addIx
  rw [if_pos h]
  unfold plT putT
  rw [List.map_map,List.map_map]
  refine List.map_congr_left fun p _=>?_
  simp only [Function.comp]
  split <;> rfl
theorem valueAt_kvT {T:Tab} {y:Int} {x:Value} (h:valueAt (kvT T) y = some x) : ∃ a is,x = .ref a ∧ (y,a,is) ∈ T ∧ (plT T).any (fun p=>p.1 = y) = true := by
  induction T with
  | nil=>simp [valueAt,kvT] at h
  | cons p T ih =>
    obtain ⟨k,a,is⟩ := p
    by_cases e : k = y
    · subst e
      refine ⟨a,is,?_,List.mem_cons_self,by simp [plT]⟩
      simpa [valueAt,kvT] using h.symm
    · have h' : valueAt (kvT T) y = some x := by simpa [valueAt,kvT,e] using h
      obtain ⟨a',is',h1,h2,h3⟩ := ih h'
      exact ⟨a',is',h1,List.mem_cons_of_mem _ h2,by simp only [plT,List.map_cons,List.any_cons,Bool.or_eq_true] at h3 ⊢; exact .inr h3⟩
theorem valueAt_none {T:Tab} {y:Int} (h:valueAt (kvT T) y = none) : (plT T).any (fun p=>p.1 = y) = false ∧ stored (kvT T) y = fun v=>kvT T ++ [(y,v)] := by
  have h1 : ∀ p ∈ T,p.1 ≠ y := by
    intro p hp e
    have : (kvT T).find? (fun kv=>kv.1 = y) = none := by simpa [valueAt] using h
    rw [List.find?_eq_none] at this
    exact this _ (List.mem_map_of_mem (f := fun p : Int × Addr × List Int=>(p.1,Value.ref p.2.1)) hp) (by simpa using e)
  refine ⟨?_,?_⟩
  · rw [List.any_eq_false]
    intro p hp
    obtain ⟨q,hq,rfl⟩ := List.mem_map.mp hp
    simpa using h1 q hq
  · funext v
    unfold stored
    rw [if_neg]
    rw [Bool.not_eq_true,List.any_eq_false]
    intro p hp
    obtain ⟨q,hq,rfl⟩ := List.mem_map.mp hp
    simpa using h1 q hq
theorem upd_ledT {T:Tab} {y i:Int} {a:Addr} {is:List Int} (hm:(y,a,is) ∈ T) (nd:(T.map (·.1)).Nodup) : Upd a (IO (is ++ [i])) (ledT T) (ledT (putT T y i)) := by
  induction T with
  | nil=>cases hm
  | cons p T ih =>
    obtain ⟨k,b,js⟩ := p
    rw [List.map_cons,List.nodup_cons] at nd
    by_cases e : k = y
    · subst e
      have : (k,a,is) = (k,b,js) := by
        rcases List.mem_cons.mp hm with h | h
        · exact h
        · exact absurd (List.mem_map_of_mem (f := (·.1)) h) nd.1
      cases this
      have h2 : putT T k i = T := by
        unfold putT
        refine (List.map_congr_left fun p hp=>?_).trans (List.map_id _)
        rw [if_neg]; rfl
        rintro rfl
        exact nd.1 (List.mem_map_of_mem (f := (·.1)) hp)
      show Upd a _ ((a,IO is) :: ledT T) (ledT ((if k = k then (k,a,is ++ [i]) else (k,a,is)) :: putT T k i))
      rw [if_pos rfl,h2]
      exact Upd.head
    · have hm' : (y,a,is) ∈ T := by
        rcases List.mem_cons.mp hm with h | h
        · cases h; exact absurd rfl e
        · exact h
      show Upd a _ ((b,IO js) :: ledT T) (ledT ((if k = y then (k,b,js ++ [i]) else (k,b,js)) :: putT T y i))
      rw [if_neg e]
      exact Upd.tail (ih hm' nd.2)
end
end
section
noncomputable def byT : Bool := w.params.followText "set-order"
structure SetAt (o:Obj) (es:Array (Int × Value)) (ep:Nat) (t:SetTable) : Prop where
  eq : o = { cls := .type "set",dict := none,data := .set es ep t,slots := #[] }
  tab : TabOk (!byT) t es.size
  el : ∀ e ∈ es.toList,∃ tk,e.2 = .int e.1 tk ∧ 0 ≤ e.1 ∧ e.1 < 256
noncomputable def KO (ks:List Int) : OP := fun o=>∃ es ep t,SetAt o es ep t ∧ (es.toList.map (·.1)).Perm ks
theorem hash_small {k:Int} (h0:0 ≤ k) (h1:k < 256) : PySem.hashInt k = k := by
  obtain ⟨n,rfl⟩ : ∃ n : Nat,k = n := ⟨k.toNat,by lia⟩
  have hn : n < 256 := by lia
  have : ∀ n : Nat,n < 256 → PySem.hashInt (n:Int) = n := by decide +kernel
  exact this n hn
theorem TabOk.fits {b:Bool} {t:SetTable} {n:Nat} (T:TabOk b t n) : t.fits n = true := by
  unfold PySem.SetTable.fits PySem.SetTable.fill
  rw [T.dum,T.sz]
  rcases T.cap with ⟨h1,h2⟩ | ⟨h1,h2⟩ <;> (rw [h1]; simp; lia)
theorem SetAt.elems {o:Obj} {es:Array (Int × Value)} {ep:Nat} {t:SetTable} (S:SetAt o es ep t) : ElemsOf (intKind prg w) es.toList := by
  rintro ⟨k,v⟩ he
  obtain ⟨tk,h1,h2,h3⟩ := S.el _ he
  dsimp only at h1 h2 h3 ⊢
  subst h1
  exact ⟨⟨k,isInt_self k tk,(hash_small h2 h3).symm⟩,rfl⟩
theorem SetAt.size {o:Obj} {es:Array (Int × Value)} {ep:Nat} {t:SetTable} (S:SetAt o es ep t) : es.size ≤ 18 := by
  rcases S.tab.cap with ⟨_,h⟩ | ⟨_,h⟩ <;> lia
theorem SetAt.typeIs {s:Shared} {a:Addr} {o:Obj} {es:Array (Int × Value)} {ep:Nat} {t:SetTable} (S:SetAt o es ep t) (ho:s.heap.get? a = some o) : s.TypeIs (.ref a) "set" := ⟨o,ho,by rw [S.eq]⟩
theorem SetAt.data {o:Obj} {es:Array (Int × Value)} {ep:Nat} {t:SetTable} (S:SetAt o es ep t) : o.data = .set es ep t := by rw [S.eq]
theorem KO.fresh : KO [] { cls := .type "set",dict := none,data := .set #[] 0 (.fresh 0 0 (!byT)),slots := #[] } :=
  ⟨#[],0,_,⟨rfl,TabOk.fresh,fun e he=>by simp at he⟩,by simp⟩
section
variable {A:Around} {E:Value → Shared → Prop} {s:Shared}
theorem codeAny_set_new {Q₁:Value → Shared → Prop}
    (h:Q₁ (.ref s.heap.objs.size) { s with heap := s.heap.push { cls := .type "set",dict := none,data := .set #[] 0 (.fresh 0 0 (!byT)) } }) :
    codeAny (model prg w) A (.call (.builtin "set.__new__") ⟨[.type "set"],[]⟩) (wants Q₁ E) s := by
  refine codeAny_of_tree ?_
  show wpAny _ A.in1 (do checkBuiltinCall "set.__new__" ⟨[.type "set"],[]⟩; again (.builtin "set.__new__" ⟨[.type "set"],[]⟩)) _ _ s
  refine wpAny_bind (wpAny_of_eq F.newCall_set_0 (wpAny_pure ⟨plainId_quiet F.plain_set_new _,codeAny_builtin F.entry_set_new ?_⟩))
  rw [Around.under_plainId F.plain_set_new _]
  unfold Builtin.«set.__new__» Builtin.Frozenset.newClass
  have hsub := sub_set_self
  obtain ⟨hp,g,d,tk,os⟩ := s
  dsimp only
  wp_walk
  refine wpAny_askSetting (wpAny_pure ?_)
  dsimp only
  simp only [newObj]
  refine wpAny_bind (wpAny_alloc (wpAny_pure ?_))
  exact wpAny_pure h
set_option maxHeartbeats 1000000 in
theorem call_set_led {Q:Value → Shared → Prop}
    (h:Q (.ref s.heap.objs.size) { s with heap := s.heap.push { cls := .type "set",dict := none,data := .set #[] 0 (.fresh 0 0 (!byT)) } }) :
    wpAny (model prg w) A (call (.type "set") []) Q E s := by
  obtain ⟨c,tl,hmro⟩ := F.called_set.mro
  have hmade := F.called_set.made
  have hsub := F.called_set.sub
  refine wpAny_call (codeAny_of_tree ?_)
  show wpAny _ _ (callAny (.type "set") _) _ _ _
  refine wpAny_pure ⟨Code.quiet_builtin _ (by decide +kernel),codeAny_builtin F.entry_type_call ?_⟩
  rw [Around.under_plain (weight_type_call_type "set" [] []) rfl]
  have h1 := F.called_set.notType
  have h2 := F.called_set.canCreate
  have hct := F.typeCall_set_0
  repeat (any_goals (first | assumption | wp_step))
  refine codeAny_mono (codeAny_set_new (E := E) (Q₁ := fun obj s₁=>obj = .ref s.heap.objs.size ∧ s₁ = { s with heap := s.heap.push { cls := .type "set",dict := none,data := .set #[] 0 (.fresh 0 0 (!byT)) } }) ⟨rfl,rfl⟩) fun r s₁ hr=>?_
  cases r with
  | error e=>exact hr
  | ok fl =>
    cases fl with
    | ret obj =>
      obtain ⟨rfl,rfl⟩ := hr
      have hS : (s.heap.push { cls := .type "set",dict := none,data := .set #[] 0 (.fresh 0 0 (!byT)) }).get? s.heap.objs.size = some { cls := .type "set",dict := none,data := .set #[] 0 (.fresh 0 0 (!byT)) } := Heap.get?_push_size _ rfl
      have hT : Shared.TypeIs { s with heap := s.heap.push { cls := .type "set",dict := none,data := .set #[] 0 (.fresh 0 0 (!byT)) } } (.ref s.heap.objs.size) "set" := ⟨_,hS,rfl⟩
      have hli := F.called_set.init.lookup
      have hbi := F.called_set.init.bind (.ref s.heap.objs.size)
      repeat (any_goals (first | assumption | wp_step))
      refine codeAny_mono (codeAny_call_builtin (R := wants (fun r s₂=>r = .none ∧ Q (.ref s.heap.objs.size) s₂) E) F.called_set.init.plain F.entry_set_init (check_set_init hT ?_)) fun r₂ s₂ hr₂=>?_
      · unfold Builtin.«set.__init__» noKeywords
        wp_walk
        exact ⟨rfl,h⟩
      · cases r₂ with
        | error e=>exact hr₂
        | ok fl₂ =>
          cases fl₂ with
          | ret r =>
            obtain ⟨rfl,hq⟩ := hr₂
            repeat (any_goals (first | assumption | wp_step))
          | _=>exact hr₂.elim
    | _=>exact hr.elim
theorem setadd_any {a:Addr} {o:Obj} {es:Array (Int × Value)} {ep:Nat} {t:SetTable} {k:Int} {tk:Tok} {Q:Value → Shared → Prop} (ho:s.heap.get? a = some o) (S:SetAt o es ep t) (h0:0 ≤ k) (h1:k < 256) (hn:k ∉ es.toList.map (·.1)) (hz:es.size ≤ 17)
    (h:∀ h' es' ep' t',Heap.SameBut a s.heap h' → h'.get? a = some { cls := .type "set",dict := none,data := .set es' ep' t',slots := #[] } → es'.toList.Perm ((k,.int k tk) :: es.toList) → TabOk (!byT) t' (es.size + 1) → Q .none { s with heap := h',toks := s.toks + 1 }) :
    wpAny (model prg w) A (call (.builtin "set.add") [.ref a,.int k tk]) Q E s := by
  have hkey := isInt_self k tk
  have hd := S.data
  have hf := S.tab.fits
  have hel := S.elems
  have hT := S.typeIs ho
  refine wpAny_call_entry F.slot_set_add hT F.entry_set_add ?_ (F.args_set_add_2 _ _)
  unfold Builtin.«set.add» Builtin.Frozenset.oneOther
  simp only [List.isEmpty_nil,bind_assoc]
  unfold Builtin.Frozenset.addrOf setAdd
  refine wpAny_bind (wpAny_pure ?_)
  try dsimp only
  refine wpAny_bind (wpAny_pure ?_)
  try dsimp only
  refine wpAny_bind ?_
  refine wpAny_holding ?_
  refine wpAny_bind ((intKind prg w).pyHash hkey ?_)
  unfold setAddHashed setAddHashedIn
  have ho' : ({ s with toks := s.toks + 1 } : Shared).heap.get? a = some o := ho
  refine wpAny_holding (wpAny_bind (wpAny_setState_of ho' hd hf ?_))
  dsimp only
  rw [byScan_of rfl (by have:scanBound = 4096 := rfl; lia) hel]
  simp only [↓reduceIte]
  unfold setAddByScan
  refine wpAny_bind ?_
  refine wpAny_bind (wpAny_rule ?_)
  refine wpAny_bind (wpAny_setScan_of hkey ho' hd hf hel ?_)
  have hr : es.toList.findIdx? (fun e=>(intKind prg w).is k e.2) = none := by
    rw [List.findIdx?_eq_none_iff]
    rintro ⟨k',v⟩ he
    obtain ⟨tk',h2,h3,h4⟩ := S.el _ he
    dsimp only at h2
    subst h2
    cases hc : (intKind prg w).is k (Value.int k' tk') with
    | false=>rfl
    | true =>
      have : k = k' := (intKind prg w).inj _ _ _ hc (isInt_self k' tk')
      exact absurd (List.mem_map_of_mem (f := (·.1)) he) (by rw [← this]; exact hn)
  rw [hr]
  dsimp only
  obtain ⟨es',t',e1,e2,e3⟩ := addPure_ok (x := .int k tk) S.tab (fun e he=>let ⟨_,_,a,b⟩ := S.el e he; ⟨a,b⟩) h0 h1 hz
  have hhash : (intKind prg w).hash k = k := hash_small h0 h1
  rw [hhash]
  obtain ⟨p,t1,l1,hp,l2,l3,l4,l5,l6,l7,l8⟩ := layNew_ok (x := .int k tk) S.tab h0 h1
  unfold addPure at e1
  rw [l1] at e1 ⊢
  dsimp only at e1 ⊢
  refine wpAny_bind (wpAny_pure ?_)
  rw [l5]
  simp only [↓reduceIte]
  rw [hashByValue_scannable 8 rfl]
  refine wpAny_bind (wpAny_pure ?_)
  simp only [plainKind,↓reduceIte]
  have hz1 : (SetTable.insertAt es p (k,Value.int k tk)).size = es.size + 1 := insertAt_size _ _ _ hp
  refine wpAny_bind (wpAny_storeSet_of ho' hd ?_ (by rw [hz1,sizeLine_eq]; lia))
  have hsb1 := Heap.SameBut.update s.heap a (Obj.putSet (SetTable.insertAt es p (k,Value.int k tk)) t1)
  have hg1 : (s.heap.update a (Obj.putSet (SetTable.insertAt es p (k,Value.int k tk)) t1)).get? a = some { cls := .type "set",dict := none,data := .set (SetTable.insertAt es p (k,Value.int k tk)) (ep + 1) t1,slots := #[] } := by
    have := Heap.get?_update_self (Obj.putSet (SetTable.insertAt es p (k,Value.int k tk)) t1) ho (by rw [putSet_of _ _ hd]; rfl)
    rw [putSet_of _ _ hd] at this
    rw [this,S.eq]
  by_cases hfull : (!false && t1.tooFull) = true
  · rw [if_pos hfull] at e1 ⊢
    generalize hRl : relayAll t1 (SetTable.insertAt es p (k,Value.int k tk)) (SetTable.grown (SetTable.insertAt es p (k,Value.int k tk)).size) = Rl at e1 ⊢
    obtain ⟨es2,t2,g2⟩ := Rl
    dsimp only at e1 ⊢
    rw [Bool.false_or] at e1
    have q1 : es2 = es' := congrArg (·.1) e1
    have q2 : t2 = t' := congrArg (·.2.1) e1
    have q3 : g2 = false := congrArg (·.2.2) e1
    rw [← q1] at e2
    rw [← q2] at e3
    rw [q3]
    refine wpAny_bind (wpAny_pure ?_)
    have hz2 : es2.size = es.size + 1 := by rw [← Array.length_toList,e2.length_eq]; simp
    refine wpAny_bind (wpAny_storeSet_of hg1 rfl ?_ (by rw [hz2,sizeLine_eq]; lia))
    refine wpAny_pure ?_
    dsimp only
    refine wpAny_pure ?_
    show wpAny _ _ (ret Value.none) _ _ _
    refine wpAny_pure ⟨_,rfl,?_⟩
    refine h _ es2 (ep + 1 + 1) t2 (hsb1.trans (Heap.SameBut.update _ a _)) ?_ e2 e3
    have := Heap.get?_update_self (Obj.putSet es2 t2) hg1 (by rw [putSet_of _ _ rfl]; rfl)
    rw [putSet_of _ _ rfl] at this
    exact this
  · rw [if_neg hfull] at e1 ⊢
    have q1 : SetTable.insertAt es p (k,Value.int k tk) = es' := congrArg (·.1) e1
    have q2 : t1 = t' := congrArg (·.2.1) e1
    rw [← q1] at e2
    rw [← q2] at e3
    refine wpAny_pure ?_
    dsimp only
    refine wpAny_pure ?_
    show wpAny _ _ (ret Value.none) _ _ _
    exact wpAny_pure ⟨_,rfl,h _ _ (ep + 1) t1 hsb1 hg1 e2 e3⟩
end
section
variable {A:Around} {K N:Pt} {n₀:Nat} {env:Env} {m m':List (Str × Option Value)} {M M':List (Addr × OP)} {h h':Heap} {cs:List (Str × Addr)} {gl:List (Str × Value)}
theorem O_set0 {Q:Value → Heap → Prop} (q:∀ a h',New h a (KO []) h' → Q (.ref a) h') : WP A (call (.type "set") []) Q h :=
  WP_lib fun s e=>by subst e; exact call_set_led ⟨_,_,rfl,q _ _ (New.push _ rfl KO.fresh)⟩
theorem M_set {a:Addr} {ks:List Int} {name:Str} {id:String} {pl:Sem Bool} {Q:Value × List Value → Heap → Prop} (hs:At h.get? a (KO ks)) (slot:Slot "set" name id) (hty:typeOf (.builtin id) = pure (.type "method_descriptor"))
    (q:Q (.builtin id,[.ref a]) h) : WP A (getMethod (.ref a) name pl) Q h := by
  obtain ⟨o,ho,es,ep,t,S,_⟩ := hs
  exact M_obj ho (by rw [S.eq]) (by rw [S.eq]) F.plainAttrs_set slot hty q
theorem O_setadd {a:Addr} {ks:List Int} {k:Int} {tk:Tok} {Q:Value → Heap → Prop} (S:St K n₀ env m N M h) (hm:(a,KO ks) ∈ M) (h0:0 ≤ k) (h1:k < 256) (hn:k ∉ ks) (hz:ks.length ≤ 17) (u:Upd a (KO (ks ++ [k])) M M')
    (q:∀ h',St K n₀ env m N M' h' → Q .none h') : WP A (call (.builtin "set.add") [.ref a,.int k tk]) Q h :=
  WP_lib fun s e=>by
    subst e
    obtain ⟨o,ho,es,ep,t,T,hp⟩ := S.mm hm
    have hl : es.size = ks.length := by have := hp.length_eq; simpa using this
    refine setadd_any ho T h0 h1 (fun hc=>hn (hp.subset hc)) (by lia) fun h' es' ep' t' hs hg hperm ht=>⟨h',_,rfl,q h' (S.upd u hs.extBut ⟨_,hg,es',ep',t',⟨rfl,?_,fun e he=>?_⟩,?_⟩)⟩
    · have : es'.size = es.size + 1 := by rw [← Array.length_toList,hperm.length_eq]; simp
      rw [this]; exact ht
    · rcases List.mem_cons.mp (hperm.subset he) with rfl | he
      · exact ⟨tk,rfl,h0,h1⟩
      · exact T.el e he
    · refine (hperm.map (·.1)).trans ?_
      rw [List.map_cons]
      exact (List.Perm.cons k hp).trans (List.perm_append_singleton k ks).symm
end
end
section
theorem slot_si_next : Slot "set_iterator" "__next__" "set_iterator.__next__" :=
  .of (owner := "set_iterator") (n := "__next__") (by rw [typeLookup_type,builtinLookup_eq_fast]; kernel_rfl) (by decide +kernel) (by decide +kernel) (by decide +kernel)
    (by first | exact .inl (by decide +kernel) | exact .inr (by decide +kernel)) (by rw [isSubtype_type]; kernel_rfl)
theorem entry_si_next : entryFor table "set_iterator.__next__" = some Builtin.«set_iterator.__next__» := entryFor_of_tree (by kernel_rfl)
theorem owner_si : Manifest.owners.lookup (String.ofList ['r','o','t','a','r','e','t','i','_','t','e','s'].reverse) = some Manifest.sig_set_iterator := by kernel_rfl
theorem args_si_next (a:Value) : argsOk "set_iterator.__next__" ⟨[a],[]⟩ := by
  unfold argsOk; rw [signature?_of (id := "set_iterator.__next__") (n := ['_','_','t','x','e','n','_','_']) (o := ['r','o','t','a','r','e','t','i','_','t','e','s']) (by kernel_rfl) owner_si]; kernel_rfl
theorem slot_si_iter : Slot "set_iterator" "__iter__" "set_iterator.__iter__" :=
  .of (owner := "set_iterator") (n := "__iter__") (by rw [typeLookup_type,builtinLookup_eq_fast]; kernel_rfl) (by decide +kernel) (by decide +kernel) (by decide +kernel)
    (by first | exact .inl (by decide +kernel) | exact .inr (by decide +kernel)) (by rw [isSubtype_type]; kernel_rfl)
theorem entry_si_iter : entryFor table "set_iterator.__iter__" = some Builtin.«dict_keyiterator.__iter__» :=
  entryFor_alias (id' := "dict_keyiterator.__iter__") (by kernel_rfl) rfl (by decide +kernel) (by kernel_rfl)
theorem args_si_iter (a:Value) : argsOk "set_iterator.__iter__" ⟨[a],[]⟩ := by
  unfold argsOk; rw [signature?_of (id := "set_iterator.__iter__") (n := ['_','_','r','e','t','i','_','_']) (o := ['r','o','t','a','r','e','t','i','_','t','e','s']) (by kernel_rfl) owner_si]; kernel_rfl
theorem entry_set_iter : entryFor table "set.__iter__" = some Builtin.«frozenset.__iter__» :=
  entryFor_alias (id' := "frozenset.__iter__") (by kernel_rfl) rfl (by decide +kernel) (by kernel_rfl)
theorem pick_go {α:Type} (next:Nat → Nat) : ∀ (fuel k:Nat) (left:List α) (out:Array α),left.length ≤ fuel → (pickOrder.go next fuel k left out).toList.Perm (out.toList ++ left) := by
  intro fuel
  induction fuel with
  | zero=>intro k left out h; have : left = [] := List.eq_nil_of_length_eq_zero (by lia); subst this; unfold pickOrder.go; simp
  | succ fuel ih =>
    intro k left out h
    unfold pickOrder.go
    cases e : left[next k % left.length]? with
    | none =>
      dsimp only
      have : left = [] := by
        cases left with
        | nil=>rfl
        | cons a l =>
          have h1 := List.getElem?_eq_none_iff.mp e
          have h2 : next k % (a :: l).length < (a :: l).length := Nat.mod_lt _ (by simp)
          lia
      subst this; simp
    | some x =>
      dsimp only
      obtain ⟨hlt,hx⟩ := List.getElem?_eq_some_iff.mp e
      have hl : (left.eraseIdx (next k % left.length)).length ≤ fuel := by rw [List.length_eraseIdx_of_lt hlt]; lia
      refine (ih (k + 1) _ (out.push x) hl).trans ?_
      rw [Array.toList_push,List.append_assoc]
      refine List.Perm.append_left _ ?_
      have e2 : left = left.take (next k % left.length) ++ x :: left.drop (next k % left.length + 1) := by
        rw [← hx,← List.drop_eq_getElem_cons hlt,List.take_append_drop]
      rw [List.eraseIdx_eq_take_drop_succ]
      conv=>rhs; rw [e2]
      show (x :: (left.take (next k % left.length) ++ left.drop (next k % left.length + 1))).Perm _
      exact (List.perm_middle (a := x)).symm
theorem pick_perm {α:Type} (next:Nat → Nat) (xs:Array α) : (pickOrder next xs).toList.Perm xs.toList := by
  unfold pickOrder
  simpa using pick_go next xs.size 0 xs.toList #[] (by simp)
noncomputable def walkL (a:Addr) (es:Array (Int × Value)) (ep:Nat) : List (Int × Value) := if byT then (pickOrder (w.params.setOrder a ep) es).toList else es.toList
theorem walk_perm {a:Addr} {es:Array (Int × Value)} {ep:Nat} : (walkL a es ep).Perm es.toList := by
  unfold walkL; split
  · exact pick_perm _ _
  · exact .refl _
noncomputable def SI (a:Addr) (es:Array (Int × Value)) (ep:Nat) (t:SetTable) (i:Nat) : OP := fun o=>∃ slot : Nat,o.cls = .type "set_iterator" ∧ o.data = .fields #[.int slot 0,.int i 0,.ref a,.int es.size 0,.int ep 0] ∧ (byT = false → SetTable.below t.place slot = i)
theorem below_eq {xs:Array Nat} (hs:Rise xs) {j i:Nat} (hi:i ≤ xs.size) (h1:∀ k,k < i → xs.getD k 0 < j) (h2:∀ k,i ≤ k → k < xs.size → j ≤ xs.getD k 0) : SetTable.below xs j = i := by
  obtain ⟨b1,b2,b3⟩ := below_spec (j := j) hs
  rcases Nat.lt_trichotomy (SetTable.below xs j) i with h | h | h
  · have := h1 _ h
    have := b3 _ (Nat.le_refl _) (by lia)
    lia
  · exact h
  · have := b2 _ h
    have := h2 _ (Nat.le_refl _) (by lia)
    lia
section
variable {A:Around} {E:Value → Shared → Prop} {s:Shared}
theorem iter_set_any {a:Addr} {o:Obj} {es:Array (Int × Value)} {ep:Nat} {t:SetTable} {Q:Value → Shared → Prop} (ho:s.heap.get? a = some o) (S:SetAt o es ep t)
    (hQ:Q (.ref s.heap.objs.size) { s with heap := s.heap.push { cls := .type "set_iterator",data := .fields #[.int 0 0,.int 0 0,.ref a,.int es.size 0,.int ep 0] } }) : wpAny (model prg w) A (pyIter (.ref a)) Q E s := by
  refine wpAny_pyIter_slot (S.typeIs ho) F.slot_set_iter (wpAny_call_entry F.slot_set_iter (S.typeIs ho) entry_set_iter ?_ (F.args_set_iter_1 _))
  unfold Builtin.«frozenset.__iter__»
  refine wpAny_bind (m := Builtin.Frozenset.slot0 _ _) (wpAny_pure ?_)
  refine wpAny_bind ?_
  unfold Builtin.Frozenset.sizeOf
  refine wpAny_bind (wpAny_setEntries_of ho S.data S.tab.fits (wpAny_pure ?_))
  refine wpAny_bind ?_
  unfold setDrawn setsByText
  refine wpAny_bind (wpAny_setState_of ho S.data S.tab.fits ?_)
  refine wpAny_bind (wpAny_bind (wpAny_askSetting (wpAny_pure ?_)))
  have hdr : (!w.params.followText "set-order" && (!t.plain && decide (es.size > 1))) = false := by rw [S.tab.plain]; simp
  refine wpAny_of_eq (a := false) ?_ ?_
  · show (pure (!w.params.followText "set-order" && (!t.plain && decide (es.size > 1))) : Sem Bool) = pure false
    rw [hdr]
  simp only [Bool.false_eq_true,if_false]
  refine wpAny_bind (wpAny_pure ?_)
  refine wpAny_bind (wpAny_setEpoch_of ho S.data S.tab.fits ?_)
  exact wpAny_bind (wpAny_newObj_type (wpAny_pure ⟨_,rfl,"set_iterator",_,⟨_,Heap.get?_push_size _ rfl,rfl⟩,slot_si_next.lookup,hQ⟩))
end
section
variable {A:Around} {s:Shared}
noncomputable def SW (I a:Addr) (o:Obj) (es:Array (Int × Value)) (ep:Nat) (t:SetTable) (i:Nat) (h:Heap) : Prop := At h.get? I (SI a es ep t i) ∧ h.get? a = some o
theorem set_next {a:Addr} {o:Obj} {es:Array (Int × Value)} {ep:Nat} {t:SetTable} {i:Nat} {Q:Option (Value × Nat) → Shared → Prop} {E:Value → Shared → Prop} {slot:Nat} (ho:s.heap.get? a = some o) (S:SetAt o es ep t) (hb:byT = false → SetTable.below t.place slot = i)
    (hQ:Q (((walkL a es ep)[i]?).map fun e=>(e.2,if byT then slot else t.place.getD i 0 + 1)) s) : wpAny (model prg w) A (setNext a slot i ep) Q E s := by
  unfold setNext setsByText
  refine wpAny_bind (wpAny_setState_of ho S.data S.tab.fits ?_)
  dsimp only
  refine wpAny_bind (wpAny_bind (wpAny_askSetting (wpAny_pure ?_)))
  by_cases hT : byT = true
  · have hT' : (model prg w).w.params.followText "set-order" = true := hT
    simp only [hT',if_true]
    rw [bne_self_eq_false]
    simp only [Bool.false_eq_true,if_false]
    unfold setWalk setsByText
    refine wpAny_bind (wpAny_bind (wpAny_setState_of ho S.data S.tab.fits ?_))
    dsimp only
    refine wpAny_bind (wpAny_bind (wpAny_askSetting (wpAny_pure ?_)))
    simp only [hT',if_true]
    refine wpAny_bind (wpAny_askSetting (wpAny_pure ?_))
    refine wpAny_pure ?_
    have e : (pickOrder (w.params.setOrder a ep) es)[i]? = (walkL a es ep)[i]? := by
      unfold walkL; rw [if_pos hT,Array.getElem?_toList]
    have e' : (pickOrder (({ program := (model prg w).prog,params := (model prg w).w.params } : Setting).params.setOrder a ep) es)[i]? = (walkL a es ep)[i]? := e
    rw [e']
    simpa [hT] using hQ
  · have hF : byT = false := by simpa using hT
    have hT' : (model prg w).w.params.followText "set-order" = false := hF
    simp only [hT',Bool.false_eq_true,if_false]
    have hdr : (!t.plain && decide (es.size > 1)) = false := by rw [S.tab.plain]; rfl
    show wpAny _ _ (if (!t.plain && decide (es.size > 1)) = true then _ else _) _ _ _
    rw [hdr]
    simp only [Bool.false_eq_true,if_false]
    show wpAny _ _ ((if (!t.led && !es.isEmpty) = true then _ else pure ()) >>= _) _ _ _
    rw [show t.led = true by rw [S.tab.led,hF]; rfl]
    simp only [Bool.not_true,Bool.false_and,Bool.false_eq_true,if_false]
    refine wpAny_bind (wpAny_pure ?_)
    rw [hb hF]
    have hw : walkL a es ep = es.toList := by unfold walkL; rw [if_neg hT]
    rw [hw] at hQ
    refine wpAny_pure ?_
    have hsz := S.tab.sz
    cases he : es[i]? with
    | none =>
      have : es.toList[i]? = none := by rw [Array.getElem?_toList]; exact he
      rw [this] at hQ
      exact hQ
    | some p =>
      have h1 : es.toList[i]? = some p := by rw [Array.getElem?_toList]; exact he
      rw [h1] at hQ
      have hi : i < t.place.size := by rw [hsz]; exact (Array.getElem?_eq_some_iff.mp he).1
      rw [getD_some hi]
      simpa [hF] using hQ
theorem Walks.set (hh:A.handled = none) (I a:Addr) (hne:a ≠ I) {o:Obj} {es:Array (Int × Value)} {ep:Nat} {t:SetTable} (S:SetAt o es ep t) :
    Walks prg w A I [I,a] [I] es.size (fun i v=>∃ e,(walkL a es ep)[i]? = some e ∧ v = e.2) (SW I a o es ep t) where
  sub := fun b hb=>by simp at hb; simp [hb]
  frame := fun _ h h' st hk=>⟨let ⟨x,hx,p⟩ := st.1; ⟨x,hk I (by simp) x hx,p⟩,hk a (by simp) o st.2⟩
  item := fun i s Q E hi st hQ=>by
    obtain ⟨⟨oi,hoi,slot,hc,hd,hb⟩,ho⟩ := st
    have hT : s.TypeIs (.ref I) "set_iterator" := ⟨oi,hoi,hc⟩
    have hl : (walkL a es ep).length = es.size := by rw [walk_perm.length_eq,Array.length_toList]
    obtain ⟨e,he⟩ : ∃ e,(walkL a es ep)[i]? = some e := ⟨_,List.getElem?_eq_getElem (by lia)⟩
    unfold pyNext
    refine wpAny_bind (wpAny_attempt (wpAny_callSpecial?_slot (name := Str.ofString "__next__") hT slot_si_next (wpAny_call_entry slot_si_next hT entry_si_next ?_ (args_si_next _))))
    unfold Builtin.«set_iterator.__next__»
    refine wpAny_bind (wpAny_pure ?_)
    dsimp only
    refine wpAny_bind (wpAny_fieldsOf hoi hd ?_)
    dsimp only
    refine wpAny_bind (wpAny_setEntries_of ho S.data S.tab.fits ?_)
    rw [bne_self_eq_false]
    simp only [Bool.false_eq_true,if_false]
    simp only [Int.toNat_natCast]
    refine wpAny_bind (set_next ho S hb ?_)
    rw [he]
    simp only [Option.map_some]
    refine wpAny_bind (wpAny_setField hoi hd (by simp) ?_)
    have g1 := Heap.get?_update_self (Obj.mapFields (·.setIfInBounds 0 (rawInt ((if byT then slot else t.place.getD i 0 + 1 : Nat) : Int)))) hoi (Obj.isFreed_of_fields (Obj.data_mapFields hd _))
    have d1 := Obj.data_mapFields hd (·.setIfInBounds 0 (rawInt ((if byT then slot else t.place.getD i 0 + 1 : Nat) : Int)))
    refine wpAny_bind (wpAny_setField g1 d1 (by simp) ?_)
    refine wpAny_pure ⟨e.2,rfl,wpAny_pure ?_⟩
    refine hQ e.2 _ s.toks ⟨e,he,rfl⟩ ⟨⟨_,Heap.get?_update_self _ g1 (Obj.isFreed_of_fields (Obj.data_mapFields d1 _)),(if byT then slot else t.place.getD i 0 + 1),(Obj.cls_mapFields ..).trans ((Obj.cls_mapFields ..).trans hc),?_,?_⟩,?_⟩ ?_
    · rw [Obj.data_mapFields d1]
      simp [rawInt]
    · intro hF
      rw [hF]
      simp only [Bool.false_eq_true,if_false]
      have hsz := S.tab.sz
      refine below_eq S.tab.rise (by lia) (fun k hk=>?_) (fun k hk hk2=>?_)
      · rcases Nat.lt_succ_iff_lt_or_eq.mp hk with h | h
        · have := S.tab.rise k i h (by lia); lia
        · rw [h]; lia
      · exact S.tab.rise i k (by lia) hk2
    · exact (Heap.get?_update_other _ _ (Ne.symm hne)).trans ((Heap.get?_update_other _ _ (Ne.symm hne)).trans ho)
    · intro b o' hb' e'
      have hbI : b ≠ I := by simpa using hb'
      exact (Heap.get?_update_other _ _ (Ne.symm hbI)).trans ((Heap.get?_update_other _ _ (Ne.symm hbI)).trans e')
  done := fun s Q E st hQ=>by
    obtain ⟨⟨oi,hoi,slot,hc,hd,hb⟩,ho⟩ := st
    have hT : s.TypeIs (.ref I) "set_iterator" := ⟨oi,hoi,hc⟩
    have hl : (walkL a es ep).length = es.size := by rw [walk_perm.length_eq,Array.length_toList]
    have he : (walkL a es ep)[es.size]? = none := List.getElem?_eq_none (by lia)
    unfold pyNext
    refine wpAny_bind (wpAny_attempt (wpAny_callSpecial?_slot (name := Str.ofString "__next__") hT slot_si_next (wpAny_call_entry slot_si_next hT entry_si_next ?_ (args_si_next _))))
    unfold Builtin.«set_iterator.__next__»
    refine wpAny_bind (wpAny_pure ?_)
    dsimp only
    refine wpAny_bind (wpAny_fieldsOf hoi hd ?_)
    dsimp only
    refine wpAny_bind (wpAny_setEntries_of ho S.data S.tab.fits ?_)
    rw [bne_self_eq_false]
    simp only [Bool.false_eq_true,if_false]
    simp only [Int.toNat_natCast]
    refine wpAny_bind (set_next ho S hb ?_)
    rw [he]
    simp only [Option.map_none]
    refine wpAny_bind (wpAny_setField hoi hd (by simp) ?_)
    show wpAny _ _ (newExc (.type "StopIteration") [] >>= _) _ _ _
    refine wpAny_bind ?_
    simp only [newExc,newTuple]
    refine wpAny_bind (wpAny_newObj_type ?_ (by size_fits))
    refine wpAny_bind (m := firstArgMember _ _) (wpAny_of_eq (a := Value.none) (by first | rfl | (simp only [firstArgMember]; rfl)) ?_)
    refine wpAny_newObj_type ?_ (by size_fits)
    simp only [raiseNew]
    refine wpAny_bind (wpAny_handled ?_)
    rw [show A.in1.handled = none from hh]
    refine wpAny_bind (wpAny_pure (wpAny_throw ?_))
    refine wpAny_bind (wpAny_isInstance (T := "StopIteration") (b := true) ⟨_,Heap.get?_push_size _ rfl,rfl⟩ isSubtype_stop ?_)
    refine wpAny_pure (hQ _ s.toks ?_)
    intro b o' hb' e'
    have hbI : b ≠ I := by simpa using hb'
    exact (((Heap.SameBut.update ..).extBut.push _).push _) b o' hbI e'
  self := fun i s Q E st hQ=>by
    obtain ⟨⟨oi,hoi,slot,hc,hd,hb⟩,ho⟩ := st
    have hT : s.TypeIs (.ref I) "set_iterator" := ⟨oi,hoi,hc⟩
    refine wpAny_pyIter_slot hT slot_si_iter (wpAny_call_entry slot_si_iter hT entry_si_iter ?_ (args_si_iter _))
    show wpAny _ _ (ret (.ref I)) _ _ s
    exact wpAny_pure ⟨_,rfl,"set_iterator",_,hT,slot_si_next.lookup,hQ⟩
end
end
section
theorem set1_spec {A:Around} {h:Heap} {n:Nat} {x dx:Addr} {v ij:Value} {Q:Value → Heap → Prop} (hvn:(v == .none) = false) (hvh:handedIn v = true) (Z:Stat (minus h.get? dx)) (R:Rm A (n + 3)) (hx:At h.get? x (XO 242 dx))
    (hd:At h.get? dx (AO [(Str.ofString "isjunk",ij),(Str.ofString "a",.none),(Str.ofString "b",.none),(Str.ofString "autojunk",.bool true)]))
    (k:∀ h',Heap.ExtBut dx h h' → At h'.get? dx (AO [(Str.ofString "isjunk",ij),(Str.ofString "a",v),(Str.ofString "b",.none),(Str.ofString "autojunk",.bool true),(Str.ofString "matching_blocks",.none),(Str.ofString "opcodes",.none)]) → Q .none h') : WP A (call (.ref 174) [.ref x,v]) Q h := by
  have hx' := minus_at hx (x_ne hx hd)
  apply enterM (args := ⟨[.ref x,v],[]⟩) (binds := [(Str.ofString "self",.ref x),(Str.ofString "a",v)]) (rest := []) (gl := []) Z R hd
  wtm_at "ent"
  intro L env A' h₁ henv R' C K₁ S
  refine S.letm ?_; clear S; intro mS MS S
  wtm_at "go"
  wtm_at "ga"
  wtm_at "go"
  rw [hvn]
  wtm_at "gb"
  wtm_at "sa"
  wtm_at "go"
  refine W_Assign2 ?_ rfl rfl
  wtm_at "go"
  wtm_at "sa"
  wtm_at "go"
  wtm_at "sa"
  wtm_at "go"
  wtm_at "f"
  rename_i S1
  exact k _ (minus_ext S1.keep) (S1.mm (by wtm_at "mem"))
end
section
section
variable {A:Around} {K N:Pt} {n₀:Nat} {env:Env} {m m':List (Str × Option Value)} {M M':List (Addr × OP)} {h h':Heap} {cs:List (Str × Addr)} {gl:List (Str × Value)}
theorem W_Dict0 {pos:Pos} {Q:Value → Heap → Prop} (q:∀ d h',New h d (DO []) h' → Q (.ref d) h') : WP A (eval (.Dict [] [] pos) env) Q h := by
  rw [eval_Dict_empty]
  refine WP_bind (WP_standAt ?_)
  refine fun s tk=>?_
  unfold newDict
  refine wpAny_newObj_type ⟨_,_,rfl,q _ _ (New.push _ rfl ?_)⟩
  have hn : (h.push { cls := .type "dict",data := .dict #[] }).DictOf (intKind prg w) h.objs.size [] := Heap.DictOf.new h
  obtain ⟨o,ho,hP⟩ := DO.to hn
  rw [Heap.get?_push_size _ rfl] at ho
  cases ho
  exact hP
end
theorem addIx_mem {B:List (Int × List Int)} {y:Int} {i n:Nat} (h:∀ p ∈ B,p.2.length ≤ n) : ∀ p ∈ addIx B y i,p.2.length ≤ n + 1 := by
  intro p hp
  unfold addIx at hp
  split at hp
  · obtain ⟨q,hq,rfl⟩ := List.mem_map.mp hp
    have := h q hq
    split
    · simp; lia
    · lia
  · rcases List.mem_append.mp hp with hp | hp
    · have := h p hp; lia
    · rw [List.mem_singleton.mp hp]; simp
theorem b2jN_mem {Y:List Int} {n:Nat} : ∀ p ∈ b2jN Y n,p.2.length ≤ n := by
  induction n with
  | zero=>intro p hp; simp [b2jN] at hp
  | succ n ih=>rw [b2jN_succ]; exact addIx_mem ih
theorem M_dict {A:Around} {h:Heap} {d:Addr} {kvs:List (Int × Value)} {name:Str} {id:String} {pl:Sem Bool} {Q:Value × List Value → Heap → Prop} (hd:At h.get? d (DO kvs)) (slot:Slot "dict" name id) (hty:typeOf (.builtin id) = pure (.type "method_descriptor"))
    (q:Q (.builtin id,[.ref d]) h) : WP A (getMethod (.ref d) name pl) Q h := by
  obtain ⟨o,ho,es,ep,⟨e1,e2,e3⟩,_⟩ := hd
  exact M_obj ho e1 e2 F.plainAttrs_dict slot hty q
end
section
section
variable {A:Around} {K N:Pt} {n₀:Nat} {env:Env} {m m':List (Str × Option Value)} {M M':List (Addr × OP)} {h h':Heap} {cs:List (Str × Addr)} {gl:List (Str × Value)}
theorem St.exact {a:Addr} {o:Obj} (S:St K n₀ env m N M h) (ho:h.get? a = some o) (u:Upd a (fun o'=>o' = o) M M') : St K n₀ env m N M' h :=
  S.upd u (fun _ _ _ e=>e) ⟨o,ho,rfl⟩
theorem St.growTo {M₁:List (Addr × OP)} {m₁:List (Str × Option Value)} (S:St K n₀ env m₁ N M₁ h) (S':St K n₀ env m N M h') (hk:∀ p ∈ M,p.1 ∈ M₁.map (·.1)) : St K n₀ env m (above h.objs.size N h') M h' :=
  { S' with
    per := fun a o e=>by
      unfold above at e
      split at e
      · exact S'.per a o e
      · exact e
    newN := fun a o e=>by
      unfold above at e
      split at e
      · exact S'.newN a o e
      · rename_i hlt; exact Nat.le_trans (Nat.le_of_lt S.le) (Nat.not_lt.mp hlt)
    offN := by
      obtain ⟨o,ho⟩ := S.isL
      unfold above
      rw [if_pos (Heap.lt_size ho)]; exact S'.offN
    offMN := fun p hp=>by
      obtain ⟨q,hq,e⟩ := List.mem_map.mp (hk p hp)
      obtain ⟨o,ho,_⟩ := S.led q hq
      unfold above
      rw [if_pos (e ▸ Heap.lt_size ho)]; exact S'.offMN p hp }
noncomputable def KI (d:Addr) (n ep i:Nat) : OP := fun o=>o.cls = .type "dict_keyiterator" ∧ o.data = .fields #[.ref d,.int i 0,.int n 0,.int ep 0]
theorem KI.iff {I d:Addr} {i n ep:Nat} : At h.get? I (KI d n ep i) ↔ h.IsKeyIter I d i n ep := ⟨fun ⟨o,x⟩=>⟨o,x⟩,fun ⟨o,x⟩=>⟨o,x⟩⟩
theorem itr_keys (hh:A.handled = none) (I d:Addr) (hne:d ≠ I) (kvs:List (Int × Value)) (ep:Nat) : Itr A I kvs.length (fun i v=>∃ k x t,kvs[i]? = some (k,x) ∧ v = .int k t) (KI d kvs.length ep) (fun h=>h.DictAt (intKind prg w) d kvs ep) where
  item := fun i h Q hi ha hn q=>WP_lib fun s e=>by
    subst e
    refine (Walks.dictKeys (prog := prg) (w := w) (knd := intKind prg w) hh I d hne kvs ep).item i s _ _ hi ⟨KI.iff.mp ha,hn⟩ fun v h' tk hv st hk=>⟨h',tk,rfl,q v h' ?_ (KI.iff.mpr st.1) fun b o hb e=>hk b o (by simpa using hb) e⟩
    obtain ⟨k,x,h1,h2⟩ := hv
    obtain ⟨t,rfl⟩ := Value.isInt_shape h2
    exact ⟨k,x,t,h1,rfl⟩
  done := fun h Q ha hn q=>WP_lib fun s e=>by
    subst e
    exact (Walks.dictKeys (prog := prg) (w := w) (knd := intKind prg w) hh I d hne kvs ep).done s _ _ ⟨KI.iff.mp ha,hn⟩ fun h' tk hk=>⟨h',tk,rfl,q h' fun b o hb e=>hk b o (by simpa using hb) e⟩
theorem O_keys {d:Addr} {kvs:List (Int × Value)} {Q:Value → Heap → Prop} (hd:At h.get? d (DO kvs)) (lo:(d == sysModules) = false) (q:∀ v h',New h v (fun o=>o = { cls := .type "dict_keys",data := .fields #[.ref d] }) h' → Q (.ref v) h') :
    WP A (call (.builtin "dict.keys") [.ref d]) Q h :=
  WP_lib fun s e=>by
    subst e
    have hD := DO.of hd
    exact call_meetsIn PySem.F.slot_dict_keys hD.typeIs PySem.F.entry_dict_keys (PySem.F.args_dict_keys_1 _) (kdl_meets_keys (intKind prg w) d lo) ⟨⟨kvs,hD⟩,⟨_,_,rfl,q _ _ (New.push _ rfl rfl)⟩⟩
theorem iter_keys {v d:Addr} {kvs:List (Int × Value)} {ep:Nat} {Q:Value → Heap → Prop} (hv:At h.get? v (fun o=>o = { cls := .type "dict_keys",data := .fields #[.ref d] })) (hd:h.DictAt (intKind prg w) d kvs ep) (q:∀ I h',New h I (KI d kvs.length ep 0) h' → Q (.ref I) h') : WP A (pyIter (.ref v)) Q h :=
  WP_lib fun s e=>by
    subst e
    obtain ⟨o,ho,rfl⟩ := hv
    exact kdl_pyIter_keys ⟨_,ho,rfl,rfl⟩ hd ⟨_,_,rfl,q _ _ (New.push _ rfl ⟨rfl,rfl⟩)⟩
theorem iter_set {a:Addr} {o:Obj} {es:Array (Int × Value)} {ep:Nat} {t:SetTable} {Q:Value → Heap → Prop} (ho:h.get? a = some o) (T:SetAt o es ep t) (q:∀ I h',New h I (SI a es ep t 0) h' → Q (.ref I) h') : WP A (pyIter (.ref a)) Q h :=
  WP_lib fun s e=>by
    subst e
    refine iter_set_any ho T ⟨_,_,rfl,q _ _ (New.push _ rfl ⟨0,rfl,rfl,fun _=>?_⟩)⟩
    exact below_eq T.tab.rise (Nat.zero_le _) (fun k hk=>by lia) (fun k _ _=>Nat.zero_le _)
theorem itr_set (hh:A.handled = none) (I a:Addr) (hne:a ≠ I) {o:Obj} {es:Array (Int × Value)} {ep:Nat} {t:SetTable} (T:SetAt o es ep t) : Itr A I es.size (fun i v=>∃ e,(walkL a es ep)[i]? = some e ∧ v = e.2) (SI a es ep t) (fun h=>h.get? a = some o) where
  item := fun i h Q hi ha hn q=>WP_lib fun s e=>by
    subst e
    exact (Walks.set hh I a hne T).item i s _ _ hi ⟨ha,hn⟩ fun v h' tk hv st hk=>⟨h',tk,rfl,q v h' hv st.1 fun b o hb e=>hk b o (by simpa using hb) e⟩
  done := fun h Q ha hn q=>WP_lib fun s e=>by
    subst e
    exact (Walks.set hh I a hne T).done s _ _ ⟨ha,hn⟩ fun h' tk hk=>⟨h',tk,rfl,q h' fun b o hb e=>hk b o (by simpa using hb) e⟩
theorem fn_nobool : typeLookup (.type "function") "__bool__" = pure none := by rw [typeLookup_type,builtinLookup_eq_fast]; kernel_rfl
theorem fn_nolen : typeLookup (.type "function") "__len__" = pure none := by rw [typeLookup_type,builtinLookup_eq_fast]; kernel_rfl
theorem O_truthy_fn {f:Addr} {o:Obj} {Q:Bool → Heap → Prop} (Z:Stat h.get?) (ho:(KM w.params).lookup f = some o) (hc:o.cls = .type "function") (q:Q true h) : WP A (truthy (.ref f)) Q h :=
  WP_lib fun s e=>by
    subst e
    have hT : s.TypeIs (.ref f) "function" := ⟨o,Z.inn _ _ ho,hc⟩
    unfold truthy
    refine wpAny_bind (m := callSpecial? (.ref f) (Str.ofString "__bool__")) (wpAny_bind (wpAny_specialOf hT fn_nobool (wpAny_pure ?_)))
    refine wpAny_bind (wpAny_specialOf hT fn_nolen ?_)
    exact wpAny_pure ⟨_,_,rfl,q⟩
theorem W_DelSub {o i:PySem.Expr} {p pos:Pos} {Q:Flow → Heap → Prop} (x:WP A (eval o env) (fun ov h1=>WP A (eval i env) (fun iv h2=>WP A (delItem ov iv) (fun _ h3=>Q .next h3) h2) h1) h) : WP A (exec (.Delete [.Subscript o i p] pos) env) Q h := by
  rw [arm_exec_Delete,arm_deleteEach_cons,arm_deleteEach_nil,arm_delete_Subscript]
  refine WP_bind (WP_standAt (WP_bind (WP_bind (WP_bind (x.mono fun ov h1 y=>?_)))))
  refine WP_bind (WP_holding (y.mono fun iv h2 z=>WP_bind (WP_standAt (WP_bind (WP_holding (z.mono fun _ h3 u=>?_))))))
  exact WP_release (WP_pure (WP_pure u))
theorem O_ddel {d:Addr} {kvs:List (Int × Value)} {k:Int} {t:Tok} {Q:Unit → Heap → Prop} (S:St K n₀ env m N M h) (hd:(d,DO kvs) ∈ M) (hz:kvs.length ≤ sizeLine) (hin:(valueAt kvs k).isSome = true) (u:Upd d (DO (without kvs k)) M M') (q:∀ h',St K n₀ env m N M' h' → Q () h') : WP A (delItem (.ref d) (.int k t)) Q h :=
  WP_lib fun s e=>by
    subst e
    have hD := DO.of (S.mm hd)
    have hT : s.TypeIs (.ref d) "dict" := hD.typeIs
    refine wpAny_delItem_slot hT (by decide) F.slot_dict_delitem (call_meetsIn F.slot_dict_delitem hT F.entry_dict_delitem (F.args_dict_delitem_2 _ _) (meets_dict_delitem_pairs (intKind prg w) d (isInt_self k t)) ⟨kvs,hD,hz,hin,fun h' hD' hs=>⟨_,_,rfl,q h' (S.upd u hs.extBut (DO.to hD'))⟩⟩)
end
end
section
theorem addIx_keys {B:List (Int × List Int)} {y:Int} {i:Nat} : ∀ p ∈ addIx B y i,p.1 = y ∨ p.1 ∈ B.map (·.1) := by
  intro p hp
  unfold addIx at hp
  split at hp
  · obtain ⟨q,hq,rfl⟩ := List.mem_map.mp hp
    refine .inr ?_
    split <;> exact List.mem_map_of_mem (f := (·.1)) hq
  · rcases List.mem_append.mp hp with hp | hp
    · exact .inr (List.mem_map_of_mem (f := (·.1)) hp)
    · rw [List.mem_singleton.mp hp]; exact .inl rfl
theorem b2jN_keys {Y:List Int} {n:Nat} (hn:n ≤ Y.length) : ∀ k ∈ (b2jN Y n).map (·.1),k ∈ Y := by
  induction n with
  | zero=>intro k hk; simp [b2jN] at hk
  | succ n ih =>
    intro k hk
    rw [b2jN_succ] at hk
    obtain ⟨p,hp,rfl⟩ := List.mem_map.mp hk
    rcases addIx_keys p hp with h | h
    · rw [h,List.getD_eq_getElem?_getD,List.getElem?_eq_getElem (by lia -zetaDelta)]
      exact List.getElem_mem _
    · exact ih (by lia -zetaDelta) _ h
theorem valueAt_some {T:Tab} {k:Int} (h:k ∈ T.map (·.1)) : (valueAt (kvT T) k).isSome = true := by
  cases e : valueAt (kvT T) k with
  | some v=>rfl
  | none =>
    obtain ⟨h1,_⟩ := valueAt_none e
    rw [List.any_eq_false] at h1
    obtain ⟨p,hp,rfl⟩ := List.mem_map.mp h
    have := h1 (p.1,p.2.2) (List.mem_map_of_mem (f := fun p : Int × Addr × List Int=>(p.1,p.2.2)) hp)
    simp at this
theorem without_kvT {T:Tab} {k:Int} : without (kvT T) k = kvT (T.filter fun p=>decide (p.1 ≠ k)) := by
  unfold without kvT
  rw [List.filter_map]
  rfl
theorem plT_keys (T:Tab) : (plT T).map (·.1) = T.map (·.1) := by simp [plT,Function.comp_def]
namespace chain_b_specN
abbrev TT : Prop := ∀ {A:Around} {h:Heap} {n:Nat} {x dx b:Addr} {av:Value} {vb:List Value} {Y:List Int} {Q:Value → Heap → Prop} (Z:Stat (minus h.get? dx)) (R:Rm A (n + 9)) (hx:At h.get? x (XO 242 dx)) (hb:At h.get? b (LO vb)) (hj:IntsAre vb Y) (hY:Y.length ≤ 11) (oY:∀ y ∈ Y,0 ≤ y ∧ y < 256) (hd:At h.get? dx (AO [(Str.ofString "isjunk",.ref 269),(Str.ofString "a",av),(Str.ofString "b",.ref b),(Str.ofString "autojunk",.bool true),(Str.ofString "matching_blocks",.none),(Str.ofString "opcodes",.none),(Str.ofString "fullbcount",.none)])) (k:∀ h' d sj sp T,Heap.ExtBut dx h h' → h.objs.size ≤ d → h.objs.size ≤ sj → h.objs.size ≤ sp → (∀ p ∈ T,h.objs.size ≤ p.2.1) →
      At h'.get? dx (AO [(Str.ofString "isjunk",.ref 269),(Str.ofString "a",av),(Str.ofString "b",.ref b),(Str.ofString "autojunk",.bool true),(Str.ofString "matching_blocks",.none),(Str.ofString "opcodes",.none),(Str.ofString "fullbcount",.none),(Str.ofString "b2j",.ref d),(Str.ofString "bjunk",.ref sj),(Str.ofString "bpopular",.ref sp)]) →
      At h'.get? d (DO (kvT T)) → (∀ p ∈ T,At h'.get? p.2.1 (IO p.2.2)) → plT T = (b2jF Y).filter (fun p=>keptB p.1) → At h'.get? sj (KO (((b2jF Y).map (·.1)).filter fun y=>!keptB y)) → Q .none h'),WP A (call (.ref 188) [.ref x]) Q h
noncomputable def PP : {p:Heap → Nat → Addr → Addr → Addr → Value → List Int → (Value → Heap → Prop) → Addr → Env → Around → Heap → Prop // (∀ h n x dx b av Y Q L env A' h₁,p h n x dx b av Y Q L env A' h₁) → TT} := ⟨_,by
  intro f A h n x dx b av vb Y Q Z R hx hb hj hY oY hd k
  have hx' := minus_at hx (x_ne hx hd)
  have hbd : b ≠ dx := by
    rintro rfl
    obtain ⟨o,ho,n1,rfl⟩ := hb
    obtain ⟨o',ho',es,n2,rfl,_⟩ := hd
    rw [ho] at ho'
    simp at ho'
  have hb' := minus_at hb hbd
  have hvb : vb.length = Y.length := hj.length
  apply enterM (args := ⟨[.ref x],[]⟩) (binds := [(Str.ofString "self",.ref x)]) (rest := [Str.ofString "b",Str.ofString "b2j",Str.ofString "i",Str.ofString "elt",Str.ofString "indices",Str.ofString "junk",Str.ofString "isjunk",Str.ofString "popular",Str.ofString "n",Str.ofString "ntest",Str.ofString "idxs"]) (gl := [(Str.ofString "enumerate",.type "enumerate"),(Str.ofString "set",.type "set"),(Str.ofString "len",.builtin "len")]) Z R hd
  wtm_at "ent"
  intro L env A' h₁
  revert A vb Z R hx hb hj hY oY hd k hx' hbd hb' hvb
  exact @f h n x dx b av Y Q L env A' h₁⟩
noncomputable def SS := pick1 (by have := neA; exact inferInstance) (un (un (un (un (un (un (un (un (un (un (un PP.1)))))))))))
noncomputable def h := SS.1.1.1.1.1.1.1.1.1.1.1.1
noncomputable def n := SS.1.1.1.1.1.1.1.1.1.1.1.2
noncomputable def x := SS.1.1.1.1.1.1.1.1.1.1.2
noncomputable def dx := SS.1.1.1.1.1.1.1.1.1.2
noncomputable def b := SS.1.1.1.1.1.1.1.1.2
noncomputable def av := SS.1.1.1.1.1.1.1.2
noncomputable def Y := SS.1.1.1.1.1.1.2
noncomputable def Q := SS.1.1.1.1.1.2
noncomputable def L := SS.1.1.1.1.2
noncomputable def env := SS.1.1.1.2
noncomputable def A' := SS.1.1.2
noncomputable def h₁ := SS.1.2
theorem main : PP.1 h n x dx b av Y Q L env A' h₁ := by
  intro A vb Z R hx hb hj hY oY hd k hx' hbd hb' hvb henv R' C K₁ S
  refine S.letm ?_; clear S; intro mS MS S
  wtm_at "go"
  wtm_at "ga"
  wtm_at "go"
  refine W_Assign2 ?_ rfl rfl
  refine W_Dict0 ?_
  intro d g2 n2
  rename_i g1 S1
  have S2 := S1.born n2
  wtm_at "go"
  wtm_at "sa"
  wtm_at "go"
  rename_i g3 S3 _ g4 S4
  wtm_at "kp"
  refine O_enumerate S4 (S4.kk hb') ?_
  intro e it g5 S5
  refine iter_enum (S5.mm (by wtm_at "mem")) ?_
  have hsz : 254 < h.objs.size := let ⟨o,ho,_⟩ := hv_at (Z.up minus_sub); Heap.lt_size ho
  have hdd : (d == sysModules) = false := by
    have h1 := n2.ge
    have h2 := S1.newer
    rw [beq_eq_false_iff_ne]
    exact Nat.ne_of_gt (Nat.lt_of_lt_of_le (by show 1 < _; exact Nat.lt_trans (by decide) hsz) (Nat.le_trans h2 h1))
  let mB1 (q3:Option Value) (q4:Option Value) (q5:Option Value) (q6:Option Value) (q7:Option Value) : List (Str × Option Value) := [(Str.ofString "self",some (Value.ref x)),(Str.ofString "b",some (Value.ref b)),(Str.ofString "b2j",some (Value.ref d)),(Str.ofString "i",q3),(Str.ofString "elt",q4),(Str.ofString "indices",q5),(Str.ofString "junk",q6),(Str.ofString "isjunk",q7),(Str.ofString "popular",none),(Str.ofString "n",none),(Str.ofString "ntest",none),(Str.ofString "idxs",none)]
  let aD : List (Str × Value) := [(Str.ofString "isjunk",Value.ref 269),(Str.ofString "a",av),(Str.ofString "b",Value.ref b),(Str.ofString "autojunk",Value.bool true),(Str.ofString "matching_blocks",Value.none),(Str.ofString "opcodes",Value.none),(Str.ofString "fullbcount",Value.none),(Str.ofString "b2j",Value.ref d)]
  let Jz0 : Inv := fun i m N M=>E4 fun T u1 u2 u3=>C5 (m = (mB1 u1 u2 u3 none none)) (N = (fun _=>none)) (M = (d,DO (kvT T)) :: (dx,AO aD) :: ledT T) (plT T = b2jN Y i) (∀ p ∈ T,h.objs.size ≤ p.2.1)
  refine for_enum (vs := vb) R'.h Jz0 S5 ⟨[],_,_,_,rfl,rfl,rfl,rfl,fun _ h=>nomatch h⟩ (fun i m N M h P R hJ S=>S.kk hb') ?_ ?_
  · rintro i v t c m N M g hv ⟨T,u1,u2,u3,rfl,rfl,rfl,hT,hge⟩ S
    refine S.letm ?_; clear S; intro mS MS S
    obtain ⟨y,ty,rfl,hy⟩ := ints_get hj hv
    have hgd : Y.getD i 0 = y := by rw [List.getD_eq_getElem?_getD,hy]; rfl
    have hTl : T.length ≤ i := by have := @b2jN_len Y i; rw [← hT] at this; simpa [plT] using this
    have hil : i < Y.length := by have := (List.getElem?_eq_some_iff.mp hy).1; exact this
    have nd : (T.map (·.1)).Nodup := by
      obtain ⟨o,ho,es,ep,_,_,_,_,hn⟩ := S.mm (a := d) (P := DO (kvT T)) (by wtm_at "mem")
      simpa [kvT,Function.comp_def] using hn
    refine' W_assign_Tuple (R'.le (by lia -zetaDelta)) (S.mm (by wtm_at "mem")) rfl ?y3 ?_
    case y3=>rfl
    intro g1 G1
    have S1 := (S.keeps G1).drop
    wtm_at "go"
    rename_i g2 S2 _ g3 S3
    unfold Turn
    wtm_at "go"
    refine M_dict (S3.mm (by wtm_at "mem")) F.slot_dict_setdefault F.type_dict_setdefault ?_
    wtm_at "go"
    wtm_at "new"
    intro c4 g4 hc4 _ K4 S4
    wtm_at "go"
    wtm_at "kp"
    refine O_setdefault S4 (by wtm_at "mem") hdd (by rw [sizeLine_eq]; simp [kvT]; lia -zetaDelta) (by wtm_at "upd") ?_ ?_
    · intro z hz
      obtain ⟨a,is,rfl,hin,hany⟩ := valueAt_kvT hz
      have S5 := S4.drop
      have hisl : is.length ≤ i := b2jN_mem (Y := Y) (n := i) (y,is) (by rw [← hT]; exact List.mem_map_of_mem (f := fun p : Int × Addr × List Int=>(p.1,p.2.2)) hin)
      wtm_at "go"
      rename_i g5 S6
      have hmem : (a,IO is) ∈ ledT T := List.mem_map_of_mem (f := fun p : Int × Addr × List Int=>(p.2.1,IO p.2.2)) hin
      obtain ⟨ws,hws,_⟩ := IO.lo (S6.mm (List.mem_cons_of_mem _ (List.mem_cons_of_mem _ (List.mem_cons_of_mem _ (List.mem_cons_of_mem _ hmem)))))
      refine M_list hws F.slot_list_append F.type_list_append ?_
      wtm_at "go"
      wtm_at "kp"
      refine O_append_io S6 (List.mem_cons_of_mem _ (List.mem_cons_of_mem _ (List.mem_cons_of_mem _ (List.mem_cons_of_mem _ hmem)))) (by rw [sizeLine_eq]; lia -zetaDelta) (.tail (.tail (.tail (.tail (upd_ledT hin nd))))) ?_
      intro g6 S7
      wtm_at "nr"
      wtm_at "go"
      refine' ⟨_,_,_,⟨putT T y i,_,_,_,rfl,rfl,?q1,?q2,?q4⟩,S7⟩
      case q1=>rw [putT_kv]
      case q2=>rw [putT_pl hany,hT,b2jN_succ,hgd]
      case q4 =>
        intro p hp
        obtain ⟨p',hp',rfl⟩ := List.mem_map.mp hp
        have := hge p' hp'
        split <;> exact this
    · intro hn g5 S5
      obtain ⟨hany,hst⟩ := valueAt_none hn
      try dsimp +zetaDelta only [setAt] at S5
      rw [hst] at S5
      dsimp only at S5
      have S6 := S5.impl (P' := IO []) (fun o ho=>⟨[],ho,.nil⟩)
      wtm_at "go"
      rename_i g6 S7
      obtain ⟨ws,hws,_⟩ := IO.lo (S7.mm (a := c4) (P := IO []) (by wtm_at "mem"))
      refine M_list hws F.slot_list_append F.type_list_append ?_
      wtm_at "go"
      wtm_at "kp"
      refine O_append_io S7 (by wtm_at "mem") (by simp [sizeLine_eq]) .head ?_
      intro g7 S8
      wtm_at "nr"
      wtm_at "go"
      have ekv : kvT (T ++ [(y,c4,[(i:Int)])]) = kvT T ++ [(y,.ref c4)] := by simp [kvT]
      have eld : ledT (T ++ [(y,c4,[(i:Int)])]) = ledT T ++ [(c4,IO [(i:Int)])] := by simp [ledT]
      have epl : plT (T ++ [(y,c4,[(i:Int)])]) = addIx (plT T) y i := by unfold addIx; rw [if_neg (by rw [hany]; exact Bool.false_ne_true)]; simp [plT]
      refine' ⟨_,_,_,⟨T ++ [(y,c4,[(i:Int)])],_,_,_,rfl,rfl,rfl,?q2,?q4⟩,?q3⟩
      case q2=>rw [epl,hT,b2jN_succ,hgd]
      case q4 =>
        intro p hp
        rcases List.mem_append.mp hp with hp | hp
        · exact hge p hp
        · rw [List.mem_singleton.mp hp]; exact hc4
      case q3 =>
        rw [ekv,eld]
        exact S8.perm (List.perm_append_singleton _ (_ :: _ :: _ :: _ :: _)).symm
  · rintro m N M g ⟨T,u1,u2,u3,rfl,rfl,rfl,hT,hge⟩ S
    refine S.letm ?_; clear S; intro mS MS S
    have nd : (T.map (·.1)).Nodup := by
      obtain ⟨o,ho,es,ep,_,_,_,_,hn⟩ := S.mm (a := d) (P := DO (kvT T)) (by wtm_at "mem")
      simpa [kvT,Function.comp_def] using hn
    have hTl : T.length ≤ 11 := by have := @b2jN_len Y vb.length; rw [← hT,plT,List.length_map] at this; lia -zetaDelta
    have hd0 : h.objs.size ≤ d := Nat.le_trans S1.newer n2.ge
    have hkeys : ∀ p ∈ T,0 ≤ p.1 ∧ p.1 < 256 := fun p hp=>oY _ (b2jN_keys (n := vb.length) (by lia -zetaDelta) _ (by rw [← hT,plT_keys]; exact List.mem_map_of_mem hp))
    try dsimp only
    wtm_at "go"
    refine W_Assign2 ?_ rfl rfl
    wtm_at "go"
    wtm_at "kp"
    refine O_set0 ?_
    intro sj g1 n1
    have S2 := S.born n1
    have hsj := S.born_ge n1
    wtm_at "go"
    wtm_at "sa"
    wtm_at "go"
    rename_i g3 S4
    wtm_at "ga"
    wtm_at "go"
    rename_i g4 S5
    refine O_truthy_fn (o := (KM w.params).lookup 269 |>.getD default) (Z.up S5.keep) (by k_is) (by kernel_rfl) ?_
    wtm_at "gb"
    refine M_dict (S5.mm (by wtm_at "mem")) F.slot_dict_keys F.type_dict_keys ?_
    wtm_at "go"
    wtm_at "kp"
    refine O_keys (S5.mm (by wtm_at "mem")) hdd ?_
    intro vk g5 n5
    have S6 := S5.born n5
    obtain ⟨od,hod,hPd⟩ := S6.mm (a := d) (P := DO (kvT T)) (by wtm_at "mem")
    obtain ⟨ep,hA0⟩ := (DO.of (⟨od,hod,hPd⟩ : At g5.get? d (DO (kvT T)))).dictAt
    have hDA : ∀ h' : Heap,h'.get? d = some od → h'.DictAt (intKind prg w) d (kvT T) ep := fun h' e=>hA0.at' fun o ho=>by
      have : od = o := Option.some.inj (hod.symm.trans ho)
      rw [← this]; exact e
    have S7 := S6.exact hod (.tail (.tail .head))
    refine iter_keys (S7.mm (by wtm_at "mem")) (hDA _ hod) ?_
    intro I g6 n6
    have hneI : d ≠ I := by rintro rfl; have := n6.none; rw [hod] at this; cases this
    have S8 := (S7.born n6).subl (.cons_cons _ (.cons _ (.refl _)))
    let aE : List (Str × Value) := [(Str.ofString "isjunk",Value.ref 269),(Str.ofString "a",av),(Str.ofString "b",Value.ref b),(Str.ofString "autojunk",Value.bool true),(Str.ofString "matching_blocks",Value.none),(Str.ofString "opcodes",Value.none),(Str.ofString "fullbcount",Value.none),(Str.ofString "b2j",Value.ref d),(Str.ofString "bjunk",Value.ref sj)]
    let Jz1 : Inv := fun i m N M=>∃ u2,C3 (m = (mB1 u1 u2 u3 (some (Value.ref sj)) (some (Value.ref 269)))) (N = (fun _=>none)) (M = (sj,KO (((T.take i).map (·.1)).filter fun y=>!keptB y)) :: (d,fun o'=>o' = od) :: (dx,AO aE) :: ledT T)
    refine for_itr (itr_keys R'.h I d hneI (kvT T) ep) Jz1 S8 ⟨_,rfl,rfl,rfl⟩ (fun _=>rfl) (fun i m N M h P hJ S=>?_) ?_ ?_
    · obtain ⟨u2,rfl,rfl,rfl⟩ := hJ
      obtain ⟨o',e1,e2⟩ := S.mm (a := d) (P := fun o'=>o' = od) (by wtm_at "mem")
      exact hDA _ (e2 ▸ e1)
    · rintro i v m N M g hi hv ⟨u2,rfl,rfl,rfl⟩ S
      refine S.letm ?_; clear S; intro mS MS S
      obtain ⟨k0,xv,tk,hk0,rfl⟩ := hv
      obtain ⟨p,hp,hp1⟩ : ∃ p,T[i]? = some p ∧ p.1 = k0 := by
        unfold kvT at hk0
        rw [List.getElem?_map] at hk0
        cases e : T[i]? with
        | none=>rw [e] at hk0; cases hk0
        | some p=>rw [e] at hk0; simp at hk0; exact ⟨p,rfl,hk0.1⟩
      have hk := hkeys p (List.mem_of_getElem? hp)
      rw [hp1] at hk
      have hiT := (List.getElem?_eq_some_iff.mp hp).1
      have ef : ((T.take (i + 1)).map (·.1)).filter (fun y=>!keptB y) = ((T.take i).map (·.1)).filter (fun y=>!keptB y) ++ (if (!keptB k0) = true then [k0] else []) := by
        rw [List.take_add_one,hp,Option.toList_some,List.map_append,List.filter_append,List.map_cons,List.map_nil,hp1]
        by_cases c : keptB k0 = true <;> simp [c]
      wtm_at "go"
      rename_i g2 S2
      unfold Turn
      wtm_at "go"
      wtm_at "kp"
      refine check_spec (n := n) hk.1 hk.2 ((Z.up S2.keep)) (R'.le (by lia -zetaDelta)) ?_
      intro g3 K3
      have S3 := S2.keeps K3
      wtm_at "go"
      split
      · rename_i hkk
        rw [if_pos hkk] at ef
        wtm_at "go"
        refine M_set (S3.mm (by wtm_at "mem")) F.slot_set_add F.type_set_add ?_
        wtm_at "go"
        wtm_at "kp"
        refine O_setadd S3 (by wtm_at "mem") hk.1 hk.2 (fun hin=>?_) ?_ (by wtm_at "upd") ?_
        · have h1 := (List.mem_filter.mp hin).1
          have h2 : T.map (·.1) = (T.take i).map (·.1) ++ (T.drop i).map (·.1) := by rw [← List.map_append,List.take_append_drop]
          have h3 : k0 ∈ (T.drop i).map (·.1) := by
            rw [← hp1]
            refine List.mem_map_of_mem ?_
            rw [List.drop_eq_getElem_cons hiT]
            have := (List.getElem?_eq_some_iff.mp hp).2
            rw [this]; exact List.mem_cons_self
          rw [h2,List.nodup_append] at nd
          exact nd.2.2 _ h1 _ h3 rfl
        · have h1 := List.length_filter_le (fun y=>!keptB y) ((T.take i).map (·.1))
          rw [List.length_map,List.length_take] at h1
          lia -zetaDelta
        intro g4 S4
        wtm_at "nr"
        wtm_at "go"
        refine' ⟨_,_,_,⟨_,rfl,rfl,?q2⟩,S4⟩
        case q2=>rw [ef]; try rfl
      · rename_i hkk
        rw [if_neg hkk,List.append_nil] at ef
        wtm_at "go"
        refine' ⟨_,_,_,⟨_,rfl,rfl,?q2⟩,S3⟩
        case q2=>rw [ef]; try rfl
    rintro m N M g ⟨u4,rfl,rfl,rfl⟩ S
    have hlen : (kvT T).length = T.length := by simp [kvT]
    rw [hlen,List.take_of_length_le (Nat.le_refl _)] at S
    refine S.letm ?_; clear S; intro mS MS S
    try dsimp only
    wtm_at "go"
    obtain ⟨os,hos,es,ep2,ts,TS,hperm⟩ := S.mm (a := sj) (P := KO ((T.map (·.1)).filter fun y=>!keptB y)) (by wtm_at "mem")
    have S9 := S.exact hos .head
    refine iter_set hos TS ?_
    intro I2 g7 n7
    have S10 := S9.born n7
    have hneS : sj ≠ I2 := by rintro rfl; have := n7.none; rw [hos] at this; cases this
    obtain ⟨Lw,hLw⟩ : ∃ Lw,Lw = walkL sj es ep2 := ⟨_,rfl⟩
    have hLp : (Lw.map (·.1)).Perm ((T.map (·.1)).filter fun y=>!keptB y) := by rw [hLw]; exact (walk_perm.map (·.1)).trans hperm
    have hLn : (Lw.map (·.1)).Nodup := hLp.nodup_iff.mpr (nd.filter _)
    have hLl : Lw.length = es.size := by rw [hLw,walk_perm.length_eq,Array.length_toList]
    have e0 : (T.filter fun p=>!((Lw.take 0).map (·.1)).contains p.1) = T := by simp
    have S11 := S10.upd (P' := DO (kvT (T.filter fun p=>!((Lw.take 0).map (·.1)).contains p.1))) (.tail (.tail .head)) (fun _ _ _ e=>e) (by
      rw [e0]
      obtain ⟨o',e1,e2⟩ := S10.mm (a := d) (P := fun o'=>o' = od) (by wtm_at "mem")
      exact ⟨o',e1,by rw [e2]; exact hPd⟩)
    let Jz2 : Inv := fun i m N M=>∃ u2,C3 (m = (mB1 u1 u2 u3 (some (Value.ref sj)) (some (Value.ref 269)))) (N = (fun _=>none)) (M = (sj,fun o'=>o' = os) :: (d,DO (kvT (T.filter fun p=>!((Lw.take i).map (·.1)).contains p.1))) :: (dx,AO aE) :: ledT T)
    refine for_itr (itr_set R'.h I2 sj hneS TS) Jz2 S11 ⟨_,rfl,rfl,rfl⟩ (fun _=>rfl) (fun i m N M h P hJ S=>?_) ?_ ?_
    · obtain ⟨u2,rfl,rfl,rfl⟩ := hJ
      obtain ⟨o',e1,e2⟩ := S.mm (a := sj) (P := fun o'=>o' = os) (by wtm_at "mem")
      exact e2 ▸ e1
    · rintro i v m N M g hi hv ⟨u2,rfl,rfl,rfl⟩ S
      refine S.letm ?_; clear S; intro mS MS S
      obtain ⟨e,he,rfl⟩ := hv
      rw [← hLw] at he
      have hin : e ∈ es.toList := by
        have := List.mem_of_getElem? he
        rw [hLw] at this
        exact walk_perm.subset this
      obtain ⟨k0,v0⟩ := e
      obtain ⟨tk,hv0,h0,h1⟩ := TS.el _ hin
      dsimp only at hv0 h0 h1 ⊢
      subst hv0
      have hiL := (List.getElem?_eq_some_iff.mp he).1
      have hk0 : k0 ∈ T.map (·.1) := by
        have : k0 ∈ Lw.map (·.1) := List.mem_map_of_mem (f := (·.1)) (List.mem_of_getElem? he)
        exact (List.mem_filter.mp (hLp.subset this)).1
      have hnot : k0 ∉ (Lw.take i).map (·.1) := by
        intro hc
        have h2 : Lw.map (·.1) = (Lw.take i).map (·.1) ++ (Lw.drop i).map (·.1) := by rw [← List.map_append,List.take_append_drop]
        have h3 : k0 ∈ (Lw.drop i).map (·.1) := by
          rw [List.drop_eq_getElem_cons hiL,(List.getElem?_eq_some_iff.mp he).2]
          exact List.mem_cons_self
        rw [h2,List.nodup_append] at hLn
        exact hLn.2.2 _ hc _ h3 rfl
      wtm_at "go"
      rename_i g2 S2
      unfold Turn
      wtm_at "st"
      refine W_DelSub ?_
      wtm_at "go"
      refine O_ddel S2 (by wtm_at "mem") ?_ ?_ (by wtm_at "upd") ?_
      · have := List.length_filter_le (fun p:Int × Addr × List Int=>!((Lw.take i).map (·.1)).contains p.1) T
        rw [kvT,List.length_map,sizeLine_eq]; lia -zetaDelta
      · refine valueAt_some ?_
        obtain ⟨p,hp,e⟩ := List.mem_map.mp hk0
        refine List.mem_map.mpr ⟨p,List.mem_filter.mpr ⟨hp,?_⟩,e⟩
        rw [e]
        simpa using hnot
      intro g3 S3
      have ew : without (kvT (T.filter fun p=>!((Lw.take i).map (·.1)).contains p.1)) k0 = kvT (T.filter fun p=>!((Lw.take (i + 1)).map (·.1)).contains p.1) := by
        rw [without_kvT,List.filter_filter]
        congr 1
        refine List.filter_congr fun p _=>?_
        rw [List.take_add_one,he,Option.toList_some,List.map_append,List.map_cons,List.map_nil]
        rw [Bool.eq_iff_iff]
        simp [List.mem_append,not_or,and_comm]
      wtm_at "go"
      refine' ⟨_,_,_,⟨_,rfl,rfl,?q2⟩,S3⟩
      case q2=>rw [← ew]; try rfl
    rintro m N M g ⟨u5,rfl,rfl,rfl⟩ S
    have hTf : (T.filter fun p=>!((Lw.take es.size).map (·.1)).contains p.1) = T.filter fun p=>keptB p.1 := by
      rw [List.take_of_length_le (by lia -zetaDelta)]
      refine List.filter_congr fun p hp=>?_
      rw [Bool.eq_iff_iff]
      simp only [Bool.not_eq_true',List.contains_eq_mem,decide_eq_false_iff_not]
      constructor
      · intro hc
        cases hk : keptB p.1 with
        | true=>rfl
        | false=>exact absurd (hLp.symm.subset (List.mem_filter.mpr ⟨List.mem_map_of_mem (f := (·.1)) hp,by rw [hk]; rfl⟩)) hc
      · intro hk hc
        have := (List.mem_filter.mp (hLp.subset hc)).2
        rw [hk] at this
        cases this
    rw [hTf] at S
    refine S.letm ?_; clear S; intro mS MS S
    try dsimp only
    wtm_at "go"
    refine W_Assign2 ?_ rfl rfl
    wtm_at "go"
    wtm_at "kp"
    refine O_set0 ?_
    intro sp h2 m2
    have T2 := S.born m2
    have hsp := S.born_ge m2
    wtm_at "go"
    wtm_at "sa"
    wtm_at "go"
    rename_i h3 T3
    wtm_at "kp"
    refine O_len (T3.kk hb') (by rw [sizeLine_eq]; lia -zetaDelta) ?_
    intro tn
    wtm_at "go"
    rename_i h4 T4
    wtm_at "ga"
    wtm_at "go"
    rw [if_pos rfl]
    wtm_at "go"
    rw [if_neg (by simp; lia -zetaDelta)]
    wtm_at "gb"
    wtm_at "f"
    refine k _ d sj sp (T.filter fun p=>keptB p.1) (minus_ext T4.keep) hd0 hsj hsp (fun p hp=>hge p (List.mem_filter.mp hp).1) (T4.mm (by wtm_at "mem")) (T4.mm (by wtm_at "mem")) (fun p hp=>?_) ?_ ?_
    · have hm : (p.2.1,IO p.2.2) ∈ ledT T := List.mem_map_of_mem (f := fun p : Int × Addr × List Int=>(p.2.1,IO p.2.2)) (List.mem_filter.mp hp).1
      exact T4.mm (List.mem_cons_of_mem _ (List.mem_cons_of_mem _ (List.mem_cons_of_mem _ (List.mem_cons_of_mem _ hm))))
    · have e : b2jF Y = plT T := by rw [hT,hvb]; rfl
      rw [e,plT,plT,List.filter_map]
      rfl
    · have e : b2jF Y = plT T := by rw [hT,hvb]; rfl
      rw [e,plT_keys]
      obtain ⟨o',e1,e2⟩ := T4.mm (a := sj) (P := fun o'=>o' = os) (by wtm_at "mem")
      exact ⟨o',e1,by rw [e2]; exact ⟨es,ep2,ts,TS,hperm⟩⟩
end chain_b_specN
theorem chain_b_spec : chain_b_specN.TT := chain_b_specN.PP.2 fun h n x dx b av Y Q L env A' h₁=>chain_b_specN.SS.2 chain_b_specN.main (((((((((((h,n),x),dx),b),av),Y),Q),L),env),A'),h₁)
end
section
noncomputable abbrev MA (a b d sj sp:Addr) (mb oc:Value) : List (Str × Value) := [(Str.ofString "isjunk",.ref 269),(Str.ofString "a",.ref a),(Str.ofString "b",.ref b),(Str.ofString "autojunk",.bool true),(Str.ofString "matching_blocks",mb),(Str.ofString "opcodes",oc),(Str.ofString "fullbcount",.none),(Str.ofString "b2j",.ref d),(Str.ofString "bjunk",.ref sj),(Str.ofString "bpopular",.ref sp)]
abbrev SetUp (a b:Addr) (Y:List Int) (dx:Addr) (h h':Heap) : Prop := ∃ d sj sp T,Heap.ExtBut dx h h' ∧ h.objs.size ≤ d ∧ h.objs.size ≤ sj ∧ h.objs.size ≤ sp ∧ (∀ p ∈ T,h.objs.size ≤ p.2.1) ∧ At h'.get? dx (AO (MA a b d sj sp .none .none)) ∧
  At h'.get? d (DO (kvT T)) ∧ (∀ p ∈ T,At h'.get? p.2.1 (IO p.2.2)) ∧ plT T = (b2jF Y).filter (fun p=>keptB p.1) ∧ At h'.get? sj (KO (((b2jF Y).map (·.1)).filter fun y=>!keptB y))
theorem SetUp.after {a b dx:Addr} {Y:List Int} {h g h':Heap} (x:SetUp a b Y dx g h') (e:Heap.ExtBut dx h g) (hz:h.objs.size ≤ g.objs.size) : SetUp a b Y dx h h' := by
  obtain ⟨d,sj,sp,T,x1,x2,x3,x4,x5,x6⟩ := x
  exact ⟨d,sj,sp,T,fun b o hne ho=>x1 b o hne (e b o hne ho),Nat.le_trans hz x2,Nat.le_trans hz x3,Nat.le_trans hz x4,fun p hp=>Nat.le_trans hz (x5 p hp),x6⟩
theorem Stat.inn' {h:Heap} {d:Addr} (Z:Stat (minus h.get? d)) (a:Addr) (o:Obj) (e:(KM w.params).lookup a = some o) : h.get? a = some o := (Z.up minus_sub).inn a o e
theorem set2_spec {A:Around} {h:Heap} {n:Nat} {x dx a b:Addr} {vb:List Value} {Y:List Int} {Q:Value → Heap → Prop} (Z:Stat (minus h.get? dx)) (R:Rm A (n + 10)) (hx:At h.get? x (XO 242 dx)) (hb:At h.get? b (LO vb)) (hj:IntsAre vb Y) (hY:Y.length ≤ 11) (oY:∀ y ∈ Y,0 ≤ y ∧ y < 256)
    (hd:At h.get? dx (AO [(Str.ofString "isjunk",.ref 269),(Str.ofString "a",.ref a),(Str.ofString "b",.none),(Str.ofString "autojunk",.bool true),(Str.ofString "matching_blocks",.none),(Str.ofString "opcodes",.none)]))
    (k:∀ h',SetUp a b Y dx h h' → Q .none h') : WP A (call (.ref 181) [.ref x,.ref b]) Q h := by
  have hx' := minus_at hx (x_ne hx hd)
  have hbd : b ≠ dx := by
    rintro rfl
    obtain ⟨o,ho,n1,rfl⟩ := hb
    obtain ⟨o',ho',es,n2,rfl,_⟩ := hd
    rw [ho] at ho'
    simp at ho'
  have hb' := minus_at hb hbd
  apply enterM (args := ⟨[.ref x,.ref b],[]⟩) (binds := [(Str.ofString "self",.ref x),(Str.ofString "b",.ref b)]) (rest := []) (gl := []) Z R hd
  wtm_at "ent"
  intro L env A' h₁ henv R' C K₁ S
  refine S.letm ?_; clear S; intro mS MS S
  wtm_at "go"
  wtm_at "ga"
  wtm_at "go"
  rw [show ((Value.ref b : Value) == Value.none) = false from rfl]
  wtm_at "gb"
  wtm_at "sa"
  wtm_at "go"
  refine W_Assign2 ?_ rfl rfl
  wtm_at "go"
  wtm_at "sa"
  wtm_at "go"
  wtm_at "sa"
  wtm_at "go"
  wtm_at "sa"
  wtm_at "go"
  rename_i g1 S1 _ g2 S2
  refine O_methS (by assumption) (by assumption) (by assumption) (by wtm_at "mem") (m188 _) (by kernel_rfl) ?_
  wtm_at "go"
  wtm_at "kp"
  refine chain_b_spec (n := n) (av := .ref a) (Z.up (minus_mono S2.keep)) (R'.le (by lia)) (S2.kk hx') (S2.kk hb') hj hY oY (S2.mm (by wtm_at "mem")) ?_
  intro h' d sj sp T x1 x2 x3 x4 x5 x6 x7 x8 x9 x10
  wtm_at "nr"
  wtm_at "go"
  wtm_at "f"
  exact k h' (SetUp.after ⟨d,sj,sp,T,x1,x2,x3,x4,x5,x6,x7,x8,x9,x10⟩ (minus_ext S2.keep) S2.newer)
theorem seqs_spec {A:Around} {h:Heap} {n:Nat} {x dx a b:Addr} {vb:List Value} {Y:List Int} {Q:Value → Heap → Prop} (Z:Stat (minus h.get? dx)) (R:Rm A (n + 11)) (hx:At h.get? x (XO 242 dx)) (hb:At h.get? b (LO vb)) (hj:IntsAre vb Y) (hY:Y.length ≤ 11) (oY:∀ y ∈ Y,0 ≤ y ∧ y < 256)
    (hd:At h.get? dx (AO [(Str.ofString "isjunk",.ref 269),(Str.ofString "a",.none),(Str.ofString "b",.none),(Str.ofString "autojunk",.bool true)]))
    (k:∀ h',SetUp a b Y dx h h' → Q .none h') : WP A (call (.ref 167) [.ref x,.ref a,.ref b]) Q h := by
  have hx' := minus_at hx (x_ne hx hd)
  have hbd : b ≠ dx := by
    rintro rfl
    obtain ⟨o,ho,n1,rfl⟩ := hb
    obtain ⟨o',ho',es,n2,rfl,_⟩ := hd
    rw [ho] at ho'
    simp at ho'
  have hb' := minus_at hb hbd
  apply enterM (args := ⟨[.ref x,.ref a,.ref b],[]⟩) (binds := [(Str.ofString "self",.ref x),(Str.ofString "a",.ref a),(Str.ofString "b",.ref b)]) (rest := []) (gl := []) Z R hd
  wtm_at "ent"
  intro L env A' h₁ henv R' C K₁ S
  refine S.letm ?_; clear S; intro mS MS S
  wtm_at "go"
  refine O_methS (by assumption) (by assumption) (by assumption) (by wtm_at "mem") (m174 _) (by kernel_rfl) ?_
  wtm_at "go"
  wtm_at "kp"
  refine set1_spec (n := n) (v := .ref a) (ij := .ref 269) rfl rfl (Z.up (minus_mono S.keep)) (R'.le (by lia)) (S.kk hx') (S.mm (by wtm_at "mem")) ?_
  intro h2 e2 d2
  have S2 := S.upd .head e2 d2
  wtm_at "nr"
  wtm_at "go"
  refine O_methS (by assumption) (by assumption) (by assumption) (by wtm_at "mem") (m181 _) (by kernel_rfl) ?_
  wtm_at "go"
  wtm_at "kp"
  refine set2_spec (n := n) (a := a) (Z.up (minus_mono S2.keep)) (R'.le (by lia)) (S2.kk hx') (S2.kk hb') hj hY oY (S2.mm (by wtm_at "mem")) ?_
  intro h3 x3
  wtm_at "nr"
  wtm_at "go"
  wtm_at "f"
  exact k h3 (x3.after (minus_ext S2.keep) S2.newer)
end
section
noncomputable def CallWP (A:Around) (f:Value) (args:Args) (Q:Value → Heap → Prop) (h:Heap) : Prop :=
  ∀ (s:Shared) (tk:Nat),codeAny (model prg w) A (.call f args) (fun r s'=>match r with | .ok (.ret v)=>∃ h' tk',s' = { s with heap := h',toks := tk' } ∧ Q v h' | .ok _=>False | .error _=>False) { s with heap := h,toks := tk }
section
variable {A:Around} {h:Heap} {n:Nat}
theorem enterMC {name qual:Str} {params:Arguments} {body:List Stmt} {scope:Scope} {dV kV doc pm cdv ct oc:Value} {an od:Option Addr} {osl:Array (Option Value)} {f dx:Addr} {P:OP} {args:Args} {binds:List (Str × Value)} {rest:List Str} {gl:List (Str × Value)} {m:List (Str × Option Value)} {Q:Value → Heap → Prop}
    (Z:Stat (minus h.get? dx)) (R:Rm A (n + 1)) (hd:At h.get? dx P)
    (ho:(KM w.params).lookup f = some ⟨oc,od,.func (fnOf name qual params body scope dV kV doc pm an cdv ct),osl⟩) (hcd:codeIn (KM w.params) cdv qual = true)
    (hbind:∀ s : Shared,s.heap = h → BindsTo s (fnOf name qual params body scope dV kV doc pm an cdv ct) args binds)
    (hsc:okScope scope (binds.map (·.1)) rest = true) (hgl:okGl scope gl = true)
    (hco:scope.isCoroutine = false) (hgen:scope.isGenerator = false) (hk:scope.kind = .function) (hcell:(scope.names.all fun x=>x.2 != .cell) = true)
    (hm:mk0 binds rest = m)
    (k:∀ L env A' h₁,env = envOf qual scope L f cdv → Rm A' n → Sc (minus h.get? dx) env [] gl → Keep h h₁ → St (minus h.get? dx) h.objs.size env m (fun _=>none) [(dx,P)] h₁ →
      WP A' (execs body env) (RetQ Q) h₁) : CallWP A (.ref f) args Q h := by
  intro s tk
  have hsc' := hsc
  simp only [okScope,Bool.and_eq_true,List.all_eq_true,beq_iff_eq,decide_eq_true_eq] at hsc
  obtain ⟨⟨hl,hnd⟩,hdb⟩ := hsc
  have hdb : scope.names.lookup ("__debug__" : Str) = none := by simpa using hdb
  have hlb : ∀ y ∈ binds,scope.names.lookup y.1 = some .local := fun y hy=>hl y.1 (List.mem_append_left _ (List.mem_map_of_mem hy))
  have Z0 := Z.up (minus_sub (K := h.get?) (d := dx))
  refine codeAny_call_def (fd := fnOf name qual params body scope dV kV doc pm an cdv ct) (body := body) (binds := binds) R.room (Z0.inn _ _ ho) rfl Z0.nolimit (codeRec_of Z0.inn hcd) rfl (hbind _ rfl) (fun x hx=>by simpa using List.all_eq_true.mp hcell x hx) hlb (fun h₁ hns hk₁=>?_) hco hgen hk
  have S : St h.get? h.objs.size (envOf qual scope h.objs.size f cdv) (mk0 binds rest) (fun _=>none) [] h₁ := by
    refine ⟨hk,?_,?_,⟨_,hns,?_⟩,hk₁,(fun _ _ e=>nomatch e),(fun _ hp=>nomatch hp),Nat.le_refl _,(fun _ _ e=>nomatch e),get?_size_none h,rfl,(fun _ hp=>nomatch hp),(fun _ hp=>nomatch hp),by simp⟩
    · intro p hp
      refine hl p.1 ?_
      rw [← mk0_keys]; exact List.mem_map_of_mem hp
    · rw [mk0_keys]; exact hnd
    · intro p hp v hv
      unfold mk0 at hp
      rcases List.mem_append.mp hp with hp | hp
      · obtain ⟨q,hq,rfl⟩ := List.mem_map.mp hp
        cases hv
        exact lookup_reverse_of_nodup (List.nodup_append.mp hnd).1 hq
      · obtain ⟨x,_,rfl⟩ := List.mem_map.mp hp
        cases hv
  refine wpAny_mono (k h.objs.size (envOf qual scope h.objs.size f cdv) _ h₁ rfl R.deeper ⟨hdb,rfl,rfl,(fun _ hp=>nomatch hp),okGl.sc Z hgl⟩ hk₁ ((hm ▸ S).opens hd) s _) (fun fl s' ⟨h',tk',e,q⟩=>?_) fun _ _ x=>x.elim
  cases fl <;> exact ⟨h',tk',e,q⟩
end
theorem init_code {A:Around} {h:Heap} {n:Nat} {x dx a b:Addr} {vb:List Value} {Y:List Int} {Q:Value → Heap → Prop} (Z:Stat (minus h.get? dx)) (R:Rm A (n + 12)) (hx:At h.get? x (XO 242 dx)) (hb:At h.get? b (LO vb)) (hj:IntsAre vb Y) (hY:Y.length ≤ 11) (oY:∀ y ∈ Y,0 ≤ y ∧ y < 256)
    (hd:At h.get? dx (AO []))
    (k:∀ h',SetUp a b Y dx h h' → Q .none h') : CallWP A (.ref 160) ⟨[.ref x,.ref 269,.ref a,.ref b],[]⟩ Q h := by
  have hx' := minus_at hx (x_ne hx hd)
  have hbd : b ≠ dx := by
    rintro rfl
    obtain ⟨o,ho,n1,rfl⟩ := hb
    obtain ⟨o',ho',es,n2,rfl,_⟩ := hd
    rw [ho] at ho'
    simp at ho'
  have hb' := minus_at hb hbd
  refine' enterMC (args := ⟨[.ref x,.ref 269,.ref a,.ref b],[]⟩) (binds := [(Str.ofString "self",.ref x),(Str.ofString "isjunk",.ref 269),(Str.ofString "a",.ref a),(Str.ofString "b",.ref b),(Str.ofString "autojunk",.bool true)]) (rest := []) (gl := []) Z R hd ?k6 ?k7 ?k9 ?sc ?c1 ?c2 ?c3 ?c4 ?c5 ?hm ?_
  (case k6=>k_is); (case k7=>k_is)
  (case k9=>intro s e; exact BindsTo.of_defaults (T := 153) (o := o153_5 w.params) rfl (e ▸ Z.inn' 153 (o153_5 w.params) (by k_is)) rfl rfl rfl)
  (case sc=>kernel_rfl); (case c1=>kernel_rfl); (case c2=>exact rfl); (case c3=>exact rfl); (case c4=>exact rfl); (case c5=>kernel_rfl); (case hm=>(simp only [mk0,List.map_cons,List.map_nil,List.cons_append,List.nil_append,List.append_nil]; exact rfl))
  intro L env A' h₁ henv R' C K₁ S
  wtm_at "go"
  wtm_at "sa"
  wtm_at "go"
  refine W_Assign2 ?_ rfl rfl
  wtm_at "go"
  wtm_at "sa"
  wtm_at "go"
  wtm_at "sa"
  wtm_at "go"
  wtm_at "sa"
  wtm_at "go"
  refine O_methS (by assumption) (by assumption) (by assumption) (by wtm_at "mem") (m167 _) (by kernel_rfl) ?_
  wtm_at "go"
  wtm_at "kp"
  rename_i S3
  refine seqs_spec (n := n) (Z.up (minus_mono S3.keep)) (R'.le (by lia)) (S3.kk hx') (S3.kk hb') hj hY oY (S3.mm (by wtm_at "mem")) ?_
  intro h3 x3
  wtm_at "nr"
  wtm_at "go"
  wtm_at "f"
  exact k h3 (x3.after (minus_ext S3.keep) S3.newer)
theorem makes242 (P:Params) : makesIn (KM P) 242 = true := by kernel_rfl
theorem init242 (P:Params) : findIn (KM P) (.ref 242) "__init__" = some (some (.ref 160)) := by kernel_rfl
theorem fn160 (P:Params) : typeIn (KM P) (.ref 160) = some (.type "function") := by kernel_rfl
theorem empty_AO : AO [] emptyDict := ⟨[],0,rfl,.nil,Nat.zero_le _⟩
theorem O_make {A:Around} {h:Heap} {n:Nat} {a b:Addr} {vb:List Value} {Y:List Int} {Q:Value → Heap → Prop} (Z:Stat h.get?) (R:Rm A (n + 14)) (hb:At h.get? b (LO vb)) (hj:IntsAre vb Y) (hY:Y.length ≤ 11) (oY:∀ y ∈ Y,0 ≤ y ∧ y < 256)
    (k:∀ h' x dx d sj sp T,Keep h h' → h.objs.size ≤ x → h.objs.size ≤ dx → x ≠ dx → h.objs.size ≤ d → h.objs.size ≤ sj → h.objs.size ≤ sp → (∀ p ∈ T,h.objs.size ≤ p.2.1) → At h'.get? x (XO 242 dx) → At h'.get? dx (AO (MA a b d sj sp .none .none)) →
      At h'.get? d (DO (kvT T)) → (∀ p ∈ T,At h'.get? p.2.1 (IO p.2.2)) → plT T = (b2jF Y).filter (fun p=>keptB p.1) → At h'.get? sj (KO (((b2jF Y).map (·.1)).filter fun y=>!keptB y)) → d ≠ dx → sj ≠ dx → (∀ p ∈ T,p.2.1 ≠ dx) → Q (.ref x) h') :
    WP A (call (.ref 242) [.ref 269,.ref a,.ref b]) Q h := by
  intro s tk
  refine wpAny_call ?_
  refine make_core (A := A) (C := 242) (makes_of Z.inn (makes242 w.params)) (looks_findIn Z.inn (init242 w.params)) (fun self=>bind_fn Z.inn self (fn160 w.params)) (.inl rfl) ?_
  have k1 : ∀ c o,h.get? c = some o → ((h.push emptyDict).push (instObj 242 h.objs.size)).get? c = some o := fun c o e=>Heap.get?_push_of_some _ (Heap.get?_push_of_some _ e)
  have hx : ((h.push emptyDict).push (instObj 242 h.objs.size)).get? (h.objs.size + 1) = some (instObj 242 h.objs.size) := by heap_get
  have hdx : ((h.push emptyDict).push (instObj 242 h.objs.size)).get? h.objs.size = some emptyDict := by heap_get
  have Rr : Rm (A.under (.builtin "type.__call__" ⟨[.ref 242,.ref 269,.ref a,.ref b],[]⟩)) (n + 12) := ⟨R.h,by
    have := R.d
    show A.depth + 1 + (n + 12) ≤ 900
    lia,by
    have := R.u
    show A.units + _ + 10 * (n + 12) ≤ 9000
    have hc : (Code.builtin "type.__call__" ⟨[.ref 242,.ref 269,.ref a,.ref b],[]⟩).cUnits = 1 := by rfl
    lia⟩
  have subm : Sub h.get? (minus ((h.push emptyDict).push (instObj 242 h.objs.size)).get? h.objs.size) := sub_minus (fun c o e=>k1 c o e) (get?_size_none h)
  refine codeAny_mono (init_code (n := n) (Q := fun v h'=>v = .none ∧ Q (.ref (h.objs.size + 1)) h') (dx := h.objs.size) (a := a) (Z.up subm) Rr ⟨_,hx,rfl⟩ (hb.up k1) hj hY oY ⟨_,hdx,empty_AO⟩ (fun h' x=>⟨rfl,?_⟩) s tk) fun r s' hr=>?_
  · obtain ⟨d,sj,sp,T,x1,x2,x3,x4,x5,x6,x7,x8,x9,x10⟩ := x
    rw [Heap.size_push,Heap.size_push] at x2 x3 x4 x5
    have e1 : d ≠ h.objs.size := fun e=>by rw [e] at x2; exact absurd x2 (by lia)
    have e2 : sj ≠ h.objs.size := fun e=>by rw [e] at x3; exact absurd x3 (by lia)
    have e3 : ∀ p ∈ T,p.2.1 ≠ h.objs.size := fun p hp e=>by have := x5 p hp; rw [e] at this; exact absurd this (by lia)
    refine k h' (h.objs.size + 1) h.objs.size d sj sp T (fun c o e=>x1 c o (Nat.ne_of_lt (Heap.lt_size e)) (k1 c o e)) (by lia) (Nat.le_refl _) (by lia) (Nat.le_trans (by lia) x2) (Nat.le_trans (by lia) x3) (Nat.le_trans (by lia) x4) (fun p hp=>Nat.le_trans (by lia) (x5 p hp)) ⟨_,x1 (h.objs.size + 1) _ (Nat.ne_of_gt (Nat.lt_succ_self _)) hx,rfl⟩ x6 x7 x8 x9 x10 e1 e2 e3
  · unfold InitBack
    rcases r with e | fl
    · exact hr.elim
    · cases fl <;> first | exact hr.elim | skip
      obtain ⟨h',tk',e,rfl,q⟩ := hr
      exact ⟨rfl,h',tk',e,q⟩
end
section
theorem md_get : typeLookup (.type "method_descriptor") "__get__" = pure (some (.builtin "method_descriptor.__get__")) := by rw [typeLookup_type,builtinLookup_eq_fast]; kernel_rfl
theorem md_set : typeLookup (.type "method_descriptor") "__set__" = pure none := by rw [typeLookup_type,builtinLookup_eq_fast]; kernel_rfl
theorem md_del : typeLookup (.type "method_descriptor") "__delete__" = pure none := by rw [typeLookup_type,builtinLookup_eq_fast]; kernel_rfl
theorem slot_md_get : Slot "method_descriptor" "__get__" "method_descriptor.__get__" :=
  .of (owner := "method_descriptor") (n := "__get__") (by rw [typeLookup_type,builtinLookup_eq_fast]; kernel_rfl) (by decide +kernel) (by decide +kernel) (by decide +kernel)
    (by first | exact .inl (by decide +kernel) | exact .inr (by decide +kernel)) (by rw [isSubtype_type]; kernel_rfl)
theorem entry_md_get : entryFor table "method_descriptor.__get__" = some Builtin.«method_descriptor.__get__» := entryFor_of_tree (by kernel_rfl)
theorem args_md_get (a b c:Value) : argsOk "method_descriptor.__get__" ⟨[a,b,c],[]⟩ := by unfold argsOk; kernel_rfl
theorem entry_set_ga : entryFor table "set.__getattribute__" = some Builtin.«object.__getattribute__» :=
  entryFor_alias (id' := "object.__getattribute__") (by kernel_rfl) rfl (by decide +kernel) (by kernel_rfl)
theorem entry_dict_ga : entryFor table "dict.__getattribute__" = some Builtin.«object.__getattribute__» :=
  entryFor_alias (id' := "object.__getattribute__") (by kernel_rfl) rfl (by decide +kernel) (by kernel_rfl)
noncomputable def BM (id:String) (a:Addr) : OP := fun o=>o = { cls := .type "builtin_function_or_method",data := .fields #[.builtin id,.ref a] }
section
variable {A:Around} {E:Value → Shared → Prop} {s:Shared}
theorem run_md_get {id:String} {T:String} {a:Addr} {o:Obj} {P:PySem.Fin → Shared → Prop} (ho:s.heap.get? a = some o) (hT:o.cls = .type T) (hto:Manifest.toldItsClass.contains id = false)
    (hown:".".intercalate (id.cutAt '.').dropLast = T) (hsub:isSubtype (.type T) (.type T) = pure true)
    (h:P (.done (.ret (.ref s.heap.objs.size))) { s with heap := s.heap.push { cls := .type "builtin_function_or_method",data := .fields #[.builtin id,.ref a] } }) :
    wpAny (model prg w) A (Builtin.«method_descriptor.__get__» ⟨[.builtin id,.ref a,.type T],[]⟩) P E s := by
  unfold Builtin.«method_descriptor.__get__»
  refine wpAny_bind (wpAny_of_eq (a := (.builtin id,some (.ref a),some (.type T))) (by rfl) ?_)
  dsimp only
  rw [hto]
  simp only [Bool.false_eq_true,if_false]
  wp_delta
  refine wpAny_bind ?_
  wp_delta
  refine wpAny_bind ?_
  wp_delta
  rw [hown]
  refine wpAny_pure ?_
  dsimp only
  refine wpAny_bind (wpAny_isInstance (T := T) (b := true) ⟨o,ho,hT⟩ hsub ?_)
  simp only [Bool.not_true,Bool.false_eq_true,if_false]
  refine wpAny_pure ?_
  exact wpAny_bind (wpAny_newObj_type (wpAny_pure h))
theorem bm_any {T g id:String} {name:Str} {a:Addr} {o:Obj} {ex:Bool} {Q:Value → Shared → Prop} (ho:s.heap.get? a = some o) (hT:o.cls = .type T) (hd:o.dict = none) (hnc:∀ c,o.data ≠ .cls c) (hto:Manifest.toldItsClass.contains id = false)
    (hown:".".intercalate (id.cutAt '.').dropLast = T) (hsub:isSubtype (.type T) (.type T) = pure true)
    (sg:Slot T "__getattribute__" g) (eg:entryFor table g = some Builtin.«object.__getattribute__») (ag:∀ a b,argsOk g ⟨[a,b],[]⟩)
    (hat:typeLookup (.type T) name = pure (some (.builtin id))) (hty:typeOf (.builtin id) = pure (.type "method_descriptor")) (hng:(Value.type T == Value.none) = false)
    (hcp:(["__module__","__name__","__qualname__","__doc__","__annotations__"] : List Str).contains name = false)
    (hQ:∀ tk,Q (.ref s.heap.objs.size) { s with heap := s.heap.push { cls := .type "builtin_function_or_method",data := .fields #[.builtin id,.ref a] },toks := tk }) :
    wpAny (model prg w) A (getAttr (.ref a) name ex) Q E s := by
  have hTI : s.TypeIs (.ref a) T := ⟨o,ho,hT⟩
  unfold getAttr
  refine wpAny_bind (wpAny_mkText ?_)
  unfold getAttrBy
  refine wpAny_holding (wpAny_bind (wpAny_typeOf (s := { s with toks := s.toks + 1 }) ⟨o,ho,hT⟩ ?_))
  refine wpAny_bind (wpAny_of_eq (a := some (.builtin g)) sg.lookup ?_)
  dsimp only
  have hTI2 : ∀ tk,({ s with toks := tk } : Shared).TypeIs (.ref a) T := fun tk=>⟨o,ho,hT⟩
  simp only [onTheHeap,Bool.false_and,Bool.false_eq_true,if_false]
  unfold getAttrByItsOwn hookBefore
  simp only [onTheHeap,Bool.false_eq_true,if_false]
  refine wpAny_bind (wpAny_pure ?_)
  refine wpAny_bind (wpAny_attempt (wpAny_holding ?_))
  unfold callGetattribute
  simp only [onTheHeap,Bool.and_false,Bool.false_eq_true,if_false]
  unfold boundAndCalled
  rw [sg.bind]
  refine wpAny_bind (wpAny_pure ?_)
  dsimp only
  refine wpAny_call_entry (s := { s with toks := s.toks + 1 }) sg ⟨o,ho,hT⟩ eg ?_ (ag _ _)
  unfold Builtin.«object.__getattribute__»
  refine wpAny_bind (m := slotArgs _ _ _) (wpAny_pure ?_)
  dsimp only
  refine wpAny_bind (wpAny_of_eq (a := name) rfl ?_)
  refine wpAny_bind (wpAny_typeOf (s := { s with toks := s.toks + 1 }) ⟨o,ho,hT⟩ ?_)
  refine wpAny_bind ?_
  unfold Builtin.ObjectAttr.find
  rw [hat]
  refine wpAny_bind (wpAny_pure ?_)
  refine wpAny_bind ?_
  unfold Builtin.ObjectAttr.getOf specialOf
  dsimp only
  rw [hty]
  refine wpAny_bind (wpAny_pure ?_)
  rw [md_get]
  refine wpAny_pure ?_
  refine wpAny_bind ?_
  unfold Builtin.ObjectAttr.dataDescriptor?
  dsimp only
  refine wpAny_bind ?_
  unfold Builtin.ObjectAttr.takesStores specialOf
  rw [hty]
  refine wpAny_bind (wpAny_bind (wpAny_pure ?_))
  rw [md_set]
  refine wpAny_pure ?_
  simp only [Option.isSome_none,Bool.false_eq_true,if_false]
  refine wpAny_bind (wpAny_bind (wpAny_pure ?_))
  rw [md_del]
  refine wpAny_pure (wpAny_pure ?_)
  simp only [Option.isSome_none,Bool.false_eq_true,if_false]
  refine wpAny_pure ?_
  dsimp only
  unfold Builtin.ObjectAttr.ownThenClass
  refine wpAny_bind ?_
  unfold Builtin.ObjectAttr.inOwnDict Builtin.ObjectAttr.ownDict
  dsimp only
  obtain ⟨oc,od,dt,osl⟩ := o
  dsimp only at hT hd hnc
  subst hT; subst hd
  refine wpAny_bind (wpAny_bind (m := loadHead a) (wpAny_loadPart ho ?_))
  have tail : ∀ (s':Shared),s'.heap = s.heap → wpAny (model prg w) A.in1 (instanceDict a false) (fun r s''=>r = none ∧ s'' = s') (fun _ _=>False) s' := by
    intro s' e
    unfold instanceDict
    refine wpAny_bind (wpAny_loadPart (e ▸ ho) ?_)
    dsimp only
    exact wpAny_pure ⟨rfl,rfl⟩
  have key : ∀ (R:Option Addr → Shared → Prop) (E':Value → Shared → Prop) (s':Shared),s'.heap = s.heap → R none s' → wpAny (model prg w) A.in1 (match dt with | .cls c=>pure (some c.ns) | _=>instanceDict a false) R E' s' := by
    intro R E' s' e r
    have := wpAny_mono (tail s' e) (Q' := R) (E' := E') (fun x s'' h=>by rw [h.1,h.2]; exact r) (fun _ _ f=>f.elim)
    cases dt <;> first | exact this | exact absurd rfl (hnc _)
  refine key _ _ _ rfl ?_
  unfold Builtin.ObjectAttr.inDict
  refine wpAny_pure ?_
  dsimp only
  refine wpAny_bind ?_
  unfold Builtin.ObjectAttr.copiedAttributeGuard
  dsimp only
  rw [hcp]
  simp only [Bool.false_eq_true,if_false]
  refine wpAny_pure ?_
  unfold Builtin.ObjectAttr.byTheClass
  dsimp only
  refine wpAny_bind (wpAny_rule (wpAny_pure ?_))
  dsimp only
  unfold Builtin.ObjectAttr.bindTo
  dsimp only
  refine wpAny_bind (wpAny_holding (wpAny_call_entry (s := { s with toks := s.toks + 1 }) slot_md_get hty entry_md_get ?_ (args_md_get _ _ _)))
  refine run_md_get (s := { s with toks := s.toks + 1 }) (T := T) ho rfl hto hown hsub ?_
  exact ⟨_,rfl,wpAny_pure ⟨_,rfl,wpAny_pure (hQ _)⟩⟩
end
end
section
section
variable {A:Around} {E:Value → Shared → Prop} {s:Shared}
theorem bound_check {T id:String} {sig:Manifest.Signature} {a:Addr} {o:Obj} {rest:List Value} {Q:Unit → Shared → Prop} (ho:s.heap.get? a = some o) (hT:o.cls = .type T) (hnc:∀ c,o.data ≠ .cls c) (hsig:Manifest.signature? id = some sig) (hk:builtinKind id = some .method)
    (hv:Manifest.varargsMethods.contains id = false) (hmod:isSubtype (.type T) (.type "module") = pure false)
    (hargs:Bind.checkArgs id { sig with full := s!"{Bind.lastOf T}.{Bind.lastOf id}" } ⟨.ref a :: rest,[]⟩ = pure ()) (hQ:Q () s) : wpAny (model prg w) A (checkBoundCall id ⟨.ref a :: rest,[]⟩) Q E s := by
  unfold checkBoundCall
  rw [hsig]
  dsimp only
  rw [hk]
  dsimp only
  rw [if_neg (by decide)]
  refine wpAny_bind (wpAny_isInstance (T := T) (b := false) ⟨o,ho,hT⟩ hmod ?_)
  rw [hv]
  simp only [Bool.or_false,Bool.false_eq_true,if_false]
  refine wpAny_bind ?_
  unfold isType
  dsimp only
  refine wpAny_bind (m := loadHead a) (wpAny_loadPart ho ?_)
  obtain ⟨oc,od,dt,osl⟩ := o
  dsimp only at hT hnc
  subst hT
  dsimp only
  refine wpAny_of_eq (a := false) (by cases dt <;> first | rfl | exact absurd rfl (hnc _)) ?_
  simp only [Bool.false_eq_true,if_false]
  refine wpAny_bind (wpAny_typeOf (T := T) ⟨_,ho,rfl⟩ ?_)
  dsimp only
  rw [hargs]
  exact wpAny_pure hQ
theorem call_bm {id:String} {B:Builtin} {b a:Addr} {ob:Obj} {rest:List Value} {Q:Value → Shared → Prop} (hb:s.heap.get? b = some ob) (hB:BM id a ob) (hq:∀ as,(Code.builtin id as).quiet = true) (entry:entryFor table id = some B) (hpl:plainId id = true)
    (check:∀ (A':Around) (E':Value → Shared → Prop) (Q':Unit → Shared → Prop),Q' () s → wpAny (model prg w) A' (checkBoundCall id ⟨.ref a :: rest,[]⟩) Q' E' s)
    (body:wpAny (model prg w) A.in1 (B ⟨.ref a :: rest,[]⟩) (fun fin s'=>match fin with | .done f=>wants Q E (.ok f) s' | .again c'=>c'.quiet = true ∧ codeAny (model prg w) A c' (wants Q E) s') (fun e s'=>wants Q E (.error e) s') s) :
    wpAny (model prg w) A (call (.ref b) rest) Q E s := by
  have hB' : ob = { cls := .type "builtin_function_or_method",data := .fields #[.builtin id,.ref a] } := hB
  subst hB'
  refine wpAny_call (codeAny_of_tree ?_)
  show wpAny _ A.in1 (callAny (.ref b) ⟨rest,[]⟩) _ _ s
  simp only [callAny]
  refine wpAny_bind (wpAny_load hb ?_)
  simp only [show (Value.type "builtin_function_or_method" == Value.type "method" || Value.type "builtin_function_or_method" == Value.type "builtin_function_or_method" || Value.type "builtin_function_or_method" == Value.type "method-wrapper") = true by decide,if_true]
  refine KFB.if_so (by decide) ?_
  refine wpAny_bind (check _ _ _ ?_)
  refine wpAny_bind (wpAny_pure (wpAny_pure ?_))
  refine ⟨hq _,codeAny_builtin entry ?_⟩
  rw [Around.under_plainId hpl _]
  exact body
end
theorem sig_contains : Manifest.signature? "set.__contains__" = some ⟨.oneArg,"set.__contains__","__contains__",.self,[⟨"object",.posOnly,true⟩]⟩ := by
  rw [signature?_of (id := "set.__contains__") (n := ['_','_','s','n','i','a','t','n','o','c','_','_']) (o := ['t','e','s']) (by kernel_rfl) F.owner_set]; kernel_rfl
theorem sig_dget : Manifest.signature? "dict.get" = some ⟨.positional,"dict.get","get",.self,[⟨"key",.posOnly,true⟩,⟨"default",.posOnly,false⟩]⟩ := by
  rw [signature?_of (id := "dict.get") (n := ['t','e','g']) (o := ['t','c','i','d']) (by kernel_rfl) F.owner_dict]; kernel_rfl
theorem chk_contains (a:Addr) (v:Value) : Bind.checkArgs "set.__contains__" { (⟨.oneArg,"set.__contains__","__contains__",.self,[⟨"object",.posOnly,true⟩]⟩ : Manifest.Signature) with full := s!"{Bind.lastOf "set"}.{Bind.lastOf "set.__contains__"}" } ⟨[.ref a,v],[]⟩ = pure () := by kernel_rfl
theorem chk_dget (a:Addr) (v u:Value) : Bind.checkArgs "dict.get" { (⟨.positional,"dict.get","get",.self,[⟨"key",.posOnly,true⟩,⟨"default",.posOnly,false⟩]⟩ : Manifest.Signature) with full := s!"{Bind.lastOf "dict"}.{Bind.lastOf "dict.get"}" } ⟨[.ref a,v,u],[]⟩ = pure () := by kernel_rfl
theorem kind_contains : builtinKind "set.__contains__" = some .method := by decide +kernel
theorem kind_dget : builtinKind "dict.get" = some .method := by decide +kernel
theorem va_contains : Manifest.varargsMethods.contains "set.__contains__" = false := by decide +kernel
theorem va_dget : Manifest.varargsMethods.contains "dict.get" = false := by decide +kernel
theorem set_nomod : isSubtype (.type "set") (.type "module") = pure false := by rw [isSubtype_type]; kernel_rfl
theorem dict_nomod : isSubtype (.type "dict") (.type "module") = pure false := by rw [isSubtype_type]; kernel_rfl
theorem sub_dict_self : isSubtype (.type "dict") (.type "dict") = pure true := by rw [isSubtype_type]; kernel_rfl
section
variable {A:Around} {K N:Pt} {n₀:Nat} {env:Env} {m m':List (Str × Option Value)} {M M':List (Addr × OP)} {h h':Heap} {cs:List (Str × Addr)} {gl:List (Str × Value)}
theorem Kp_bm {id:String} {b a:Addr} (hb:At h.get? b (BM id a)) : Kp A (.ref b) h := by
  obtain ⟨o,ho,hB⟩ := hb
  have hB' : o = { cls := .type "builtin_function_or_method",data := .fields #[.builtin id,.ref a] } := hB
  subst hB'
  unfold Kp keeperOf
  refine WP_bind (WP_load ho ?_)
  dsimp only
  rw [if_pos (by decide),if_pos (by decide)]
  exact WP_pure rfl
theorem O_battr_set {a:Addr} {ks:List Int} {ex:Bool} {Q:Value → Heap → Prop} (hs:At h.get? a (KO ks)) (q:∀ b h',New h b (BM "set.__contains__" a) h' → Q (.ref b) h') : WP A (getAttr (.ref a) (Str.ofString "__contains__") ex) Q h :=
  WP_lib fun s e=>by
    subst e
    obtain ⟨o,ho,es,ep,t,S,_⟩ := hs
    have heq := S.eq
    refine bm_any (T := "set") ho (by rw [heq]) (by rw [heq]) (by rw [heq]; intro c e; cases e) (by decide +kernel) (by decide +kernel) sub_set_self F.slot_set_getattribute entry_set_ga F.args_set_getattribute_2 F.slot_set_contains.lookup F.type_set_contains rfl (by kernel_rfl) fun tk=>⟨_,_,rfl,q _ _ (New.push _ rfl rfl)⟩
theorem O_battr_dict {d:Addr} {kvs:List (Int × Value)} {ex:Bool} {Q:Value → Heap → Prop} (hd:At h.get? d (DO kvs)) (q:∀ b h',New h b (BM "dict.get" d) h' → Q (.ref b) h') : WP A (getAttr (.ref d) (Str.ofString "get") ex) Q h :=
  WP_lib fun s e=>by
    subst e
    obtain ⟨o,ho,es,ep,⟨e1,e2,e3⟩,hdat,_⟩ := hd
    refine bm_any (T := "dict") ho e1 e2 (by rw [hdat]; intro c e; cases e) (by decide +kernel) (by decide +kernel) sub_dict_self F.slot_dict_getattribute entry_dict_ga F.args_dict_getattribute_2 F.slot_dict_get.lookup F.type_dict_get rfl (by kernel_rfl) fun tk=>⟨_,_,rfl,q _ _ (New.push _ rfl rfl)⟩
theorem KO.setOf {h:Heap} {a:Addr} {ks:List Int} (x:At h.get? a (KO ks)) : h.SetOf (intKind prg w) a (fun k=>decide (k ∈ ks)) ks.length := by
  obtain ⟨o,ho,es,ep,t,S,hp⟩ := x
  refine ⟨o,es,ep,t,ho,⟨by rw [S.eq],by rw [S.eq],by rw [S.eq]⟩,S.data,S.elems,fun k=>?_,by have := S.size; have : scanBound = 4096 := rfl; lia,S.tab.fits,by have := hp.length_eq; simpa using this⟩
  rw [decide_eq_true_eq,← hp.mem_iff,List.mem_map]
  constructor
  · rintro ⟨e,he,rfl⟩
    obtain ⟨tk,h1,_⟩ := S.el e he
    exact ⟨e,he,by rw [h1]; exact isInt_self _ _⟩
  · rintro ⟨e,he,hk⟩
    obtain ⟨tk,h1,_⟩ := S.el e he
    rw [h1] at hk
    exact ⟨e,he,((intKind prg w).inj _ _ _ hk (isInt_self _ _)).symm⟩
theorem O_bcontains {b a:Addr} {ks:List Int} {k:Int} {t:Tok} {Q:Value → Heap → Prop} (hb:At h.get? b (BM "set.__contains__" a)) (hs:At h.get? a (KO ks)) (q:Q (.bool (decide (k ∈ ks))) h) : WP A (call (.ref b) [.int k t]) Q h :=
  WP_lib fun s e=>by
    subst e
    obtain ⟨ob,hob,hB⟩ := hb
    have hS := KO.setOf hs
    obtain ⟨o,ho,es,ep,tt,S,_⟩ := hs
    have heq := S.eq
    refine call_bm hob hB (fun as=>Code.quiet_builtin _ (by decide +kernel)) entry_set_contains (by decide +kernel) (fun A' E' Q' hq=>bound_check (T := "set") (id := "set.__contains__") (o := o) (rest := [.int k t]) (sig := ⟨.oneArg,"set.__contains__","__contains__",.self,[⟨"object",.posOnly,true⟩]⟩) ho (by rw [heq]) (by rw [heq]; intro c e; cases e) sig_contains kind_contains va_contains set_nomod (chk_contains a _) hq) ?_
    unfold Builtin.«frozenset.__contains__» Builtin.Frozenset.oneOther
    simp only [List.isEmpty_nil,bind_assoc]
    unfold Builtin.Frozenset.addrOf Builtin.Frozenset.withSetAsKey setContains
    refine wpAny_bind (wpAny_pure ?_)
    try dsimp only
    refine wpAny_bind (wpAny_pure ?_)
    try dsimp only
    refine wpAny_bind (wpAny_tryCatch ?_)
    refine wpAny_holding ?_
    refine wpAny_bind ((intKind prg w).pyHash (isInt_self k t) ?_)
    refine wpAny_bind (wpAny_setFind_of (s := { s with toks := s.toks + 1 }) (isInt_self k t) rfl hS fun r hr=>?_)
    refine wpAny_pure ?_
    show wpAny _ _ (ret (Value.bool r.isSome)) _ _ _
    rw [hr]
    exact wpAny_pure ⟨_,_,rfl,q⟩
theorem O_bget {b d:Addr} {kvs:List (Int × Value)} {k:Int} {t:Tok} {v:Value} {Q:Value → Heap → Prop} (hb:At h.get? b (BM "dict.get" d)) (hd:At h.get? d (DO kvs)) (hsm:(d == sysModules) = false) (q:Q ((valueAt kvs k).getD v) h) : WP A (call (.ref b) [.int k t,v]) Q h :=
  WP_lib fun s e=>by
    subst e
    obtain ⟨ob,hob,hB⟩ := hb
    have hD := DO.of hd
    obtain ⟨o,ho,es,ep,⟨e1,e2,e3⟩,hdat,_⟩ := hd
    refine call_bm hob hB (fun as=>Code.quiet_builtin _ (by decide +kernel)) F.entry_dict_get (by decide +kernel) (fun A' E' Q' hq=>bound_check (T := "dict") (id := "dict.get") (o := o) (rest := [.int k t,v]) (sig := ⟨.positional,"dict.get","get",.self,[⟨"key",.posOnly,true⟩,⟨"default",.posOnly,false⟩]⟩) ho e1 (by rw [hdat]; intro c e; cases e) sig_dget kind_dget va_dget dict_nomod (chk_dget d _ _) hq) ?_
    exact meets_dict_get_default (intKind prg w) d (isInt_self k t) hsm v A _ s ⟨_,hD.mapOf,⟨_,_,rfl,q⟩⟩
theorem O_get {d:Addr} {kvs:List (Int × Value)} {k:Int} {t:Tok} {v:Value} {Q:Value → Heap → Prop} (hd:At h.get? d (DO kvs)) (hsm:(d == sysModules) = false) (q:Q ((valueAt kvs k).getD v) h) : WP A (call (.builtin "dict.get") [.ref d,.int k t,v]) Q h :=
  WP_lib fun s e=>by
    subst e
    have hD := DO.of hd
    exact call_meetsIn F.slot_dict_get hD.typeIs F.entry_dict_get (F.args_dict_get_3 _ _ _) (meets_dict_get_default (intKind prg w) d (isInt_self k t) hsm v) ⟨_,hD.mapOf,⟨_,_,rfl,q⟩⟩
theorem O_dset {d:Addr} {kvs:List (Int × Value)} {k:Int} {t:Tok} {v:Value} {Q:Unit → Heap → Prop} (S:St K n₀ env m N M h) (hd:(d,DO kvs) ∈ M) (hz:kvs.length ≤ sizeLine) (u:Upd d (DO (stored kvs k v)) M M') (q:∀ h',St K n₀ env m N M' h' → Q () h') : WP A (setItem (.ref d) (.int k t) v) Q h :=
  WP_lib fun s e=>by
    subst e
    have hD := DO.of (S.mm hd)
    exact wpAny_setItem_pairs (hsz := hz) (isInt_self k t) hD fun h' hD' hs=>⟨_,_,rfl,q h' (S.upd u hs.extBut (DO.to hD'))⟩
end
end
section
theorem pk1 : peek (KM w.params) ⟨(model prg w).prog,(model prg w).w.params⟩ (Bind.madeBy (.ref 135)) = some none := by kernel_rfl
theorem pk2 : peek (KM w.params) ⟨(model prg w).prog,(model prg w).w.params⟩ (Bind.madeHere "tuple.__new__" (.ref 135)) = some () := by kernel_rfl
theorem pk3 : peek (KM w.params) ⟨(model prg w).prog,(model prg w).w.params⟩ (mroOf (.ref 135)) = some [.ref 135,.type "tuple",.type "object"] := by kernel_rfl
theorem pk6 : peek (KM w.params) ⟨(model prg w).prog,(model prg w).w.params⟩ (isSubtype (.ref 135) (.type "tuple")) = some true := by kernel_rfl
theorem pk7 : peek (KM w.params) ⟨(model prg w).prog,(model prg w).w.params⟩ (typeLookup (.ref 135) "__init__") = some (some (.builtin "object.__init__")) := by kernel_rfl
theorem pk8 : peek (KM w.params) ⟨(model prg w).prog,(model prg w).w.params⟩ (isType (.ref 135)) = some true := by kernel_rfl
theorem pk9 : peek (KM w.params) ⟨(model prg w).prog,(model prg w).w.params⟩ (isSubtype (.ref 135) (.ref 135)) = some true := by kernel_rfl
theorem pk10 : peek (KM w.params) ⟨(model prg w).prog,(model prg w).w.params⟩ (classHasDel 135) = some false := by kernel_rfl
theorem fc1 (P:Params) : findCls (KM P) (.ref 135) (.type "type") "__new__" = some (.get (.builtin "staticmethod.__get__") (.ref 136) .none (.ref 135)) := by kernel_rfl
theorem fc2 (P:Params) : findCls (KM P) (.ref 135) (.type "type") "_make" = some (.get (.builtin "classmethod.__get__") (.ref 91) .none (.ref 135)) := by kernel_rfl
theorem rd135 (P:Params) : readsIn (KM P) 135 (.type "type") = true := by kernel_rfl
theorem pk11 (t:Addr) : peek (KM w.params) ⟨(model prg w).prog,(model prg w).w.params⟩ (checkBuiltinCall "tuple.__new__" ⟨[.ref 135,.ref t],[]⟩) = some () := by kernel_rfl
theorem tn_entry : entryFor table "tuple.__new__" = some Builtin.«tuple.__new__» := entryFor_of_tree (by kernel_rfl)
theorem tn_plain : plainId "tuple.__new__" = true := by decide +kernel
structure Bn (h:Heap) (x:Addr) (P:OP) (h':Heap) : Prop where
  keep : Keep h h'
  above : ∀ b o,h.get? b = some o → b < x
  at_ : At h'.get? x P
theorem Bn.none {h h':Heap} {x:Addr} {P:OP} (b:Bn h x P h') : h.get? x = none := by
  cases e : h.get? x with
  | none=>rfl
  | some o=>exact absurd (b.above x o e) (Nat.lt_irrefl _)
theorem Bn.after {h g h':Heap} {x:Addr} {P:OP} (b:Bn g x P h') (k:Keep h g) : Bn h x P h' := ⟨fun a o e=>b.keep a o (k a o e),fun a o e=>b.above a o (k a o e),b.at_⟩
theorem St.bornB {K N:Pt} {n₀:Nat} {env:Env} {m:List (Str × Option Value)} {M:List (Addr × OP)} {h h':Heap} {x:Addr} {P:OP} (S:St K n₀ env m N M h) (b:Bn h x P h') : St K n₀ env m N ((x,P) :: M) h' := S.new b.keep b.none b.at_
theorem St.bornB_ge {K N:Pt} {n₀:Nat} {env:Env} {m:List (Str × Option Value)} {M:List (Addr × OP)} {h h':Heap} {x:Addr} {P:OP} (S:St K n₀ env m N M h) (b:Bn h x P h') : n₀ ≤ x := by
  obtain ⟨o,ho⟩ := S.isL
  exact Nat.le_trans S.newL (Nat.le_of_lt (b.above _ _ ho))
noncomputable def MV (vs:List Value) : OP := fun o=>∃ d,o = { cls := .ref 135,dict := some d,data := .seq vs.toArray,slots := #[] }
section
variable {A:Around} {h:Heap}
theorem O_tnew {t:Addr} {vs:List Value} {Q:Value → Heap → Prop} (Z:Stat h.get?) (ht:At h.get? t (TO vs)) (hz:vs.length ≤ 100) (q:∀ x h',Bn h x (MV vs) h' → Q (.ref x) h') : WP A (call (.builtin "tuple.__new__") [.ref 135,.ref t]) Q h :=
  WP_lib fun s e=>by
    subst e
    have X := Z.inn
    obtain ⟨o,ho,n,hP⟩ := ht
    refine wpAny_call (codeAny_of_tree ?_)
    show wpAny _ A.in1 (do checkBuiltinCall "tuple.__new__" ⟨[.ref 135,.ref t],[]⟩; again (.builtin "tuple.__new__" ⟨[.ref 135,.ref t],[]⟩)) _ _ s
    refine wpAny_bind ((Looks.of_peek X (pk11 t)).here (wpAny_pure ⟨plainId_quiet tn_plain _,codeAny_builtin tn_entry ?_⟩))
    rw [Around.under_plainId tn_plain _]
    unfold Builtin.«tuple.__new__»
    try dsimp only
    refine wpAny_bind ((Looks.of_peek X (pk8)).here ?_)
    simp only [Bool.not_true,Bool.false_eq_true,if_false]
    refine wpAny_bind ((Looks.of_peek X (pk6)).here ?_)
    simp only [Bool.not_true,Bool.false_eq_true,if_false]
    refine wpAny_bind ((Looks.of_peek X (pk2)).here ?_)
    refine wpAny_bind ((Looks.of_peek X (pk7)).here ?_)
    rw [if_pos (by decide)]
    refine wpAny_bind (m := noKeywords _ _) (wpAny_pure ?_)
    refine wpAny_bind (m := checkCount _ _ _ _) (wpAny_pure ?_)
    rw [show ((Value.ref 135 : Value) == .type "tuple") = false from rfl]
    simp only [Bool.false_eq_true,if_false]
    refine wpAny_bind (m := collect _) ((wpAny_collect_seq (T := "tuple") (items := vs.toArray) t (.inr rfl) ho (by rw [hP]) (by rw [hP]) (fun h1 k1=>?_) (by simp [sizeLine_eq]; lia)))
    refine wpAny_bind (wpAny_pure ?_)
    refine wpAny_bind (wpAny_alloc ?_)
    refine wpAny_bind (m := newObj _ _ _) ?_
    simp only [newObj]
    rw [if_neg (by simp [sizeLine_eq]; lia)]
    refine wpAny_bind (wpAny_alloc ?_)
    try dsimp only
    have X3 : (KM w.params).In ((h1.push { cls := .type "dict",data := .dict #[] }).push { cls := .ref 135,dict := some h1.objs.size,data := .seq vs.toArray.toList.toArray }) := X.keeps fun b o e=>Heap.get?_push_of_some _ (Heap.get?_push_of_some _ (k1 b o e))
    refine wpAny_bind ((Looks.of_peek X3 (pk10)).here ?_)
    simp only [Bool.false_eq_true,if_false]
    refine wpAny_pure (wpAny_pure ?_)
    exact ⟨_,_,rfl,q _ _ ⟨fun b o e=>Heap.get?_push_of_some _ (Heap.get?_push_of_some _ (k1 b o e)),fun b o e=>Nat.lt_of_lt_of_le (Heap.lt_size (k1 b o e)) (by rw [Heap.size_push]; exact Nat.le_succ _),⟨_,Heap.get?_push_size _ rfl,_,rfl⟩⟩⟩
end
theorem pk12 : peek (KM w.params) ⟨(model prg w).prog,(model prg w).w.params⟩ (specialOf (.type "tuple") "__getattribute__") = some (some (.builtin "type.__getattribute__")) := by kernel_rfl
theorem fc3 (P:Params) : findCls (KM P) (.type "tuple") (.type "type") "__new__" = some (.val (.builtin "tuple.__new__")) := by kernel_rfl
section
variable {A:Around} {h:Heap} {n:Nat}
theorem M_tuplenew {pl:Sem Bool} {Q:Value × List Value → Heap → Prop} (Z:Stat h.get?) (q:Q (.builtin "tuple.__new__",[]) h) : WP A (getMethod (.type "tuple") (Str.ofString "__new__") pl) Q h :=
  WP_lib fun s e=>by
    subst e
    have X := Z.inn
    unfold getMethod
    refine wpAny_bind ((Looks.of_peek X (pk12)).here ?_)
    try dsimp only
    rw [if_pos canon_tga]
    refine wpAny_bind (wpAny_mono (Q := fun v s'=>v = .builtin "tuple.__new__" ∧ ∃ tk,s' = { s with toks := tk }) (E := fun _ _=>False) ?_ (fun v s' z=>?_) fun _ _ z=>z.elim)
    · refine cls_open (A := A) (mc := .type "type") (hook := none) X (Looks.of_pure (by unfold opaqueClassAbove; dsimp only; rw [show Manifest.isStub "tuple" = false by decide +kernel]; rfl)) (Looks.of_pure (by first | rfl | kernel_rfl)) (by kernel_rfl) (looks_hook X (r := none) (by rfl)) (by kernel_rfl) (fc3 w.params) ?_
      exact wpAny_pure (by show wpAny _ _ (handedOut (.builtin "tuple.__new__")) _ _ _; rw [handedOut_of (by decide +kernel)]; exact wpAny_pure ⟨rfl,_,rfl⟩)
    · obtain ⟨rfl,tk,rfl⟩ := z
      exact wpAny_pure ⟨_,_,rfl,q⟩
theorem mnew_spec {a b c:Value} {Q:Value → Heap → Prop} (Z:Stat h.get?) (R:Rm A (n + 3)) (k:∀ x h',Bn h x (MV [a,b,c]) h' → Q (.ref x) h') : WP A (call (.ref 82) [.ref 135,a,b,c]) Q h := by
  apply enter2 (args := ⟨[.ref 135,a,b,c],[]⟩) (binds := [(Str.ofString "_cls",.ref 135),(Str.ofString "a",a),(Str.ofString "b",b),(Str.ofString "size",c)]) (rest := []) (gl := [(Str.ofString "tuple",.type "tuple")]) Z R
  wtm_at "ent"
  intro L env A' h₁ henv R' C K₁ S
  refine S.letm ?_; clear S; intro mS MS S
  wtm_at "go"
  with_reducible refine M_tuplenew (Z.up S.keep) ?_
  wtm_at "go"
  wtm_at "new"
  intro t h2 _ _ K2 S2
  wtm_at "go"
  wtm_at "kp"
  show WP _ (call (.builtin "tuple.__new__") [.ref 135,.ref _]) _ _
  with_reducible refine O_tnew (Z.up S2.keep) (S2.mm (by wtm_at "mem")) (by simp) ?_
  intro x h3 b3
  wtm_at "f"
  exact k x h3 (b3.after S2.keep)
end
theorem pk13 : peek (KM w.params) ⟨(model prg w).prog,(model prg w).w.params⟩ (typeLookup (.ref 135) (Str.ofString "__init__")) = some (some (.builtin "object.__init__")) := by kernel_rfl
section
variable {A:Around} {h:Heap} {n:Nat}
theorem oinit_code {x:Addr} {vs:List Value} {rest:List Value} {R:Result → Shared → Prop} {s:Shared} (X:(KM w.params).In s.heap) (hx:At s.heap.get? x (MV vs)) (hR:R (.ok (.ret .none)) s) : codeAny (model prg w) A (.call (.builtin "object.__init__") ⟨.ref x :: rest,[]⟩) R s := by
  obtain ⟨o,ho,d,hP⟩ := hx
  have hty : Looks (model prg w) s.heap (typeOf (.ref x)) (.ref 135) := (Looks.ld ho).andThen (by rw [hP]; exact .now)
  refine codeAny_call_builtin_at (Code.quiet_builtin _ (by decide +kernel)) entry_oi ?zzc
  case zzc =>
  with_reducible refine check_slot oi_kind oi_split ?zzi ?zza ?_
  case zzi=>exact hty.andThen (Looks.of_peek X (by kernel_rfl))
  case zza=>unfold argsOk; kernel_rfl
  unfold Builtin.«object.__init__»
  try dsimp only
  by_cases c : (!rest.isEmpty || !([] : List (Str × Value)).isEmpty) = true
  · rw [if_pos c]
    refine wpAny_bind (hty.here ?_)
    refine wpAny_bind ((Looks.of_peek X (pk13)).here ?_)
    refine wpAny_bind ((Looks.of_peek X (pk1)).here ?_)
    rw [if_neg (by decide),if_neg (by decide)]
    exact wpAny_pure hR
  · rw [if_neg c]
    exact wpAny_pure hR
theorem rec136 (P:Params) : ((recIn (KM P) 136 "staticmethod").bind List.head?) = some (.ref 82) := by kernel_rfl
theorem rec136' (P:Params) : ∃ rest,recIn (KM P) 136 "staticmethod" = some (.ref 82 :: rest) := by
  have := rec136 P
  cases e : recIn (KM P) 136 "staticmethod" with
  | none=>rw [e] at this; cases this
  | some l =>
    rw [e] at this
    cases l with
    | nil=>cases this
    | cons v l=>exact ⟨l,by rw [show v = .ref 82 from Option.some.inj this]⟩
theorem pk15 (a b c:Value) : peek (KM w.params) ⟨(model prg w).prog,(model prg w).w.params⟩ (callAny (.ref 135) ⟨[a,b,c],[]⟩) = some (.again (.call (.builtin "type.__call__") ⟨[.ref 135,a,b,c],[]⟩)) := by kernel_rfl
theorem pk14 (a b c:Value) : peek (KM w.params) ⟨(model prg w).prog,(model prg w).w.params⟩ (checkBuiltinCall "type.__call__" ⟨[.ref 135,a,b,c],[]⟩) = some () := by kernel_rfl
theorem O_match {a b c:Value} {Q:Value → Heap → Prop} (Z:Stat h.get?) (R:Rm A (n + 4)) (k:∀ x h',Bn h x (MV [a,b,c]) h' → Q (.ref x) h') : WP A (call (.ref 135) [a,b,c]) Q h :=
  WP_lib fun s e=>by
    subst e
    have X := Z.inn
    refine wpAny_call (codeAny_of_tree ?_)
    show wpAny _ _ (callAny (.ref 135) _) _ _ _
    refine (Looks.of_peek X (pk15 a b c)).here ⟨rfl,?_⟩
    refine codeAny_call_builtin_at (Code.quiet_builtin _ (by decide +kernel)) entry_typeCall ((Looks.of_peek X (pk14 a b c)).here ?_)
    have Rr : Rm (A.under (.builtin "type.__call__" ⟨[.ref 135,a,b,c],[]⟩)) (n + 3) := ⟨R.h,by
      have := R.d
      show A.depth + 1 + (n + 3) ≤ 900
      lia,by
      have := R.u
      show A.units + _ + 10 * (n + 3) ≤ 9000
      have hc : (Code.builtin "type.__call__" ⟨[.ref 135,a,b,c],[]⟩).cUnits = 1 := by rfl
      lia⟩
    try dsimp +zetaDelta only [setAt] at S2
    generalize A.under (.builtin "type.__call__" ⟨[.ref 135,a,b,c],[]⟩) = A2 at *
    unfold Builtin.«type.__call__»
    try dsimp only
    rw [show ((Value.ref 135 : Value) == .type "type") = false from rfl]
    simp only [Bool.false_eq_true,if_false]
    refine wpAny_bind ((Looks.of_peek X (pk3)).here ?_)
    rw [if_neg (by decide)]
    refine wpAny_bind (m := Bind.madeBy _) ((Looks.of_peek X (pk1)).here ?_)
    try dsimp only
    refine wpAny_bind (m := getAttr _ _ _) ?_
    obtain ⟨rest,hrec⟩ := rec136' w.params
    refine cls_bind X (rd135 w.params) (fc1 w.params) (wpAny_call (sm_get (s := { s with toks := s.toks + 1 }) X hrec (handed_on rfl ?_)))
    refine wpAny_bind (m := holding _ _) (wpAny_holding ?_)
    have nw : WP A2 (call (.ref 82) [.ref 135,a,b,c]) (fun v h'=>∃ x,v = .ref x ∧ Bn s.heap x (MV [a,b,c]) h') s.heap := mnew_spec (n := n) Z Rr fun x h' hb=>⟨x,rfl,hb⟩
    refine nw.go (s := s) (tk := s.toks + 1) fun v h' tk' ⟨x,hv,hb⟩=>?_
    subst hv
    have X2 : (KM w.params).In h' := X.keeps hb.keep
    obtain ⟨ox,hox,d,hP⟩ := hb.at_
    have hty : Looks (model prg w) h' (typeOf (.ref x)) (.ref 135) := (Looks.ld hox).andThen (by rw [hP]; exact .now)
    have hinst : Looks (model prg w) h' (isInstance (.ref x) (.ref 135)) true := hty.andThen (Looks.of_peek X2 (pk9))
    refine wpAny_bind (m := isInstance _ _) (Looks.here (s := { s with heap := h',toks := tk' }) hinst ?_)
    simp only [Bool.not_true,Bool.false_eq_true,if_false]
    refine wpAny_bind (m := holding _ _) (wpAny_holding ?_)
    unfold callSpecial? specialOf
    refine wpAny_bind (wpAny_bind (Looks.here (s := { s with heap := h',toks := tk' }) hty ((Looks.of_peek X2 (pk13)).here ?_)))
    try dsimp only
    refine wpAny_holding ?_
    rw [oi_bind]
    refine wpAny_bind (wpAny_pure ?_)
    try dsimp only
    refine wpAny_bind (wpAny_call (oinit_code X2 ⟨ox,hox,d,hP⟩ ?_))
    refine wpAny_pure ?_
    try dsimp only
    rw [if_neg (by decide)]
    exact wpAny_pure ⟨_,_,rfl,k x h' hb⟩
end
end
section
theorem pk20 : peek (KM w.params) ⟨(model prg w).prog,(model prg w).w.params⟩ (typeLookup (.ref 135) (Str.ofString "__iter__")) = some (some (.builtin "tuple.__iter__")) := by kernel_rfl
theorem pk21 : peek (KM w.params) ⟨(model prg w).prog,(model prg w).w.params⟩ (typeLookup (.ref 135) (Str.ofString "__lt__")) = some (some (.builtin "tuple.__lt__")) := by kernel_rfl
theorem MV.looks {h:Heap} {x:Addr} {vs:List Value} (hx:At h.get? x (MV vs)) : Looks (model prg w) h (typeOf (.ref x)) (.ref 135) := let ⟨_,ho,_,hP⟩ := hx; (Looks.ld ho).andThen (by rw [hP]; exact .now)
section
variable {A:Around} {E:Value → Shared → Prop} {s:Shared}
theorem callM {id nm:String} {B:Builtin} {x:Addr} {vs:List Value} {rest:List Value} {Q:Value → Shared → Prop} (X:(KM w.params).In s.heap) (hx:At s.heap.get? x (MV vs)) (slot:Slot "tuple" (Str.ofString nm) id) (hk:builtinKind id = some .slot) (hs:splitId id = some ("tuple",nm)) (entry:entryFor table id = some B) (args:argsOk id ⟨.ref x :: rest,[]⟩)
    (body:wpAny (model prg w) A.in1 (B ⟨.ref x :: rest,[]⟩) (fun fin s'=>match fin with | .done f=>wants Q E (.ok f) s' | .again c'=>c'.quiet = true ∧ codeAny (model prg w) A c' (wants Q E) s') (fun e s'=>wants Q E (.error e) s') s) : wpAny (model prg w) A (call (.builtin id) (.ref x :: rest)) Q E s :=
  wpAny_call (codeAny_call_builtin slot.plain entry (check_slot hk hs ((MV.looks hx).andThen (Looks.of_peek X (pk6))) args body))
theorem miter_any {x:Addr} {vs:List Value} {Q:Value → Shared → Prop} (X:(KM w.params).In s.heap) (hx:At s.heap.get? x (MV vs))
    (hQ:Q (.ref s.heap.objs.size) { s with heap := s.heap.push { cls := .type "tuple_iterator",data := .fields #[.ref x,.int 0 0] } }) : wpAny (model prg w) A (pyIter (.ref x)) Q E s := by
  have hsp : Looks (model prg w) s.heap (specialOf (.ref x) (Str.ofString "__iter__")) (some (.builtin "tuple.__iter__")) := (MV.looks hx).andThen (Looks.of_peek X (pk20))
  unfold pyIter
  refine wpAny_bind (hsp.here ?_)
  show wpAny _ A (callSpecialIfBoundUnlessNone? (.ref x) "__iter__" _ >>= _) Q E s
  refine wpAny_bind ?_
  simp only [callSpecialIfBoundUnlessNone?,bindSpecialIfBound?]
  refine wpAny_holding (wpAny_bind (wpAny_bind (hsp.here ?_)))
  simp only [F.slot_tuple_iter.bind]
  refine wpAny_bind (wpAny_askSetting (wpAny_ite ?_))
  have hc : wpAny (model prg w) A (call (.builtin "tuple.__iter__") [.ref x]) (fun v s'=>v = .ref s.heap.objs.size ∧ s' = { s with heap := s.heap.push { cls := .type "tuple_iterator",data := .fields #[.ref x,.int 0 0] } }) (fun _ _=>False) s := by
    refine callM X hx F.slot_tuple_iter (by decide +kernel) (by decide +kernel) F.entry_tuple_iter (F.args_tuple_iter_1 _) ?_
    show wpAny _ _ (do ret (← newFields "tuple_iterator" [.ref x,rawInt 0])) _ _ s
    exact wpAny_bind (wpAny_newObj_type (wpAny_pure ⟨rfl,rfl⟩))
  have next : ∀ v s',v = .ref s.heap.objs.size ∧ s' = { s with heap := s.heap.push { cls := .type "tuple_iterator",data := .fields #[.ref x,.int 0 0] } } →
      wpAny (model prg w) A (do
        match ← specialOf v "__next__" with
        | none=>rule "iter.non-iterator"; raiseError "TypeError" s!"iter() returned non-iterator of type '{← typeNameOf v}'"
        | some _=>pure v) Q E s' := by
    rintro v s' ⟨rfl,rfl⟩
    exact wpAny_bind (wpAny_specialOf (T := "tuple_iterator") ⟨_,Heap.get?_push_size _ rfl,rfl⟩ F.slot_tuple_iterator_next.lookup (wpAny_pure hQ))
  have fin : wpAny (model prg w) A (if (Value.builtin "tuple.__iter__" == Value.none) = true then (do rule "iter.none"; raiseError "TypeError" s!"'{← typeNameOf (.ref x)}' object is not iterable" : Sem Value) >>= fun v=>pure (some v) else (call (.builtin "tuple.__iter__") [.ref x] >>= fun v=>pure (some v)))
      (fun r s'=>∃ v,r = some v ∧ v = .ref s.heap.objs.size ∧ s' = { s with heap := s.heap.push { cls := .type "tuple_iterator",data := .fields #[.ref x,.int 0 0] } }) (fun _ _=>False) s := by
    simp only [builtin_beq_none,Bool.false_eq_true,if_false]
    exact wpAny_bind (wpAny_mono hc (fun v s' h'=>wpAny_pure ⟨v,rfl,h'⟩) fun _ _ h'=>h')
  have fin' := wpAny_mono fin (Q' := fun r s'=>wpAny (model prg w) A (match r with
      | some it=>(do
        match ← specialOf it "__next__" with
        | none=>rule "iter.non-iterator"; raiseError "TypeError" s!"iter() returned non-iterator of type '{← typeNameOf it}'"
        | some _=>pure it)
      | none=>(do
        match ← bindSpecialIfBound? (.ref x) "__getitem__" with
        | none=>rule "iter.not-iterable"; raiseError "TypeError" s!"'{← typeNameOf (.ref x)}' object is not iterable"
        | some _=>rule "iter.getitem-fallback"; newFields "iterator" [.ref x,← mkInt 0])) Q E s') (E' := E) (fun r s' h=>by
    obtain ⟨v,rfl,h⟩ := h
    exact next v s' h) (fun _ _ f=>f.elim)
  split
  · exact wpAny_bind (wpAny_pure (wpAny_pure fin'))
  · exact wpAny_tryCatch (wpAny_bind (wpAny_pure (wpAny_pure (wpAny_mono fin' (fun _ _ h=>h) (fun _ _ h=>h)))))
end
section
variable {A:Around} {E:Value → Shared → Prop} {s:Shared}
theorem mnext_item {it x:Addr} {i:Nat} {vs:List Value} {v:Value} {Q:Option Value → Shared → Prop} (hit:s.heap.IsTupleIter it x i) (hx:At s.heap.get? x (MV vs)) (hv:vs[i]? = some v)
    (hQ:∀ h',h'.IsTupleIter it x (i + 1) → Heap.SameBut it s.heap h' → Q (some v) { s with heap := h' }) : wpAny (model prg w) A (pyNext (.ref it)) Q E s := by
  obtain ⟨o,ho,hc,hd⟩ := id hit
  obtain ⟨ox,hox,d,hP⟩ := hx
  have hdx : ox.data = .seq vs.toArray 0 := by rw [hP]
  unfold pyNext
  refine wpAny_bind (wpAny_attempt (wpAny_callSpecial?_slot (name := Str.ofString "__next__") hit.typeIs F.slot_tuple_iterator_next (wpAny_call_entry F.slot_tuple_iterator_next hit.typeIs F.entry_tuple_iterator_next ?_ (F.args_tuple_iterator_next_1 _))))
  show wpAny _ _ (field (.ref it) 0 >>= _) _ _ s
  refine wpAny_bind (wpAny_field ho hd (x := .ref x) rfl ?_)
  show wpAny _ _ (if (Value.ref x == Value.none) = true then _ else _) _ _ s
  rw [if_neg (show ¬ ((Value.ref x == Value.none) = true) from Bool.false_ne_true)]
  show wpAny _ _ (field (.ref it) 1 >>= _) _ _ s
  refine wpAny_bind (wpAny_field ho hd (x := .int i 0) rfl ?_)
  show wpAny _ _ (seqItems? (.ref x) >>= _) _ _ s
  refine wpAny_bind (wpAny_seqItems hox hdx ?_)
  simp only [Int.toNat_natCast,List.getElem?_toArray,hv]
  refine wpAny_bind (wpAny_setField ho hd (by simp) (wpAny_pure ⟨v,rfl,wpAny_pure (hQ _ ?_ (Heap.SameBut.update ..))⟩))
  exact ⟨_,Heap.get?_update_self _ ho (Obj.isFreed_of_fields (Obj.data_mapFields hd _)),(Obj.cls_mapFields ..).trans hc,by
    rw [Obj.data_mapFields hd]; simp [rawInt]⟩
theorem mnext_end {it x:Addr} {i:Nat} {vs:List Value} {Q:Option Value → Shared → Prop} (hh:A.handled = none) (hit:s.heap.IsTupleIter it x i) (hx:At s.heap.get? x (MV vs)) (hv:vs[i]? = none)
    (hQ:∀ h',Heap.ExtBut it s.heap h' → Q none { s with heap := h' }) : wpAny (model prg w) A (pyNext (.ref it)) Q E s := by
  obtain ⟨o,ho,hc,hd⟩ := id hit
  obtain ⟨ox,hox,d,hP⟩ := hx
  have hdx : ox.data = .seq vs.toArray 0 := by rw [hP]
  unfold pyNext
  refine wpAny_bind (wpAny_attempt (wpAny_callSpecial?_slot (name := Str.ofString "__next__") hit.typeIs F.slot_tuple_iterator_next (wpAny_call_entry F.slot_tuple_iterator_next hit.typeIs F.entry_tuple_iterator_next ?_ (F.args_tuple_iterator_next_1 _))))
  show wpAny _ _ (field (.ref it) 0 >>= _) _ _ s
  refine wpAny_bind (wpAny_field ho hd (x := .ref x) rfl ?_)
  show wpAny _ _ (if (Value.ref x == Value.none) = true then _ else _) _ _ s
  rw [if_neg (show ¬ ((Value.ref x == Value.none) = true) from Bool.false_ne_true)]
  show wpAny _ _ (field (.ref it) 1 >>= _) _ _ s
  refine wpAny_bind (wpAny_field ho hd (x := .int i 0) rfl ?_)
  show wpAny _ _ (seqItems? (.ref x) >>= _) _ _ s
  refine wpAny_bind (wpAny_seqItems hox hdx ?_)
  simp only [Int.toNat_natCast,List.getElem?_toArray,hv]
  refine wpAny_bind (wpAny_rule (wpAny_bind (wpAny_setField ho hd (by simp) ?_)))
  show wpAny _ _ (newExc (.type "StopIteration") [] >>= _) _ _ _
  refine wpAny_bind ?_
  simp only [newExc,newTuple]
  refine wpAny_bind (wpAny_newObj_type ?_ (by size_fits))
  refine wpAny_bind (m := firstArgMember _ _) (wpAny_of_eq (a := Value.none) (by first | rfl | (simp only [firstArgMember]; rfl)) ?_)
  refine wpAny_newObj_type ?_ (by size_fits)
  simp only [raiseNew]
  refine wpAny_bind (wpAny_handled ?_)
  first | rw [show A.in1.handled = none from hh] | rw [hh]
  refine wpAny_bind (wpAny_pure (wpAny_throw ?_))
  refine wpAny_bind (wpAny_isInstance (T := "StopIteration") (b := true) ⟨_,Heap.get?_push_size _ rfl,rfl⟩ isSubtype_stop ?_)
  exact wpAny_pure (hQ _ (((Heap.SameBut.update ..).extBut.push _).push _))
theorem mdraw {it x:Addr} {vs:List Value} (hne:x ≠ it) : ∀ (n i:Nat) (s:Shared) (Q:List Value → Shared → Prop),s.heap.IsTupleIter it x i → At s.heap.get? x (MV vs) → i + n ≤ vs.length →
    (∀ h',h'.IsTupleIter it x (i + n) → Heap.SameBut it s.heap h' → Q ((vs.drop i).take n) { s with heap := h' }) → wpAny (model prg w) A (draw (.ref it) n) Q E s
  | 0,i,s,Q,hit,_,_,hQ=>by
    show wpAny _ _ (pure []) Q E s
    exact wpAny_pure (by simpa using hQ s.heap hit (Heap.SameBut.refl ..))
  | n + 1,i,s,Q,hit,hx,hle,hQ=>by
    have hlt : i < vs.length := by lia
    show wpAny _ _ (pyNext (.ref it) >>= _) Q E s
    refine wpAny_bind (mnext_item hit hx (v := vs[i]) (List.getElem?_eq_getElem hlt) fun h₁ hit₁ hs₁=>?_)
    refine wpAny_bind (wpAny_holding (mdraw hne n (i + 1) _ _ hit₁ (let ⟨o,ho,p⟩ := hx; ⟨o,hs₁.extBut _ _ hne ho,p⟩) (by lia) fun h₂ hit₂ hs₂=>wpAny_pure ?_))
    have hd : vs.drop i = vs[i] :: vs.drop (i + 1) := List.drop_eq_getElem_cons hlt
    have := hQ h₂ (by rw [show i + (n + 1) = i + 1 + n by lia]; exact hit₂) (hs₁.trans hs₂)
    rw [hd,List.take_succ_cons] at this
    exact this
end
section
variable {A:Around} {K N:Pt} {n₀:Nat} {env:Env} {m m':List (Str × Option Value)} {M M':List (Addr × OP)} {h h':Heap} {cs:List (Str × Addr)} {gl:List (Str × Value)}
theorem U_match {x:Addr} {vs:List Value} {n:Nat} {Q:List Value → Heap → Prop} (R:Rm A 0) (Z:Stat h.get?) (hx:At h.get? x (MV vs)) (hn:vs.length = n) (q:∀ h',Keep h h' → Q vs h') : WP A (unpackItems (.ref x) n none) Q h :=
  WP_lib fun s e=>by
    subst e
    have X := Z.inn
    have hlt : x ≠ s.heap.objs.size := by obtain ⟨o,ho,_⟩ := hx; exact Nat.ne_of_lt (Heap.lt_size ho)
    have hsp : Looks (model prg w) s.heap (specialOf (.ref x) (Str.ofString "__iter__")) (some (.builtin "tuple.__iter__")) := (MV.looks hx).andThen (Looks.of_peek X (pk20))
    unfold unpackItems
    refine wpAny_bind ?_
    unfold notIterableAtAll
    refine wpAny_bind (hsp.here ?_)
    refine wpAny_pure ?_
    simp only [Bool.false_eq_true,if_false]
    refine wpAny_bind (wpAny_holding (miter_any X hx ?_))
    have hx1 : At (s.heap.push { cls := .type "tuple_iterator",data := .fields #[.ref x,.int 0 0] }).get? x (MV vs) := let ⟨o,ho,p⟩ := hx; ⟨o,Heap.get?_push_of_some _ ho,p⟩
    refine wpAny_bind (wpAny_holding (mdraw hlt n 0 _ _ ⟨_,Heap.get?_push_size _ rfl,rfl,rfl⟩ hx1 (by lia) fun h₁ hit₁ hs₁=>?_))
    rw [List.drop_zero,List.take_of_length_le (by lia)]
    rw [if_neg (by lia)]
    refine wpAny_bind (wpAny_holding (mnext_end R.h hit₁ (let ⟨o,ho,p⟩ := hx1; ⟨o,hs₁.extBut _ _ hlt ho,p⟩) (List.getElem?_eq_none (by lia)) fun h₂ he₂=>?_))
    simp only [Option.isSome_none,Bool.false_eq_true,if_false]
    exact wpAny_pure ⟨_,_,rfl,q h₂ fun b o e=>he₂ b o (Nat.ne_of_lt (Heap.lt_size e)) (hs₁.extBut b o (Nat.ne_of_lt (Heap.lt_size e)) (Heap.get?_push_of_some _ e))⟩
theorem W_assign_match {elts k pos} {x:Addr} {vs:List Value} {Q:Unit → Heap → Prop} (R:Rm A 0) (Z:Stat h.get?) (hx:At h.get? x (MV vs)) (hn:vs.length = elts.length) (ha:assignEach elts env = elts.map fun e=>(false,assign e env))
    (y:∀ h',Keep h h' → Asg A env elts vs Q h') : WP A (assign (.Tuple elts k pos) env (.ref x)) Q h := by
  rw [assign_Tuple]
  refine WP_bind (WP_standAt ?_)
  unfold unpack
  have hs : (assignEach elts env).findIdx? (·.1) = none := by rw [ha]; simp [List.findIdx?_map,Function.comp_def]
  have hl : (assignEach elts env).length = elts.length := by rw [ha]; simp
  rw [hs,hl]
  exact WP_bind (WP_holding (U_match R Z hx hn fun h' k'=>W_targets ha (y h' k')))
end
end
section
noncomputable def upG (f:Nat → Nat → Nat) (sh:Nat → Nat) (b:Nat × Nat × Nat) (i j:Nat) : Nat × Nat × Nat := if b.1 < f i j then (f i j,i - sh (f i j),j - sh (f i j)) else b
noncomputable def rowG (f:Nat → Nat → Nat) (sh:Nat → Nat) (j1:Nat) (b:Nat × Nat × Nat) (i n:Nat) : Nat × Nat × Nat := (List.range n).foldl (fun b jj=>upG f sh b i (j1 + jj)) b
noncomputable def allG (f:Nat → Nat → Nat) (sh:Nat → Nat) (i1 j1 c n:Nat) : Nat × Nat × Nat := (List.range n).foldl (fun b ii=>rowG f sh j1 b (i1 + ii) c) (0,i1,j1)
theorem rowG_succ {f:Nat → Nat → Nat} {sh:Nat → Nat} {j1:Nat} {b:Nat × Nat × Nat} {i n:Nat} : rowG f sh j1 b i (n + 1) = upG f sh (rowG f sh j1 b i n) i (j1 + n) := by
  unfold rowG; rw [List.range_succ,List.foldl_append]; rfl
theorem allG_succ {f:Nat → Nat → Nat} {sh:Nat → Nat} {i1 j1 c n:Nat} : allG f sh i1 j1 c (n + 1) = rowG f sh j1 (allG f sh i1 j1 c n) (i1 + n) c := by
  unfold allG; rw [List.range_succ,List.foldl_append]; rfl
structure Fst (f:Nat → Nat → Nat) (sh:Nat → Nat) (i1 j1:Nat) (P:Nat → Nat → Prop) (b:Nat × Nat × Nat) : Prop where
  le : ∀ i j,P i j → f i j ≤ b.1
  z : b.1 = 0 → b.2 = (i1,j1)
  p : 0 < b.1 → ∃ i j,P i j ∧ f i j = b.1 ∧ b.2 = (i - sh b.1,j - sh b.1) ∧ ∀ i' j',P i' j' → (i' < i ∨ (i' = i ∧ j' < j)) → f i' j' < b.1
theorem Fst.congr {f:Nat → Nat → Nat} {sh:Nat → Nat} {i1 j1:Nat} {P P':Nat → Nat → Prop} {b:Nat × Nat × Nat} (x:Fst f sh i1 j1 P b) (e:∀ i j,P' i j ↔ P i j) : Fst f sh i1 j1 P' b := by
  have : P' = P := by funext i j; exact propext (e i j)
  rw [this]; exact x
theorem Fst.step {f:Nat → Nat → Nat} {sh:Nat → Nat} {i1 j1 i j:Nat} {P:Nat → Nat → Prop} {b:Nat × Nat × Nat} (x:Fst f sh i1 j1 P b) (hP:∀ i' j',P i' j' → i' < i ∨ (i' = i ∧ j' < j)) :
    Fst f sh i1 j1 (fun i' j'=>P i' j' ∨ (i' = i ∧ j' = j)) (upG f sh b i j) := by
  unfold upG
  by_cases hlt : b.1 < f i j
  · rw [if_pos hlt]
    refine ⟨?_,?_,?_⟩
    · rintro i' j' (h | ⟨rfl,rfl⟩)
      · exact Nat.le_trans (x.le _ _ h) (Nat.le_of_lt hlt)
      · exact Nat.le_refl _
    · intro h; dsimp only at h; lia
    · intro _
      refine ⟨i,j,.inr ⟨rfl,rfl⟩,rfl,rfl,?_⟩
      rintro i' j' (h | ⟨rfl,rfl⟩) hb
      · exact Nat.lt_of_le_of_lt (x.le _ _ h) hlt
      · lia
  · rw [if_neg hlt]
    refine ⟨?_,x.z,?_⟩
    · rintro i' j' (h | ⟨rfl,rfl⟩)
      · exact x.le _ _ h
      · exact Nat.le_of_not_lt hlt
    · intro h
      obtain ⟨i0,j0,h1,h2,h3,h4⟩ := x.p h
      refine ⟨i0,j0,.inl h1,h2,h3,?_⟩
      rintro i' j' (h | ⟨rfl,rfl⟩) hb
      · exact h4 _ _ h hb
      · have := hP _ _ h1; lia
theorem Fst.row {f:Nat → Nat → Nat} {sh:Nat → Nat} {i1 j1 i:Nat} {P:Nat → Nat → Prop} {b:Nat × Nat × Nat} (x:Fst f sh i1 j1 P b) (hP:∀ i' j',P i' j' → i' < i) (n:Nat) :
    Fst f sh i1 j1 (fun i' j'=>P i' j' ∨ (i' = i ∧ j1 ≤ j' ∧ j' < j1 + n)) (rowG f sh j1 b i n) := by
  induction n with
  | zero=>exact x.congr fun i' j'=>⟨fun h=>h.elim id fun h=>by lia,.inl⟩
  | succ n ih =>
    rw [rowG_succ]
    refine (ih.step (i := i) (j := j1 + n) ?_).congr fun i' j'=>?_
    · rintro i' j' (h | h)
      · exact .inl (hP _ _ h)
      · lia
    · constructor
      · rintro (h | h)
        · exact .inl (.inl h)
        · by_cases e : j' = j1 + n
          · exact .inr ⟨h.1,e⟩
          · exact .inl (.inr ⟨h.1,h.2.1,by lia⟩)
      · rintro ((h | h) | h)
        · exact .inl h
        · exact .inr (by lia)
        · exact .inr (by lia)
noncomputable def Wn (i1 i2 j1 j2 i j:Nat) : Prop := i1 ≤ i ∧ i < i2 ∧ j1 ≤ j ∧ j < j2
theorem wnStep {i1 j1 j2 n i j:Nat} (h:j1 ≤ j2) : Wn i1 (i1 + (n + 1)) j1 j2 i j ↔ Wn i1 (i1 + n) j1 j2 i j ∨ (i = i1 + n ∧ j1 ≤ j ∧ j < j1 + (j2 - j1)) := by
  rw [Nat.add_sub_cancel' h]
  constructor
  · rintro ⟨a,b,c,d⟩
    rcases Nat.lt_succ_iff_lt_or_eq.mp b with b | b
    · exact .inl ⟨a,b,c,d⟩
    · exact .inr ⟨b,c,d⟩
  · rintro (⟨a,b,c,d⟩ | ⟨rfl,c,d⟩)
    · exact ⟨a,Nat.lt_succ_of_lt b,c,d⟩
    · exact ⟨Nat.le_add_right _ _,Nat.lt_succ_self _,c,d⟩
theorem Fst.all {f:Nat → Nat → Nat} {sh:Nat → Nat} {i1 j1 j2:Nat} (h:j1 ≤ j2) (n:Nat) : Fst f sh i1 j1 (Wn i1 (i1 + n) j1 j2) (allG f sh i1 j1 (j2 - j1) n) := by
  induction n with
  | zero=>exact ⟨fun i j h=>by unfold Wn at h; lia,fun _=>rfl,fun h=>absurd h (Nat.lt_irrefl 0)⟩
  | succ n ih =>
    rw [allG_succ]
    refine (ih.row (i := i1 + n) (fun i' j' h=>h.2.1) (j2 - j1)).congr fun i' j'=>wnStep h
theorem lexEq {a b i j:Nat} (x:¬ (a < i ∨ (a = i ∧ b < j))) (y:¬ (i < a ∨ (i = a ∧ j < b))) : a = i ∧ b = j := by
  rcases Nat.lt_trichotomy a i with h | rfl | h
  · exact absurd (.inl h) x
  · rcases Nat.lt_trichotomy b j with h | rfl | h
    · exact absurd (.inr ⟨rfl,h⟩) x
    · exact ⟨rfl,rfl⟩
    · exact absurd (.inr ⟨rfl,h⟩) y
  · exact absurd (.inl h) y
theorem shLt {c i k:Nat} (hk:0 < k) (h:i < c - (k - 1)) : i + k - 1 < c := by rw [Nat.add_sub_assoc hk]; exact Nat.add_lt_of_lt_sub h
theorem shEq {c i k:Nat} (hk:0 < k) (h:k ≤ c + 1) (e:i = c - (k - 1)) : i + k - 1 = c := by rw [Nat.add_sub_assoc hk,e]; exact Nat.sub_add_cancel (Nat.sub_le_of_le_add h)
theorem lexSh {c d i j k:Nat} (hk:0 < k) (h1:k ≤ c + 1) (_:k ≤ d + 1) (hh:i < c - (k - 1) ∨ (i = c - (k - 1) ∧ j < d - (k - 1))) : i + k - 1 < c ∨ (i + k - 1 = c ∧ j + k - 1 < d) :=
  hh.imp (shLt hk) fun ⟨a,b⟩=>⟨shEq hk h1 a,shLt hk b⟩
theorem WnBack {i1 i2 j1 j2 i j k:Nat} (h:Wn i1 i2 j1 j2 i j) (a:i1 + k ≤ i + 1) (b:j1 + k ≤ j + 1) : Wn i1 i2 j1 j2 (i - (k - 1)) (j - (k - 1)) := by
  obtain ⟨h1,h2,h3,h4⟩ := h
  have e : ∀ {x y z:Nat},x ≤ y → x + z ≤ y + 1 → x ≤ y - (z - 1) := fun {x y z} p q=>by
    cases z with
    | zero=>exact p
    | succ z=>exact Nat.le_sub_of_add_le (Nat.le_of_succ_le_succ q)
  exact ⟨e h1 a,Nat.lt_of_le_of_lt (Nat.sub_le _ _) h2,e h3 b,Nat.lt_of_le_of_lt (Nat.sub_le _ _) h4⟩
theorem fst_same {F B:Nat → Nat → Nat} {i1 i2 j1 j2:Nat} {b b':Nat × Nat × Nat} (x:Fst F (fun _=>0) i1 j1 (Wn i1 i2 j1 j2) b) (y:Fst B (fun k=>k - 1) i1 j1 (Wn i1 i2 j1 j2) b')
    (r1:∀ i j,Wn i1 i2 j1 j2 i j → 0 < F i j → Wn i1 i2 j1 j2 (i + F i j - 1) (j + F i j - 1) ∧ F i j ≤ B (i + F i j - 1) (j + F i j - 1))
    (r2:∀ i j,Wn i1 i2 j1 j2 i j → 0 < B i j → i1 + B i j ≤ i + 1 ∧ j1 + B i j ≤ j + 1 ∧ B i j ≤ F (i - (B i j - 1)) (j - (B i j - 1))) : b' = b := by
  have l1 : b.1 ≤ b'.1 := by
    rcases Nat.eq_zero_or_pos b.1 with h | h
    · rw [h]; exact Nat.zero_le _
    · obtain ⟨i,j,h1,h2,_⟩ := x.p h
      obtain ⟨h3,h4⟩ := r1 i j h1 (h2.symm ▸ h)
      have := Nat.le_trans h4 (y.le _ _ h3)
      rwa [h2] at this
  have l2 : b'.1 ≤ b.1 := by
    rcases Nat.eq_zero_or_pos b'.1 with h | h
    · rw [h]; exact Nat.zero_le _
    · obtain ⟨i,j,h1,h2,_⟩ := y.p h
      obtain ⟨h3,h4,h5⟩ := r2 i j h1 (h2.symm ▸ h)
      have := x.le (i - (B i j - 1)) (j - (B i j - 1)) (WnBack h1 h3 h4)
      rw [h2] at h5 this
      exact Nat.le_trans h5 this
  have e : b'.1 = b.1 := Nat.le_antisymm l2 l1
  rcases Nat.eq_zero_or_pos b.1 with h | h
  · have := x.z h
    have := y.z (e.trans h)
    obtain ⟨k,p⟩ := b
    obtain ⟨k',p'⟩ := b'
    simp_all
  · obtain ⟨i,j,h1,h2,h3,h4⟩ := x.p h
    obtain ⟨c,d,g1,g2,g3,g4⟩ := y.p (e.symm ▸ h)
    obtain ⟨a1,a2⟩ := r1 i j h1 (h2.symm ▸ h)
    obtain ⟨a3,a4,a5⟩ := r2 c d g1 (g2.symm ▸ e.symm ▸ h)
    rw [h2] at a1 a2
    rw [g2,e] at a3 a4 a5
    have w1 : Wn i1 i2 j1 j2 (c - (b.1 - 1)) (d - (b.1 - 1)) := WnBack g1 a3 a4
    have n1 := h4 _ _ w1
    have n2 := g4 _ _ a1
    rw [e] at n2
    have e1 : c - (b.1 - 1) = i ∧ d - (b.1 - 1) = j := lexEq (fun hh=>absurd (n1 hh) (Nat.not_lt.mpr a5)) fun hh=>absurd (n2 (lexSh h (Nat.le_trans (Nat.le_add_left _ _) a3) (Nat.le_trans (Nat.le_add_left _ _) a4) hh)) (Nat.not_lt.mpr a2)
    obtain ⟨k,p⟩ := b
    obtain ⟨k',p'⟩ := b'
    dsimp only at e g3 h3 e1
    rw [e] at g3
    rw [e,g3,h3,e1.1,e1.2]
    rfl
noncomputable def eqk (X Y:List Int) (i j:Nat) : Bool := decide (X.getD i 0 = Y.getD j 0 ∧ keptB (X.getD i 0) = true)
theorem getD_of {L:List Int} {i:Nat} (h:i < L.length) : L.getD i 0 = L[i] := by simp [List.getD_eq_getElem?_getD,h]
theorem run2_eq {X Y:List Int} {i2 j2:Nat} (hX:i2 ≤ X.length) (hY:j2 ≤ Y.length) (i j:Nat) : run2 X Y i i2 j j2 = if i < i2 ∧ j < j2 ∧ eqk X Y i j then run2 X Y (i + 1) i2 (j + 1) j2 + 1 else 0 := by
  by_cases h : i < i2 ∧ j < j2
  · rw [run2_step h.1 hX h.2 hY]
    have e : (eqk X Y i j = true) = (X[i]'(Nat.lt_of_lt_of_le h.1 hX) = Y[j]'(Nat.lt_of_lt_of_le h.2 hY) ∧ keptB (X[i]'(by lia)) = true) := by
      unfold eqk; rw [decide_eq_true_eq,getD_of (by lia),getD_of (by lia)]
    by_cases c : X[i]'(by lia) = Y[j]'(by lia) ∧ keptB (X[i]'(by lia)) = true
    · rw [if_pos c,if_pos ⟨h.1,h.2,e.symm ▸ c⟩]
    · rw [if_neg c,if_neg fun hh=>c (e ▸ hh.2.2)]
  · rw [run2_zero (by lia),if_neg fun hh=>h ⟨hh.1,hh.2.1⟩]
theorem run_cells {X Y:List Int} {i2 j2:Nat} (hX:i2 ≤ X.length) (hY:j2 ≤ Y.length) : ∀ (t i j:Nat),t < run2 X Y i i2 j j2 → i + t < i2 ∧ j + t < j2 ∧ eqk X Y (i + t) (j + t) := by
  intro t
  induction t with
  | zero =>
    intro i j h
    rw [run2_eq hX hY] at h
    split at h
    · rename_i c; exact c
    · lia
  | succ t ih =>
    intro i j h
    rw [run2_eq hX hY] at h
    split at h
    · have := ih (i + 1) (j + 1) (Nat.lt_of_lt_of_le (Nat.lt_succ_self _) (Nat.le_of_lt_succ h))
      rw [show i + (t + 1) = i + 1 + t by lia,show j + (t + 1) = j + 1 + t by lia]
      exact this
    · lia
theorem run_ge {X Y:List Int} {i2 j2:Nat} (hX:i2 ≤ X.length) (hY:j2 ≤ Y.length) : ∀ (k i j:Nat),(∀ t,t < k → i + t < i2 ∧ j + t < j2 ∧ eqk X Y (i + t) (j + t)) → k ≤ run2 X Y i i2 j j2 := by
  intro k
  induction k with
  | zero=>intro i j _; exact Nat.zero_le _
  | succ k ih =>
    intro i j h
    have h0 := h 0 (Nat.lt_succ_of_le (Nat.zero_le _))
    rw [Nat.add_zero,Nat.add_zero] at h0
    rw [run2_eq hX hY,if_pos h0]
    have := ih (i + 1) (j + 1) fun t ht=>by
      have := h (t + 1) (by lia)
      rw [show i + (t + 1) = i + 1 + t by lia,show j + (t + 1) = j + 1 + t by lia] at this
      exact this
    exact Nat.succ_le_of_lt (Nat.lt_of_le_of_lt this (Nat.lt_succ_self _))
noncomputable def bk (X Y:List Int) (i1 j1:Nat) : Nat → Nat → Nat
  | 0,j=>if eqk X Y 0 j then 1 else 0
  | i + 1,j=>if eqk X Y (i + 1) j then (if i1 < i + 1 ∧ j1 < j then bk X Y i1 j1 i (j - 1) else 0) + 1 else 0
theorem bk_eq {X Y:List Int} {i1 j1:Nat} (i j:Nat) : bk X Y i1 j1 i j = if eqk X Y i j then (if i1 < i ∧ j1 < j then bk X Y i1 j1 (i - 1) (j - 1) else 0) + 1 else 0 := by
  cases i with
  | zero=>rw [bk]; simp
  | succ i=>rw [bk]; rfl
theorem sub1 (i t:Nat) : i - (t + 1) = i - 1 - t := by rw [Nat.sub_sub,Nat.add_comm 1 t]
theorem bk_cells {X Y:List Int} {i1 j1:Nat} : ∀ (t i j:Nat),i1 ≤ i → j1 ≤ j → t < bk X Y i1 j1 i j → i1 + t ≤ i ∧ j1 + t ≤ j ∧ eqk X Y (i - t) (j - t) := by
  have up : ∀ {x y t:Nat},x + t ≤ y - 1 → x < y → x + (t + 1) ≤ y := fun h hy=>Nat.succ_le_of_lt (Nat.lt_of_le_of_lt h (Nat.sub_lt (Nat.lt_of_le_of_lt (Nat.zero_le _) hy) Nat.one_pos))
  intro t
  induction t with
  | zero =>
    intro i j h1 h2 h
    rw [bk_eq] at h
    split at h
    · rename_i c; exact ⟨h1,h2,c⟩
    · exact absurd h (Nat.lt_irrefl _)
  | succ t ih =>
    intro i j h1 h2 h
    rw [bk_eq] at h
    split at h
    · split at h
      · rename_i c
        have := ih (i - 1) (j - 1) (Nat.le_sub_one_of_lt c.1) (Nat.le_sub_one_of_lt c.2) (Nat.lt_of_succ_lt_succ h)
        rw [sub1 i t,sub1 j t]
        exact ⟨up this.1 c.1,up this.2.1 c.2,this.2.2⟩
      · exact absurd h (Nat.not_lt_of_le (Nat.succ_le_succ (Nat.zero_le _)))
    · exact absurd h (Nat.not_lt_zero _)
theorem bk_ge {X Y:List Int} {i1 j1:Nat} : ∀ (k i j:Nat),(∀ t,t < k → i1 + t ≤ i ∧ j1 + t ≤ j ∧ eqk X Y (i - t) (j - t)) → k ≤ bk X Y i1 j1 i j := by
  intro k
  induction k with
  | zero=>intro i j _; exact Nat.zero_le _
  | succ k ih =>
    intro i j h
    have h0 := h 0 (Nat.succ_pos _)
    rw [Nat.sub_zero,Nat.sub_zero] at h0
    rw [bk_eq,if_pos h0.2.2]
    cases k with
    | zero=>split <;> exact Nat.succ_le_succ (Nat.zero_le _)
    | succ k =>
      have h1 := h 1 (Nat.succ_lt_succ (Nat.succ_pos _))
      rw [if_pos (⟨(Nat.lt_of_succ_le h1.1),(Nat.lt_of_succ_le h1.2.1)⟩)]
      have := ih (i - 1) (j - 1) fun t ht=>by
        have := h (t + 1) (Nat.succ_lt_succ ht)
        rw [sub1 i t,sub1 j t] at this
        exact ⟨Nat.le_sub_one_of_lt this.1,Nat.le_sub_one_of_lt this.2.1,this.2.2⟩
      exact Nat.succ_le_succ this
theorem dp_same {X Y:List Int} {i1 i2 j1 j2:Nat} (h1:i1 ≤ i2) (hX:i2 ≤ X.length) (h3:j1 ≤ j2) (hY:j2 ≤ Y.length) : allG (bk X Y i1 j1) (fun k=>k - 1) i1 j1 (j2 - j1) (i2 - i1) = allB X Y i1 i2 j1 j2 (i2 - i1) := by
  have ea : allB X Y i1 i2 j1 j2 (i2 - i1) = allG (fun i j=>run2 X Y i i2 j j2) (fun _=>0) i1 j1 (j2 - j1) (i2 - i1) := rfl
  have x := Fst.all (f := fun i j=>run2 X Y i i2 j j2) (sh := fun _=>0) (i1 := i1) h3 (i2 - i1)
  have y := Fst.all (f := bk X Y i1 j1) (sh := fun k=>k - 1) (i1 := i1) h3 (i2 - i1)
  rw [show i1 + (i2 - i1) = i2 by lia] at x y
  rw [ea]
  refine fst_same x y ?_ ?_
  · intro i j hw hpos
    have hc := fun t=>run_cells hX hY t i j
    (try dsimp only at hpos); (try dsimp only at hc)
    generalize run2 X Y i i2 j j2 = k at *
    have hlt : ∀ t,k - 1 - t < k := fun t=>Nat.lt_of_le_of_lt (Nat.sub_le _ _) (Nat.sub_lt hpos Nat.one_pos)
    have hl := hc (k - 1) (hlt 0)
    rw [Nat.add_sub_assoc hpos,Nat.add_sub_assoc hpos]
    refine ⟨⟨Nat.le_trans hw.1 (Nat.le_add_right _ _),hl.1,Nat.le_trans hw.2.2.1 (Nat.le_add_right _ _),hl.2.1⟩,bk_ge k _ _ fun t ht=>?_⟩
    have ht := Nat.le_sub_one_of_lt ht
    rw [Nat.add_sub_assoc ht,Nat.add_sub_assoc ht]
    exact ⟨Nat.add_le_add hw.1 ht,Nat.add_le_add hw.2.2.1 ht,(hc _ (hlt t)).2.2⟩
  · intro i j hw hpos
    have hc := fun t=>bk_cells (X := X) (Y := Y) (i1 := i1) (j1 := j1) t i j hw.1 hw.2.2.1
    generalize bk X Y i1 j1 i j = k at *
    have hlt : ∀ t,k - 1 - t < k := fun t=>Nat.lt_of_le_of_lt (Nat.sub_le _ _) (Nat.sub_lt hpos Nat.one_pos)
    have hl := hc (k - 1) (hlt 0)
    have s : ∀ {x y:Nat},x + (k - 1) ≤ y → x + k ≤ y + 1 := fun h=>by rw [← Nat.sub_add_cancel hpos,← Nat.add_assoc]; exact Nat.succ_le_succ h
    refine ⟨s hl.1,s hl.2.1,run_ge hX hY k _ _ fun t ht=>?_⟩
    have ht := Nat.le_sub_one_of_lt ht
    have d : ∀ {x y:Nat},x + (k - 1) ≤ y → y - (k - 1) + t = y - (k - 1 - t) := fun {x y} h=>by
      rw [Nat.sub_sub_right _ ht,Nat.sub_add_comm (Nat.le_trans (Nat.le_add_left _ _) h)]
    rw [d hl.1,d hl.2.1]
    exact ⟨Nat.lt_of_le_of_lt (Nat.sub_le _ _) hw.2.1,Nat.lt_of_le_of_lt (Nat.sub_le _ _) hw.2.2.2,(hc _ (hlt t)).2.2⟩
theorem allB_run {X Y:List Int} {i1 i2 j1 j2:Nat} (h1:i1 ≤ i2) (hX:i2 ≤ X.length) (h3:j1 ≤ j2) (hY:j2 ≤ Y.length) :
    (∀ i j,Wn i1 i2 j1 j2 i j → run2 X Y i i2 j j2 ≤ (allB X Y i1 i2 j1 j2 (i2 - i1)).1) ∧ run2 X Y (allB X Y i1 i2 j1 j2 (i2 - i1)).2.1 i2 (allB X Y i1 i2 j1 j2 (i2 - i1)).2.2 j2 = (allB X Y i1 i2 j1 j2 (i2 - i1)).1 ∧
    ((allB X Y i1 i2 j1 j2 (i2 - i1)).1 = 0 → (allB X Y i1 i2 j1 j2 (i2 - i1)).2 = (i1,j1)) := by
  have ea : allB X Y i1 i2 j1 j2 (i2 - i1) = allG (fun i j=>run2 X Y i i2 j j2) (fun _=>0) i1 j1 (j2 - j1) (i2 - i1) := rfl
  have x := Fst.all (f := fun i j=>run2 X Y i i2 j j2) (sh := fun _=>0) (i1 := i1) h3 (i2 - i1)
  rw [show i1 + (i2 - i1) = i2 by lia,← ea] at x
  refine ⟨x.le,?_,x.z⟩
  rcases Nat.eq_zero_or_pos (allB X Y i1 i2 j1 j2 (i2 - i1)).1 with h | h
  · rw [x.z h,h]
    by_cases c : i1 < i2 ∧ j1 < j2
    · have := x.le i1 j1 ⟨Nat.le_refl _,c.1,Nat.le_refl _,c.2⟩
      dsimp only at this ⊢
      exact Nat.le_antisymm (Nat.le_trans this (Nat.le_of_eq h)) (Nat.zero_le _)
    · exact run2_zero (by lia)
  · obtain ⟨i,j,_,e,e2,_⟩ := x.p h
    rw [e2]; exact e
theorem run2_end {X Y:List Int} {i2 j2:Nat} (hX:i2 ≤ X.length) (hY:j2 ≤ Y.length) (i j:Nat) : ¬ (i + run2 X Y i i2 j j2 < i2 ∧ j + run2 X Y i i2 j j2 < j2 ∧ eqk X Y (i + run2 X Y i i2 j j2) (j + run2 X Y i i2 j j2)) := by
  intro hc
  have := run_ge hX hY (run2 X Y i i2 j j2 + 1) i j fun t ht=>by
    rcases Nat.lt_succ_iff_lt_or_eq.mp ht with h | h
    · exact run_cells hX hY t i j h
    · rw [h]; exact hc
  exact absurd (Nat.lt_of_succ_le this) (Nat.not_lt_of_le (Nat.le_of_lt (Nat.lt_of_succ_le this)))
theorem no_ahead {X Y:List Int} {i1 i2 j1 j2:Nat} (h1:i1 ≤ i2) (hX:i2 ≤ X.length) (h3:j1 ≤ j2) (hY:j2 ≤ Y.length) {b:Nat × Nat × Nat} (hb:b = allB X Y i1 i2 j1 j2 (i2 - i1)) (hin:InW i1 i2 j1 j2 b) (c1:i1 < b.2.1) (c2:j1 < b.2.2) : ¬ eqk X Y (b.2.1 - 1) (b.2.2 - 1) := by
  obtain ⟨a1,a2,a3⟩ := allB_run h1 hX h3 hY
  rw [← hb] at a1 a2 a3
  intro he
  have hk : 0 < b.1 := by
    rcases Nat.eq_zero_or_pos b.1 with h | h
    · have := a3 h; rw [this] at c1; exact absurd c1 (Nat.lt_irrefl _)
    · exact h
  unfold InW at hin
  have q1 : b.2.1 - 1 < i2 := Nat.lt_of_le_of_lt (Nat.sub_le _ _) (Nat.lt_of_lt_of_le (Nat.lt_add_of_pos_right hk) hin.2.1)
  have q2 : b.2.2 - 1 < j2 := Nat.lt_of_le_of_lt (Nat.sub_le _ _) (Nat.lt_of_lt_of_le (Nat.lt_add_of_pos_right hk) hin.2.2.2)
  have := a1 (b.2.1 - 1) (b.2.2 - 1) ⟨Nat.le_sub_one_of_lt c1,q1,Nat.le_sub_one_of_lt c2,q2⟩
  rw [run2_eq hX hY,if_pos ⟨q1,q2,he⟩,Nat.sub_add_cancel (Nat.lt_of_le_of_lt (Nat.zero_le _) c1),Nat.sub_add_cancel (Nat.lt_of_le_of_lt (Nat.zero_le _) c2),a2] at this
  exact Nat.not_succ_le_self _ this
theorem no_behind {X Y:List Int} {i1 i2 j1 j2:Nat} (h1:i1 ≤ i2) (hX:i2 ≤ X.length) (h3:j1 ≤ j2) (hY:j2 ≤ Y.length) {b:Nat × Nat × Nat} (hb:b = allB X Y i1 i2 j1 j2 (i2 - i1)) (c1:b.2.1 + b.1 < i2) (c2:b.2.2 + b.1 < j2) : ¬ eqk X Y (b.2.1 + b.1) (b.2.2 + b.1) := by
  obtain ⟨_,a2,_⟩ := allB_run h1 hX h3 hY
  rw [← hb] at a2
  intro he
  have := run2_end hX hY b.2.1 b.2.2
  rw [a2] at this
  exact this ⟨c1,c2,he⟩
theorem win_snoc {L:List Int} {i i2:Nat} (h:i ≤ i2) (h2:i2 < L.length) : win L i (i2 + 1) = win L i i2 ++ [L.getD i2 0] := by
  unfold win
  rw [List.take_add_one,List.drop_append_of_le_length (by simp; lia)]
  simp [List.getD_eq_getElem?_getD,h2]
noncomputable def eqj (X Y:List Int) (i j:Nat) : Bool := decide (X.getD i 0 = Y.getD j 0 ∧ keptB (Y.getD j 0) = false)
theorem besideB_cons {x y:Int} {xs ys:List Int} : besideB (x :: xs) (y :: ys) = (decide (x = y ∧ keptB y = false) && besideB xs ys) := by
  unfold besideB
  rw [Bool.eq_iff_iff]
  simp only [Bool.and_eq_true,decide_eq_true_eq,List.cons.injEq,List.all_cons,Bool.not_eq_true']
  constructor
  · rintro ⟨⟨rfl,rfl⟩,h1,h2⟩; exact ⟨⟨rfl,h1⟩,rfl,h2⟩
  · rintro ⟨⟨rfl,h1⟩,rfl,h2⟩; exact ⟨⟨rfl,rfl⟩,h1,h2⟩
theorem besideB_snoc {x y:Int} {xs ys:List Int} (hl:xs.length = ys.length) : besideB (xs ++ [x]) (ys ++ [y]) = (besideB xs ys && decide (x = y ∧ keptB y = false)) := by
  unfold besideB
  rw [Bool.eq_iff_iff]
  simp only [Bool.and_eq_true,decide_eq_true_eq,List.all_append,List.all_cons,List.all_nil,Bool.and_true,Bool.not_eq_true']
  constructor
  · rintro ⟨h,h1,h2⟩
    obtain ⟨rfl,e⟩ := List.append_inj h hl
    simp at e; subst e
    exact ⟨⟨rfl,h1⟩,rfl,h2⟩
  · rintro ⟨⟨rfl,h1⟩,rfl,h2⟩; exact ⟨rfl,h1,h2⟩
theorem aheadP_succ {X Y:List Int} {a b t:Nat} (h1:t < a) (h2:t < b) (hX:a ≤ X.length) (hY:b ≤ Y.length) : aheadP X Y a b (t + 1) = (eqj X Y (a - t - 1) (b - t - 1) && aheadP X Y a b t) := by
  unfold aheadP
  have e1 : win X (a - (t + 1)) a = X.getD (a - t - 1) 0 :: win X (a - t) a := by
    rw [win_cons (by lia) hX,getD_of (by lia)]
    congr 1
    congr 1; lia
  have e2 : win Y (b - (t + 1)) b = Y.getD (b - t - 1) 0 :: win Y (b - t) b := by
    rw [win_cons (by lia) hY,getD_of (by lia)]
    congr 1
    congr 1; lia
  rw [e1,e2,besideB_cons]
  rfl
theorem behindP_succ {X Y:List Int} {a b t:Nat} (hX:a + t < X.length) (hY:b + t < Y.length) : behindP X Y a b (t + 1) = (behindP X Y a b t && eqj X Y (a + t) (b + t)) := by
  unfold behindP
  rw [← Nat.add_assoc,← Nat.add_assoc,win_snoc (Nat.le_add_right _ _) hX,win_snoc (by lia) hY,besideB_snoc (by rw [win_len (Nat.le_of_lt hX),win_len (by lia)]; lia)]
  rfl
theorem aheadP_down {X Y:List Int} {a b t:Nat} (hX:a ≤ X.length) (hY:b ≤ Y.length) : ∀ u,t + u ≤ a → t + u ≤ b → aheadP X Y a b (t + u) = true → aheadP X Y a b t = true := by
  intro u
  induction u with
  | zero=>intro _ _ h; exact h
  | succ u ih =>
    intro h1 h2 h
    rw [← Nat.add_assoc,aheadP_succ (by lia) (by lia) hX hY,Bool.and_eq_true] at h
    exact ih (by lia) (by lia) h.2
theorem behindP_down {X Y:List Int} {a b t:Nat} : ∀ u,a + (t + u) ≤ X.length → b + (t + u) ≤ Y.length → behindP X Y a b (t + u) = true → behindP X Y a b t = true := by
  intro u
  induction u with
  | zero=>intro _ _ h; exact h
  | succ u ih =>
    intro h1 h2 h
    rw [← Nat.add_assoc,behindP_succ (by lia) (by lia),Bool.and_eq_true] at h
    exact ih (by lia) (by lia) h.1
theorem top_ahead {X Y:List Int} {i1 j1 a b t:Nat} (hX:a ≤ X.length) (hY:b ≤ Y.length) (h1:i1 + t ≤ a) (h2:j1 + t ≤ b) (ht:aheadP X Y a b t = true) (hn:¬ (i1 + t < a ∧ j1 + t < b ∧ eqj X Y (a - t - 1) (b - t - 1))) : topT (min (a - i1) (b - j1) + 1) (aheadP X Y a b) = t := by
  have k1 : t ≤ a - i1 := Nat.le_sub_of_add_le (Nat.add_comm _ _ ▸ h1)
  have k2 : t ≤ b - j1 := Nat.le_sub_of_add_le (Nat.add_comm _ _ ▸ h2)
  refine topT_eq (Nat.lt_succ_of_le (Nat.le_min.mpr ⟨k1,k2⟩)) ht fun u hu hp=>Nat.le_of_not_lt fun hlt=>hn ?_
  obtain ⟨v,rfl⟩ := Nat.exists_eq_add_of_le hlt
  obtain ⟨m1,m2⟩ := Nat.le_min.mp (Nat.le_of_lt_succ hu)
  have s : ∀ {x y:Nat},t.succ + v ≤ x - y → y + t < x ∧ t + 1 + v ≤ x ∧ t < x := by clear k1 k2 m1 m2 hlt hu hn h1 h2 hX hY; lia
  have := aheadP_down hX hY v (s m1).2.1 (s m2).2.1 hp
  rw [aheadP_succ (s m1).2.2 (s m2).2.2 hX hY,Bool.and_eq_true] at this
  exact ⟨(s m1).1,(s m2).1,this.1⟩
theorem top_behind {X Y:List Int} {i2 j2 a b t:Nat} (hX:i2 ≤ X.length) (hY:j2 ≤ Y.length) (h1:a + t ≤ i2) (h2:b + t ≤ j2) (ht:behindP X Y a b t = true) (hn:¬ (a + t < i2 ∧ b + t < j2 ∧ eqj X Y (a + t) (b + t))) : topT (min (i2 - a) (j2 - b) + 1) (behindP X Y a b) = t := by
  have k1 : t ≤ i2 - a := Nat.le_sub_of_add_le (Nat.add_comm _ _ ▸ h1)
  have k2 : t ≤ j2 - b := Nat.le_sub_of_add_le (Nat.add_comm _ _ ▸ h2)
  refine topT_eq (Nat.lt_succ_of_le (Nat.le_min.mpr ⟨k1,k2⟩)) ht fun u hu hp=>Nat.le_of_not_lt fun hlt=>hn ?_
  obtain ⟨v,rfl⟩ := Nat.exists_eq_add_of_le hlt
  obtain ⟨m1,m2⟩ := Nat.le_min.mp (Nat.le_of_lt_succ hu)
  have s : ∀ {x y:Nat},t.succ + v ≤ x - y → y + t < x ∧ y + (t + 1 + v) ≤ x := by clear k1 k2 m1 m2 hlt hu hn h1 h2 hX hY; lia
  have := behindP_down v (Nat.le_trans (s m1).2 hX) (Nat.le_trans (s m2).2 hY) hp
  rw [behindP_succ (Nat.lt_of_lt_of_le (s m1).1 hX) (Nat.lt_of_lt_of_le (s m2).1 hY),Bool.and_eq_true] at this
  exact ⟨(s m1).1,(s m2).1,this.2⟩
end
section
abbrev Blk := Nat × Nat × Nat
noncomputable def blocksF : Nat → List Int → List Int → Nat → Nat → Nat → Nat → List Blk
  | 0,_,_,_,_,_,_=>[]
  | m + 1,X,Y,i1,i2,j1,j2 =>
    if i1 = i2 ∨ j1 = j2 then [] else
      if (blockF X Y i1 i2 j1 j2).2.2 = 0 then [] else
        blocksF m X Y i1 (blockF X Y i1 i2 j1 j2).1 j1 (blockF X Y i1 i2 j1 j2).2.1 ++ [blockF X Y i1 i2 j1 j2] ++
          blocksF m X Y ((blockF X Y i1 i2 j1 j2).1 + (blockF X Y i1 i2 j1 j2).2.2) i2 ((blockF X Y i1 i2 j1 j2).2.1 + (blockF X Y i1 i2 j1 j2).2.2) j2
noncomputable def diags (bs:List Blk) : List (Nat × Nat) := bs.flatMap fun b=>diag b.1 b.2.1 b.2.2
theorem pairs_blocks {X Y:List Int} : ∀ (m i1 i2 j1 j2:Nat),pairsF m X Y i1 i2 j1 j2 = diags (blocksF m X Y i1 i2 j1 j2) := by
  intro m
  induction m with
  | zero=>intro i1 i2 j1 j2; rfl
  | succ m ih =>
    intro i1 i2 j1 j2
    rw [pairsF,blocksF]
    split
    · rfl
    · split
      · rfl
      · rw [ih,ih]
        unfold diags
        rw [List.flatMap_append,List.flatMap_append]
        simp
theorem blocksF_fuel {X Y:List Int} : ∀ (m i1 i2 j1 j2:Nat),i1 ≤ i2 → i2 ≤ X.length → j1 ≤ j2 → j2 ≤ Y.length → i2 - i1 < m → blocksF (m + 1) X Y i1 i2 j1 j2 = blocksF m X Y i1 i2 j1 j2 := by
  intro m
  induction m with
  | zero=>intro i1 i2 j1 j2 _ _ _ _ h; lia
  | succ m ih =>
    intro i1 i2 j1 j2 h1 h2 h3 h4 h
    rw [blocksF]
    conv=>rhs; rw [blocksF]
    by_cases c1 : i1 = i2 ∨ j1 = j2
    · rw [if_pos c1,if_pos c1]
    · rw [if_neg c1,if_neg c1]
      by_cases c2 : (blockF X Y i1 i2 j1 j2).2.2 = 0
      · rw [if_pos c2,if_pos c2]
      · rw [if_neg c2,if_neg c2]
        have hb := blockF_in (X := X) (Y := Y) h1 h2 h3 h4
        obtain ⟨b1,b2,b3,b4⟩ := hb
        have q := Nat.lt_of_lt_of_le (Nat.lt_add_of_pos_right (Nat.pos_of_ne_zero c2)) b2
        have h := Nat.le_of_lt_succ h
        rw [ih _ _ _ _ b1 (Nat.le_trans (Nat.le_of_lt q) h2) b3 (Nat.le_trans (Nat.le_trans (Nat.le_add_right _ _) b4) h4) (Nat.lt_of_lt_of_le (Nat.sub_lt_sub_right b1 q) h),ih _ _ _ _ b2 h2 b4 h4 (Nat.lt_of_lt_of_le (Nat.sub_lt_sub_left (Nat.lt_of_le_of_lt b1 q) (Nat.lt_of_le_of_lt b1 (Nat.lt_add_of_pos_right (Nat.pos_of_ne_zero c2)))) h)]
noncomputable def blks (X Y:List Int) (i1 i2 j1 j2:Nat) : List Blk := blocksF (i2 - i1 + 1) X Y i1 i2 j1 j2
theorem blks_of {X Y:List Int} {m i1 i2 j1 j2:Nat} (h1:i1 ≤ i2) (h2:i2 ≤ X.length) (h3:j1 ≤ j2) (h4:j2 ≤ Y.length) (hm:i2 - i1 < m) : blocksF m X Y i1 i2 j1 j2 = blks X Y i1 i2 j1 j2 := by
  obtain ⟨d,rfl⟩ : ∃ d,m = i2 - i1 + 1 + d := ⟨m - (i2 - i1 + 1),by omega⟩
  clear hm
  induction d with
  | zero=>rfl
  | succ d ih=>rw [← Nat.add_assoc,blocksF_fuel _ _ _ _ _ h1 h2 h3 h4 (by exact Nat.le_add_right _ _),ih]
theorem blks_eq {X Y:List Int} {i1 i2 j1 j2:Nat} (h1:i1 ≤ i2) (h2:i2 ≤ X.length) (h3:j1 ≤ j2) (h4:j2 ≤ Y.length) : blks X Y i1 i2 j1 j2 = if i1 = i2 ∨ j1 = j2 then [] else
      if (blockF X Y i1 i2 j1 j2).2.2 = 0 then [] else
        blks X Y i1 (blockF X Y i1 i2 j1 j2).1 j1 (blockF X Y i1 i2 j1 j2).2.1 ++ [blockF X Y i1 i2 j1 j2] ++
          blks X Y ((blockF X Y i1 i2 j1 j2).1 + (blockF X Y i1 i2 j1 j2).2.2) i2 ((blockF X Y i1 i2 j1 j2).2.1 + (blockF X Y i1 i2 j1 j2).2.2) j2 := by
  conv=>lhs; unfold blks; rw [blocksF]
  by_cases c1 : i1 = i2 ∨ j1 = j2
  · rw [if_pos c1,if_pos c1]
  · rw [if_neg c1,if_neg c1]
    by_cases c2 : (blockF X Y i1 i2 j1 j2).2.2 = 0
    · rw [if_pos c2,if_pos c2]
    · rw [if_neg c2,if_neg c2]
      have hb := blockF_in (X := X) (Y := Y) h1 h2 h3 h4
      obtain ⟨b1,b2,b3,b4⟩ := hb
      have q := Nat.lt_of_lt_of_le (Nat.lt_add_of_pos_right (Nat.pos_of_ne_zero c2)) b2
      rw [blks_of b1 (Nat.le_trans (Nat.le_of_lt q) h2) b3 (Nat.le_trans (Nat.le_trans (Nat.le_add_right _ _) b4) h4) (Nat.sub_lt_sub_right b1 q),blks_of b2 h2 b4 h4 (Nat.sub_lt_sub_left (Nat.lt_of_le_of_lt b1 q) (Nat.lt_of_le_of_lt b1 (Nat.lt_add_of_pos_right (Nat.pos_of_ne_zero c2))))]
theorem blks_nil {X Y:List Int} {i1 i2 j1 j2:Nat} (h1:i1 ≤ i2) (h2:i2 ≤ X.length) (h3:j1 ≤ j2) (h4:j2 ≤ Y.length) (h:¬ (i1 < i2 ∧ j1 < j2)) : blks X Y i1 i2 j1 j2 = [] := by
  rw [blks_eq h1 h2 h3 h4,if_pos (by lia)]
noncomputable def Alike (X Y:List Int) (b:Blk) : Prop := ∀ t,t < b.2.2 → X.getD (b.1 + t) 0 = Y.getD (b.2.1 + t) 0
noncomputable def Inc (X Y:List Int) (hi hj:Nat) : Nat → Nat → List Blk → Prop
  | i,j,[]=>i ≤ hi ∧ j ≤ hj
  | i,j,b :: bs=>i ≤ b.1 ∧ j ≤ b.2.1 ∧ 0 < b.2.2 ∧ Alike X Y b ∧ Inc X Y hi hj (b.1 + b.2.2) (b.2.1 + b.2.2) bs
theorem Inc.append {X Y:List Int} {hi hj ki kj:Nat} : ∀ {l1 l2:List Blk} {i j:Nat},Inc X Y ki kj i j l1 → Inc X Y hi hj ki kj l2 → Inc X Y hi hj i j (l1 ++ l2) := by
  intro l1
  induction l1 with
  | nil =>
    intro l2 i j h1 h2
    cases l2 with
    | nil=>unfold Inc at h1 h2; show Inc X Y hi hj i j []; unfold Inc; exact ⟨(Nat.le_trans h1.1 h2.1),(Nat.le_trans h1.2 h2.2)⟩
    | cons b l2 =>
      show Inc X Y hi hj i j (b :: l2)
      unfold Inc at h1 h2 ⊢
      exact ⟨by exact Nat.le_trans h1.1 h2.1,by exact Nat.le_trans h1.2 h2.2.1,h2.2.2⟩
  | cons b l1 ih =>
    intro l2 i j h1 h2
    show Inc X Y hi hj i j (b :: (l1 ++ l2))
    unfold Inc at h1 ⊢
    exact ⟨h1.1,h1.2.1,h1.2.2.1,h1.2.2.2.1,ih h1.2.2.2.2 h2⟩
theorem Inc.end_ {X Y:List Int} {hi hj:Nat} : ∀ {l:List Blk} {i j:Nat},Inc X Y hi hj i j l → i ≤ hi ∧ j ≤ hj := by
  intro l
  induction l with
  | nil=>intro i j h; exact h
  | cons b l ih=>intro i j h; unfold Inc at h; have := ih h.2.2.2.2; exact ⟨(Nat.le_trans h.1 (Nat.le_trans (Nat.le_add_right _ _) this.1)),(Nat.le_trans h.2.1 (Nat.le_trans (Nat.le_add_right _ _) this.2))⟩
theorem ahead_alike {X Y:List Int} {a b:Nat} (hX:a ≤ X.length) (hY:b ≤ Y.length) : ∀ t,t ≤ a → t ≤ b → aheadP X Y a b t = true → ∀ u,u < t → X.getD (a - t + u) 0 = Y.getD (b - t + u) 0 := by
  intro t
  induction t with
  | zero=>intro _ _ _ u h; lia
  | succ t ih =>
    intro h1 h2 h u hu
    rw [aheadP_succ (by assumption) (Nat.lt_of_succ_le h2) hX hY,Bool.and_eq_true] at h
    cases u with
    | zero =>
      have := h.1
      unfold eqj at this
      rw [decide_eq_true_eq] at this
      rw [show a - (t + 1) + 0 = a - t - 1 by exact Int.toNat_natCast _,show b - (t + 1) + 0 = b - t - 1 by lia]
      exact this.1
    | succ u =>
      have := ih (by exact Nat.le_of_lt ‹_›) (Nat.le_of_lt (Nat.lt_of_succ_le h2)) h.2 u (by exact Nat.le_of_lt_succ ‹_›)
      rw [show a - (t + 1) + (u + 1) = a - t + u by lia,show b - (t + 1) + (u + 1) = b - t + u by lia]
      exact this
theorem behind_alike {X Y:List Int} {a b:Nat} : ∀ t,a + t ≤ X.length → b + t ≤ Y.length → behindP X Y a b t = true → ∀ u,u < t → X.getD (a + u) 0 = Y.getD (b + u) 0 := by
  intro t
  induction t with
  | zero=>intro _ _ _ u h; lia
  | succ t ih =>
    intro h1 h2 h u hu
    rw [behindP_succ (by assumption) (by lia),Bool.and_eq_true] at h
    by_cases c : u = t
    · have := h.2
      unfold eqj at this
      rw [decide_eq_true_eq] at this
      rw [c]; exact this.1
    · exact ih (by exact Nat.le_of_lt ‹_›) (by lia) h.1 u (by lia)
theorem topT_holds {n:Nat} {p:Nat → Bool} (h0:p 0 = true) : p (topT n p) = true := by
  induction n with
  | zero=>exact h0
  | succ n ih =>
    rw [topT]
    split
    · rename_i h; exact h
    · exact ih
theorem shL {p a t:Nat} (h1:a ≤ p) (h2:a ≤ t) : p - a + t = p + (t - a) := by rw [← Nat.sub_add_comm h1,Nat.add_sub_assoc h2]
theorem block_alike {X Y:List Int} {i1 i2 j1 j2:Nat} (h1:i1 ≤ i2) (h2:i2 ≤ X.length) (h3:j1 ≤ j2) (h4:j2 ≤ Y.length) : Alike X Y (blockF X Y i1 i2 j1 j2) := by
  obtain ⟨b,hb⟩ : ∃ b,b = allB X Y i1 i2 j1 j2 (i2 - i1) := ⟨_,rfl⟩
  have hin := allB_in (X := X) (Y := Y) (n := i2 - i1) h2 h4 h1 h3 (by lia)
  obtain ⟨_,hrun,_⟩ := allB_run h1 h2 h3 h4
  unfold blockF
  rw [← hb] at hin hrun ⊢
  dsimp only
  have a1 := topT_lt (n := min (b.2.1 - i1) (b.2.2 - j1) + 1) (p := aheadP X Y b.2.1 b.2.2) (Nat.succ_pos _)
  have a2 := topT_lt (n := min (i2 - (b.2.1 + b.1)) (j2 - (b.2.2 + b.1)) + 1) (p := behindP X Y (b.2.1 + b.1) (b.2.2 + b.1)) (Nat.succ_pos _)
  have b1 := topT_holds (n := min (b.2.1 - i1) (b.2.2 - j1) + 1) (p := aheadP X Y b.2.1 b.2.2) aheadP_zero
  have b2 := topT_holds (n := min (i2 - (b.2.1 + b.1)) (j2 - (b.2.2 + b.1)) + 1) (p := behindP X Y (b.2.1 + b.1) (b.2.2 + b.1)) behindP_zero
  generalize topT (min (b.2.1 - i1) (b.2.2 - j1) + 1) (aheadP X Y b.2.1 b.2.2) = ah at *
  generalize topT (min (i2 - (b.2.1 + b.1)) (j2 - (b.2.2 + b.1)) + 1) (behindP X Y (b.2.1 + b.1) (b.2.2 + b.1)) = be at *
  intro t ht
  dsimp only at ht ⊢
  obtain ⟨m1,m2⟩ := Nat.le_min.mp (Nat.le_of_lt_succ a1)
  obtain ⟨m3,m4⟩ := Nat.le_min.mp (Nat.le_of_lt_succ a2)
  obtain ⟨A1,A2,_,_⟩ := spanIn hin.1 hin.2.1 m1 m3
  obtain ⟨A3,A4,_,_⟩ := spanIn hin.2.2.1 hin.2.2.2 m2 m4
  have B1 := Nat.le_trans (Nat.le_trans (Nat.le_add_right _ _) hin.2.1) h2
  have B2 := Nat.le_trans (Nat.le_trans (Nat.le_add_right _ _) hin.2.2.2) h4
  clear a1 a2 m1 m2 m3 m4 hin
  rcases Nat.lt_or_ge t ah with c | c
  · exact ahead_alike B1 B2 ah A1 A3 b1 t c
  · rcases Nat.lt_or_ge t (ah + b.1) with c2 | c2
    · have := (run_cells h2 h4 (t - ah) b.2.1 b.2.2 (by rw [hrun]; exact Nat.sub_lt_left_of_lt_add c c2)).2.2
      unfold eqk at this
      rw [decide_eq_true_eq] at this
      rw [shL A1 c,shL A3 c]
      exact this.1
    · have q := Nat.le_sub_of_add_le' c2
      have := behind_alike be (Nat.le_trans A2 h2) (Nat.le_trans A4 h4) b2 (t - ah - b.1) (Nat.sub_lt_left_of_lt_add q (Nat.sub_lt_left_of_lt_add c (by rw [← Nat.add_assoc]; exact ht)))
      rw [Nat.add_assoc,Nat.add_assoc,Nat.add_sub_cancel' q] at this
      rw [shL A1 c,shL A3 c]
      exact this
theorem blks_inc {X Y:List Int} : ∀ (m i1 i2 j1 j2:Nat),i1 ≤ i2 → i2 ≤ X.length → j1 ≤ j2 → j2 ≤ Y.length → Inc X Y i2 j2 i1 j1 (blocksF m X Y i1 i2 j1 j2) := by
  intro m
  induction m with
  | zero=>intro i1 i2 j1 j2 h1 h2 h3 h4; exact ⟨h1,h3⟩
  | succ m ih =>
    intro i1 i2 j1 j2 h1 h2 h3 h4
    rw [blocksF]
    split
    · exact ⟨h1,h3⟩
    · split
      · exact ⟨h1,h3⟩
      · rename_i _ hk
        have hb := blockF_in (X := X) (Y := Y) h1 h2 h3 h4
        rw [List.append_assoc]
        refine (ih i1 _ j1 _ (hb.1) (Nat.le_trans (Nat.le_add_right _ _) (Nat.le_trans hb.2.1 h2)) (hb.2.2.1) (Nat.le_trans (Nat.le_add_right _ _) (Nat.le_trans hb.2.2.2 h4))).append ?_
        show Inc X Y i2 j2 _ _ (_ :: _)
        unfold Inc
        exact ⟨Nat.le_refl _,Nat.le_refl _,by exact Nat.pos_of_ne_zero ‹_›,block_alike h1 h2 h3 h4,ih _ _ _ _ (hb.2.1) (by omega) (hb.2.2.2) (h4)⟩
theorem Inc.len {X Y:List Int} {hi hj:Nat} : ∀ {l:List Blk} {i j:Nat},Inc X Y hi hj i j l → l.length + i ≤ hi := by
  intro l
  induction l with
  | nil=>intro i j h; unfold Inc at h; simp; exact h.1
  | cons b l ih=>intro i j h; unfold Inc at h; have := ih h.2.2.2.2; simp; lia
noncomputable def extF (g:List Op) (i j k:Nat) : List Op :=
  match g.getLast? with
  | some o=>if o.1 = Str.ofString "equal" then g.dropLast ++ [(Str.ofString "equal",o.2.1,i + k,o.2.2.2.1,j + k)] else g ++ [(Str.ofString "equal",i,i + k,j,j + k)]
  | none=>g ++ [(Str.ofString "equal",i,i + k,j,j + k)]
theorem extF_last (g:List Op) (i j k:Nat) : ∃ g' a b,extF g i j k = g' ++ [(Str.ofString "equal",a,i + k,b,j + k)] ∧ ∀ k',extF g i j k' = g' ++ [(Str.ofString "equal",a,i + k',b,j + k')] := by
  unfold extF
  split
  · split
    · exact ⟨_,_,_,rfl,fun _=>rfl⟩
    · exact ⟨_,_,_,rfl,fun _=>rfl⟩
  · exact ⟨_,_,_,rfl,fun _=>rfl⟩
theorem told_diag {many:Nat} {s:List Op × Nat × Nat} {i j:Nat} : ∀ k,0 < k → i + k ≤ many → (diag i j k).foldl (toldStep many) s = (extF (gapF s.1 s.2.1 s.2.2 i j) i j k,i + k,j + k) := by
  intro k
  induction k with
  | zero=>intro h; exact absurd ‹_› (Nat.lt_irrefl _)
  | succ k ih =>
    intro _ hm
    rw [diag_succ,List.foldl_append]
    rcases Nat.eq_zero_or_pos k with h | h
    · subst h
      show toldStep many ((diag i j 0).foldl (toldStep many) s) (i + 0,j + 0) = _
      show toldStep many s (i,j) = _
      unfold toldStep
      dsimp only
      rw [if_pos (by assumption)]
      rfl
    · rw [ih h (by exact Nat.le_of_lt ‹_›)]
      show toldStep many _ (i + k,j + k) = _
      unfold toldStep
      dsimp only
      rw [if_pos (by assumption)]
      have hg : gapF (extF (gapF s.1 s.2.1 s.2.2 i j) i j k) (i + k) (j + k) (i + k) (j + k) = extF (gapF s.1 s.2.1 s.2.2 i j) i j k := by unfold gapF; rw [if_neg (by lia)]
      rw [hg]
      obtain ⟨g',a,b,e1,e2⟩ := extF_last (gapF s.1 s.2.1 s.2.2 i j) i j k
      rw [e1,e2 (k + 1)]
      unfold eqF
      rw [List.getLast?_append,List.getLast?_singleton]
      simp only [Option.some_or,if_true,List.dropLast_concat]
      rfl
noncomputable def mergeS (s:List Blk × Blk) (b:Blk) : List Blk × Blk :=
  if s.2.1 + s.2.2.2 = b.1 ∧ s.2.2.1 + s.2.2.2 = b.2.1 then (s.1,s.2.1,s.2.2.1,s.2.2.2 + b.2.2) else (if s.2.2.2 = 0 then s.1 else s.1 ++ [s.2],b)
noncomputable def flushS (s:List Blk × Blk) : List Blk := if s.2.2.2 = 0 then s.1 else s.1 ++ [s.2]
noncomputable def matchF (bs:List Blk) (la lb:Nat) : List Blk := flushS (bs.foldl mergeS ([],0,0,0)) ++ [(la,lb,0)]
noncomputable def opS (s:List Op × Nat × Nat) (b:Blk) : List Op × Nat × Nat :=
  (if b.2.2 = 0 then gapF s.1 s.2.1 s.2.2 b.1 b.2.1 else gapF s.1 s.2.1 s.2.2 b.1 b.2.1 ++ [(Str.ofString "equal",b.1,b.1 + b.2.2,b.2.1,b.2.1 + b.2.2)],b.1 + b.2.2,b.2.1 + b.2.2)
noncomputable def opF (bs:List Blk) : List Op := (bs.foldl opS ([],0,0)).1
theorem tag_ne {i j x y:Nat} : tagOf i j x y ≠ Str.ofString "equal" := by
  unfold tagOf
  split
  · decide
  · split <;> decide
theorem ext_gap {ops:List Op} {i j x y k:Nat} (h:i < x ∨ j < y) : extF (gapF ops i j x y) x y k = gapF ops i j x y ++ [(Str.ofString "equal",x,x + k,y,y + k)] := by
  unfold gapF
  rw [if_pos h]
  unfold extF
  rw [List.getLast?_append,List.getLast?_singleton]
  simp only [Option.some_or]
  rw [if_neg tag_ne]
theorem told_merge {many:Nat} {X Y:List Int} {hj:Nat} : ∀ (bs:List Blk) (ms:List Blk × Blk) (ts:List Op × Nat × Nat),ts = (flushS ms).foldl opS ([],0,0) → (ms.2.2.2 = 0 → ms = ([],0,0,0)) → Inc X Y many hj ts.2.1 ts.2.2 bs →
    (diags bs).foldl (toldStep many) ts = (flushS (bs.foldl mergeS ms)).foldl opS ([],0,0) := by
  intro bs
  induction bs with
  | nil=>intro ms ts h _ _; exact h
  | cons b bs ih =>
    intro ms ts h hz hI
    obtain ⟨i,j,k⟩ := b
    unfold Inc at hI
    obtain ⟨h1,h2,h3,_,h4⟩ := hI
    have hend := h4.end_
    dsimp only at h1 h2 h3 h4 hend
    unfold diags
    rw [List.flatMap_cons,List.foldl_append,told_diag k h3 (hend.1)]
    rw [List.foldl_cons]
    refine ih (mergeS ms (i,j,k)) _ ?_ ?_ ?_
    · obtain ⟨na,i1,j1,k1⟩ := ms
      dsimp only at hz
      rcases Nat.eq_zero_or_pos k1 with c | c
      · have := hz c
        simp only [Prod.mk.injEq] at this
        obtain ⟨rfl,rfl,rfl,rfl⟩ := this
        have hts : ts = ([],0,0) := h
        subst hts
        unfold mergeS
        by_cases ha : (0 + 0 = i ∧ 0 + 0 = j)
        · obtain ⟨rfl,rfl⟩ := ha
          rw [if_pos ⟨rfl,rfl⟩]
          unfold flushS
          dsimp only
          rw [if_neg (Nat.ne_of_gt (Nat.lt_of_lt_of_le h3 (Nat.le_add_left _ _)))]
          simp [opS,gapF,extF,show k ≠ 0 by exact Nat.ne_of_gt h3]
        · rw [if_neg ha]
          unfold flushS
          dsimp only
          rw [if_neg (by lia),if_pos rfl]
          rw [ext_gap (by lia)]
          simp [opS,show k ≠ 0 by lia]
      · have hf : flushS (na,i1,j1,k1) = na ++ [(i1,j1,k1)] := by unfold flushS; rw [if_neg (by dsimp only; exact Nat.ne_of_gt c)]
        rw [hf,List.foldl_append] at h
        obtain ⟨st,hst⟩ : ∃ st,st = na.foldl opS ([],0,0) := ⟨_,rfl⟩
        rw [← hst] at h
        have hts : ts = (gapF st.1 st.2.1 st.2.2 i1 j1 ++ [(Str.ofString "equal",i1,i1 + k1,j1,j1 + k1)],i1 + k1,j1 + k1) := by
          rw [h]; simp [opS,show k1 ≠ 0 by lia]
        unfold mergeS
        by_cases ha : (i1 + k1 = i ∧ j1 + k1 = j)
        · rw [if_pos ha]
          have hf2 : flushS (na,i1,j1,k1 + k) = na ++ [(i1,j1,k1 + k)] := by unfold flushS; rw [if_neg (by dsimp only; exact Nat.ne_of_gt (Nat.lt_of_lt_of_le h3 (Nat.le_add_left _ _)))]
          dsimp only
          rw [hf2,List.foldl_append,← hst]
          obtain ⟨rfl,rfl⟩ := ha
          subst hts
          dsimp only
          have hg : ∀ l : List Op,gapF l (i1 + k1) (j1 + k1) (i1 + k1) (j1 + k1) = l := fun l=>by unfold gapF; rw [if_neg (by lia)]
          rw [hg]
          unfold extF
          rw [List.getLast?_append,List.getLast?_singleton]
          simp only [Option.some_or,if_true,List.dropLast_concat]
          simp [opS,show k1 ≠ 0 by lia,Nat.add_assoc]
        · rw [if_neg ha]
          have hf2 : flushS (if k1 = 0 then na else na ++ [(i1,j1,k1)],i,j,k) = na ++ [(i1,j1,k1)] ++ [(i,j,k)] := by
            unfold flushS; dsimp only; rw [if_neg (by lia),if_neg (by lia)]
          dsimp only
          rw [hf2,List.foldl_append,List.foldl_append,← hst,← h]
          subst hts
          dsimp only at h1 h2 ⊢
          rw [ext_gap (by lia)]
          simp [opS,show k ≠ 0 by lia]
    · intro h0
      exfalso
      unfold mergeS at h0
      split at h0
      · dsimp only at h0; exact absurd h3 (Nat.not_lt_of_le (Nat.le_trans (Nat.le_add_left _ _) (Nat.le_of_eq h0)))
      · dsimp only at h0; exact absurd h3 (Nat.not_lt_of_le (Nat.le_of_eq h0))
    · exact h4
theorem told_op {X Y:List Int} {bs:List Blk} (hI:Inc X Y X.length Y.length 0 0 bs) : toldF (diags bs) X.length Y.length = opF (matchF bs X.length Y.length) := by
  unfold toldF opF matchF
  rw [List.foldl_append,List.foldl_append,told_merge bs ([],0,0,0) ([],0,0) rfl (fun _=>rfl) hI]
  generalize (flushS (bs.foldl mergeS ([],0,0,0))).foldl opS ([],0,0) = st
  simp [toldStep,opS]
end
section
inductive Chain (X Y:List Int) : Nat → Nat → List Op → Nat → Nat → Prop
  | nil {i j:Nat} : Chain X Y i j [] i j
  | cons {i j x y i' j':Nat} {tag:Str} {ops:List Op} : i ≤ x → j ≤ y → (tag = Str.ofString "equal" → x - i = y - j ∧ ∀ t,t < x - i → X.getD (i + t) 0 = Y.getD (j + t) 0) → Chain X Y x y ops i' j' → Chain X Y i j ((tag,i,x,j,y) :: ops) i' j'
theorem Chain.append {X Y:List Int} {i j x y i' j':Nat} {l1 l2:List Op} (h1:Chain X Y i j l1 x y) (h2:Chain X Y x y l2 i' j') : Chain X Y i j (l1 ++ l2) i' j' := by
  induction h1 with
  | nil=>exact h2
  | cons a b c _ ih=>exact .cons a b c (ih h2)
theorem Chain.le {X Y:List Int} {i j i' j':Nat} {l:List Op} (h:Chain X Y i j l i' j') : i ≤ i' ∧ j ≤ j' := by
  induction h with
  | nil=>exact ⟨Nat.le_refl _,Nat.le_refl _⟩
  | cons a b _ _ ih=>exact ⟨(Nat.le_trans a ih.1),(Nat.le_trans b ih.2)⟩
theorem Chain.split {X Y:List Int} {i j i' j':Nat} {l1 l2:List Op} (h:Chain X Y i j (l1 ++ l2) i' j') : ∃ x y,Chain X Y i j l1 x y ∧ Chain X Y x y l2 i' j' := by
  induction l1 generalizing i j with
  | nil=>exact ⟨i,j,.nil,h⟩
  | cons o l1 ih =>
    cases h with
    | cons a b c h =>
      obtain ⟨x,y,h1,h2⟩ := ih h
      exact ⟨x,y,.cons a b c h1,h2⟩
theorem chain_gap {X Y:List Int} {i j x y:Nat} {ops:List Op} (h:Chain X Y 0 0 ops i j) (hx:i ≤ x) (hy:j ≤ y) : Chain X Y 0 0 (gapF ops i j x y) x y := by
  unfold gapF
  split
  · exact h.append (.cons hx hy (fun e=>absurd e tag_ne) .nil)
  · have e1 : i = x := by lia
    have e2 : j = y := by lia
    rw [← e1,← e2]; exact h
theorem chain_op {X Y:List Int} {hi hj:Nat} : ∀ (bs:List Blk) (s:List Op × Nat × Nat),Chain X Y 0 0 s.1 s.2.1 s.2.2 → Inc X Y hi hj s.2.1 s.2.2 bs → Chain X Y 0 0 (bs.foldl opS s).1 (bs.foldl opS s).2.1 (bs.foldl opS s).2.2 ∧ (bs.foldl opS s).2.1 ≤ hi ∧ (bs.foldl opS s).2.2 ≤ hj := by
  intro bs
  induction bs with
  | nil=>intro s h hI; exact ⟨h,hI⟩
  | cons b bs ih =>
    intro s h hI
    unfold Inc at hI
    obtain ⟨h1,h2,h3,h4,h5⟩ := hI
    rw [List.foldl_cons]
    refine ih _ ?_ h5
    unfold opS
    dsimp only
    rw [if_neg (Nat.ne_of_gt h3)]
    refine (chain_gap h h1 h2).append (.cons (by exact Nat.le_add_right _ _) (by exact Nat.le_add_right _ _) (fun _=>⟨by lia,fun t ht=>?_⟩) .nil)
    exact h4 t (by lia)
theorem merge_inc {X Y:List Int} {hi hj:Nat} : ∀ (bs:List Blk) (ms:List Blk × Blk),(ms.2.2.2 = 0 → ms = ([],0,0,0)) → (∃ i j,Inc X Y i j 0 0 (flushS ms) ∧ Inc X Y hi hj i j bs ∧ (0 < ms.2.2.2 → i = ms.2.1 + ms.2.2.2 ∧ j = ms.2.2.1 + ms.2.2.2)) → Inc X Y hi hj 0 0 (flushS (bs.foldl mergeS ms)) := by
  intro bs
  induction bs with
  | nil =>
    rintro ms _ ⟨i,j,h1,h2,_⟩
    have := h1.append h2
    rw [List.append_nil] at this
    exact this
  | cons b bs ih =>
    rintro ms hz ⟨i,j,h1,h2,h3⟩
    rw [List.foldl_cons]
    obtain ⟨na,i1,j1,k1⟩ := ms
    obtain ⟨bi,bj,bn⟩ := b
    unfold Inc at h2
    obtain ⟨g1,g2,g3,g4,g5⟩ := h2
    dsimp only at g1 g2 g3 g5 h3 hz
    by_cases ha : i1 + k1 = bi ∧ j1 + k1 = bj
    · have hm : mergeS (na,i1,j1,k1) (bi,bj,bn) = (na,i1,j1,k1 + bn) := by unfold mergeS; rw [if_pos ha]
      rw [hm]
      refine ih _ (fun h=>by dsimp only at h; lia) ⟨bi + bn,bj + bn,?_,g5,fun _=>by dsimp only; lia⟩
      have hf : flushS (na,i1,j1,k1 + bn) = na ++ [(i1,j1,k1 + bn)] := by unfold flushS; rw [if_neg (by dsimp only; exact Nat.ne_of_gt (Nat.lt_of_lt_of_le g3 (Nat.le_add_left _ _)))]
      rw [hf]
      rcases Nat.eq_zero_or_pos k1 with c | c
      · have := hz c
        simp only [Prod.mk.injEq] at this
        obtain ⟨rfl,rfl,rfl,rfl⟩ := this
        obtain ⟨rfl,rfl⟩ := ha
        refine ⟨Nat.le_refl _,Nat.le_refl _,by dsimp only; exact Nat.lt_of_lt_of_le g3 (Nat.le_add_left _ _),?_,by dsimp only; lia,by dsimp only; lia⟩
        intro t ht
        have := g4 t (by dsimp only at ht ⊢; lia)
        simpa using this
      · have hf0 : flushS (na,i1,j1,k1) = na ++ [(i1,j1,k1)] := by unfold flushS; rw [if_neg (by dsimp only; exact Nat.ne_of_gt c)]
        rw [hf0] at h1
        clear hm hf hf0 ih
        obtain ⟨rfl,rfl⟩ := h3 c
        obtain ⟨e1,e2⟩ := ha
        have : ∀ (l:List Blk) (p q:Nat),Inc X Y (i1 + k1) (j1 + k1) p q (l ++ [(i1,j1,k1)]) → Inc X Y (bi + bn) (bj + bn) p q (l ++ [(i1,j1,k1 + bn)]) := by
          intro l
          induction l with
          | nil =>
            intro p q h
            have h : Inc X Y (i1 + k1) (j1 + k1) p q ((i1,j1,k1) :: []) := h
            show Inc X Y (bi + bn) (bj + bn) p q ((i1,j1,k1 + bn) :: [])
            unfold Inc at h ⊢
            refine ⟨h.1,h.2.1,by dsimp only; exact Nat.lt_of_lt_of_le g3 (Nat.le_add_left _ _),?_,?_⟩
            · intro t ht
              dsimp only at ht ⊢
              by_cases ct : t < k1
              · exact h.2.2.2.1 t ct
              · have := g4 (t - k1) (by dsimp only; lia)
                dsimp only at this
                rw [← e1,← e2,show i1 + k1 + (t - k1) = i1 + t by lia,show j1 + k1 + (t - k1) = j1 + t by lia] at this
                exact this
            · unfold Inc; dsimp only; lia
          | cons a l ih =>
            intro p q h
            have h : Inc X Y (i1 + k1) (j1 + k1) p q (a :: (l ++ [(i1,j1,k1)])) := h
            show Inc X Y (bi + bn) (bj + bn) p q (a :: (l ++ [(i1,j1,k1 + bn)]))
            unfold Inc at h ⊢
            exact ⟨h.1,h.2.1,h.2.2.1,h.2.2.2.1,ih _ _ h.2.2.2.2⟩
        exact this na 0 0 h1
    · have hm : mergeS (na,i1,j1,k1) (bi,bj,bn) = (flushS (na,i1,j1,k1),bi,bj,bn) := by unfold mergeS flushS; rw [if_neg ha]
      rw [hm]
      refine ih _ (fun h=>by dsimp only at h; lia) ⟨bi + bn,bj + bn,?_,g5,fun _=>⟨rfl,rfl⟩⟩
      have hf : flushS (flushS (na,i1,j1,k1),bi,bj,bn) = flushS (na,i1,j1,k1) ++ [(bi,bj,bn)] := by
        generalize flushS (na,i1,j1,k1) = l
        unfold flushS; rw [if_neg (by dsimp only; exact Nat.ne_of_gt g3)]
      rw [hf]
      refine h1.append ?_
      exact ⟨g1,g2,g3,g4,Nat.le_refl _,Nat.le_refl _⟩
theorem chain_all {X Y:List Int} {bs:List Blk} (hI:Inc X Y X.length Y.length 0 0 bs) : Chain X Y 0 0 (opF (matchF bs X.length Y.length)) X.length Y.length := by
  have h1 := merge_inc bs ([],0,0,0) (fun _=>rfl) ⟨0,0,⟨Nat.le_refl _,Nat.le_refl _⟩,hI,fun h=>absurd h (Nat.lt_irrefl 0)⟩
  obtain ⟨h2,h3,h4⟩ := chain_op (flushS (bs.foldl mergeS ([],0,0,0))) ([],0,0) .nil h1
  unfold opF matchF
  rw [List.foldl_append]
  generalize (flushS (bs.foldl mergeS ([],0,0,0))).foldl opS ([],0,0) = st at *
  show Chain X Y 0 0 (opS st (X.length,Y.length,0)).1 X.length Y.length
  unfold opS
  dsimp only
  rw [if_pos rfl]
  exact chain_gap h2 h3 h4
noncomputable def letterF (X Y:List Int) (p q:Nat) : List Nat := [61,63,113,63,113,63] ++ writ (X.take p) ++ writ (Y.drop q) ++ [63,61]
theorem writ_app (a b:List Int) : writ (a ++ b) = writ a ++ writ b := by unfold writ; rw [List.flatMap_append]
theorem lsl_none {α:Type} {L:List α} {n:Nat} (h:n ≤ L.length) : lsl L none (some (n:Int)) = L.take n := by
  unfold lsl
  simp only [Option.elim_none,Option.elim_some]
  rw [clip_nat h,List.drop_zero]; rfl
theorem lsl_from {α:Type} {L:List α} {n:Nat} (h:n ≤ L.length) : lsl L (some (n:Int)) none = L.drop n := by
  unfold lsl
  simp only [Option.elim_none,Option.elim_some]
  rw [clip_nat h]
  exact List.take_of_length_le (by rw [List.length_drop]; exact Nat.le_refl _)
theorem head_mid (xs:List Int) : lsl (headL xs) (some 6) (some (-2)) = writ xs := by
  unfold headL
  split
  · rename_i h; subst h; rfl
  · have hl : ([61,63,113,63,113,63] ++ writ xs ++ [63,61] : List Nat).length = (writ xs).length + 8 := by simp
    have c1 : clipAt ((writ xs).length + 8) 6 = 6 := clip_nat (k := 6) (Nat.le_trans (by decide) (Nat.le_add_left 8 _))
    have c2 : clipAt ((writ xs).length + 8) (-2) = (writ xs).length + 6 := by unfold clipAt; rw [if_pos (by decide)]; lia
    unfold lsl
    rw [hl]
    simp only [Option.elim_some]
    rw [c1,c2,Nat.add_sub_cancel]
    rw [List.append_assoc,List.drop_append_of_le_length (by simp)]
    simp
theorem edit_one {X Y:List Int} {tag:Str} {i x j y:Nat} (hix:i ≤ x) (hx:x ≤ X.length) (hjy:j ≤ y) (hy:y ≤ Y.length) (he:tag = Str.ofString "equal" → x - i = y - j ∧ ∀ t,t < x - i → X.getD (i + t) 0 = Y.getD (j + t) 0) :
    editF X Y (letterF X Y x y) (tag,i,x,j,y) = letterF X Y i j := by
  unfold editF
  dsimp only
  by_cases c : tag = Str.ofString "equal"
  · rw [if_pos c]
    obtain ⟨h1,h2⟩ := he c
    have e1 : X.take x = X.take i ++ (X.drop i).take (x - i) := by
      rw [← List.take_add,Nat.add_sub_cancel' hix]
    have e2 : Y.drop j = (Y.drop j).take (y - j) ++ Y.drop y := by
      conv=>lhs; rw [← List.take_append_drop (y - j) (Y.drop j)]
      rw [List.drop_drop,Nat.add_sub_cancel' hjy]
    have e3 : (X.drop i).take (x - i) = (Y.drop j).take (y - j) := by
      refine List.ext_getElem (by rw [List.length_take,List.length_take,List.length_drop,List.length_drop,Nat.min_eq_left (Nat.sub_le_sub_right hx i),Nat.min_eq_left (Nat.sub_le_sub_right hy j),h1]) fun t a1 a2=>?_
      simp only [List.length_take,List.length_drop] at a1
      rw [List.getElem_take,List.getElem_take,List.getElem_drop,List.getElem_drop]
      have a1 := Nat.lt_of_lt_of_le a1 (Nat.min_le_left _ _)
      have := h2 t a1
      rw [getD_of (Nat.lt_of_lt_of_le (Nat.add_lt_of_lt_sub' a1) hx),getD_of (Nat.lt_of_lt_of_le (Nat.add_lt_of_lt_sub' (h1 ▸ a1)) hy)] at this
      exact this
    unfold letterF
    rw [e1,e2,writ_app,writ_app,e3]
    simp
  · rw [if_neg c]
    have l1 : lsl X none (some (i:Int)) = X.take i := lsl_none (Nat.le_trans hix hx)
    have l2 : lsl X none (some (x:Int)) = X.take x := lsl_none hx
    have l3 : lsl Y (some (j:Int)) (some (y:Int)) = (Y.drop j).take (y - j) := by
      rw [lsl_win hjy hy]; unfold win; rw [List.drop_take]
    rw [l1,l2,l3,head_mid]
    have ex : X.take x = X.take i ++ (X.drop i).take (x - i) := by
      rw [← List.take_add,Nat.add_sub_cancel' hix]
    have ey : Y.drop j = (Y.drop j).take (y - j) ++ Y.drop y := by
      conv=>lhs; rw [← List.take_append_drop (y - j) (Y.drop j)]
      rw [List.drop_drop,Nat.add_sub_cancel' hjy]
    have wx : writ (X.take x) = writ (X.take i) ++ writ ((X.drop i).take (x - i)) := by rw [ex,writ_app]
    have hl : (letterF X Y x y).length = 6 + (writ (X.take x)).length + (writ (Y.drop y)).length + 2 := by unfold letterF; simp only [List.length_append,List.length_cons,List.length_nil]
    have wl : (writ (X.take i)).length ≤ (writ (X.take x)).length := by rw [wx]; simp
    rw [lsl_none (by lia),lsl_from (Nat.le_of_lt (Nat.lt_of_le_of_lt (Nat.le_add_right _ _) (Nat.lt_of_lt_of_le (Nat.lt_add_of_pos_right (by decide)) (Nat.le_of_eq hl.symm))))]
    have t1 : (letterF X Y x y).take (6 + (writ (X.take i)).length) = [61,63,113,63,113,63] ++ writ (X.take i) := by
      unfold letterF
      rw [wx]
      rw [show ([61,63,113,63,113,63] ++ (writ (X.take i) ++ writ ((X.drop i).take (x - i))) ++ writ (Y.drop y) ++ [63,61] : List Nat) = ([61,63,113,63,113,63] ++ writ (X.take i)) ++ (writ ((X.drop i).take (x - i)) ++ writ (Y.drop y) ++ [63,61]) by simp]
      exact List.take_left' (by simp; lia)
    have t2 : (letterF X Y x y).drop (6 + (writ (X.take x)).length) = writ (Y.drop y) ++ [63,61] := by
      unfold letterF
      rw [List.append_assoc]
      exact List.drop_left' (by simp; lia)
    rw [t1,t2]
    have wy : writ (Y.drop j) = writ ((Y.drop j).take (y - j)) ++ writ (Y.drop y) := by conv=>lhs; rw [ey,writ_app]
    unfold letterF
    rw [wy]
    simp only [List.append_assoc]
theorem edit_chain {X Y:List Int} {p q:Nat} {ops:List Op} (h:Chain X Y p q ops X.length Y.length) : ops.reverse.foldl (editF X Y) (letterF X Y X.length Y.length) = letterF X Y p q := by
  generalize hx : X.length = a at h
  generalize hy : Y.length = b at h
  have key : ∀ {p q a b:Nat} {ops:List Op},Chain X Y p q ops a b → a ≤ X.length → b ≤ Y.length → ops.reverse.foldl (editF X Y) (letterF X Y a b) = letterF X Y p q := by
    intro p q a b ops h
    induction h with
    | nil=>intro _ _; rfl
    | cons h1 h2 h3 h4 ih =>
      intro ha hb
      have := h4.le
      rw [List.reverse_cons,List.foldl_append,ih ha hb]
      exact edit_one h1 (Nat.le_trans this.1 ha) h2 (Nat.le_trans this.2 hb) h3
  exact key h (Nat.le_of_eq hx.symm) (by lia)
theorem head_letter {X:List Int} (Y:List Int) (h:X ≠ []) : headL X = letterF X Y X.length Y.length := by
  unfold headL letterF
  rw [if_neg h]
  simp [writ]
theorem letter_len {X Y:List Int} {p q:Nat} (hX:X.length ≤ 11) (hY:Y.length ≤ 11) : (letterF X Y p q).length ≤ 100000 := by
  have := writ_len (X.take p)
  have := writ_len (Y.drop q)
  have : (X.take p).length ≤ 11 := by simp; exact Nat.le_trans (Nat.min_le_right _ _) hX
  have : (Y.drop q).length ≤ 11 := by simp; exact Nat.le_trans hY (Nat.le_add_right _ _)
  unfold letterF
  simp only [List.length_append,List.length_cons,List.length_nil]
  lia
theorem edited_right {X Y:List Int} {ops:List Op} (hx:X ≠ []) (hy:Y ≠ []) (h:Chain X Y 0 0 ops X.length Y.length) : editedF ops X Y = headL Y := by
  unfold editedF
  rw [head_letter Y hx,edit_chain h]
  unfold letterF headL
  rw [if_neg hy]
  simp [writ]
theorem edited_small {X Y:List Int} {ops:List Op} (hx:X ≠ []) (hX:X.length ≤ 11) (hY:Y.length ≤ 11) (h:Chain X Y 0 0 ops X.length Y.length) (i:Nat) : ((ops.reverse.take i).foldl (editF X Y) (headL X)).length ≤ 100000 := by
  rw [head_letter Y hx,List.take_reverse]
  have e : ops = ops.take (ops.length - i) ++ ops.drop (ops.length - i) := (List.take_append_drop _ _).symm
  rw [e] at h
  obtain ⟨x,y,h1,h2⟩ := h.split
  rw [edit_chain h2]
  exact letter_len hX hY
theorem told_len {ps:List (Nat × Nat)} {m n:Nat} : (toldF ps m n).length ≤ 2 * ps.length + 2 := by
  unfold toldF
  have := @toldFold_len m (ps ++ [(m,n)]) ([],0,0)
  simp at this ⊢
  omega
end
section
section
variable {cmp:Nat → Nat → (Bool → Shared → Prop) → Shared → Prop} {I:Shared → Prop} {n:Nat} {key:Nat → Nat}
structure Pm (n:Nat) (p:Array Nat) : Prop where
  perm : p.toList.Perm (List.range n)
theorem Pm.size {p:Array Nat} (P:Pm n p) : p.size = n := by have := P.perm.length_eq; simpa using this
theorem Pm.lt {p:Array Nat} (P:Pm n p) {i:Nat} (h:i < n) : p.getD i 0 < n := by
  have hi : i < p.size := by rw [P.size]; exact h
  have : p.getD i 0 = p[i] := by simp [Array.getD,hi]
  rw [this]
  exact List.mem_range.mp (P.perm.subset (Array.mem_toList_iff.mpr (Array.getElem_mem hi)))
theorem Pm.inj {p:Array Nat} (P:Pm n p) {i j:Nat} (hi:i < n) (hj:j < n) (h:p.getD i 0 = p.getD j 0) : i = j := by
  have hi' : i < p.size := by rw [P.size]; exact hi
  have hj' : j < p.size := by rw [P.size]; exact hj
  have nd : p.toList.Nodup := P.perm.nodup_iff.mpr List.nodup_range
  have e1 : p.getD i 0 = p.toList[i]'(by simpa using hi') := by simp [Array.getD,hi']
  have e2 : p.getD j 0 = p.toList[j]'(by simpa using hj') := by simp [Array.getD,hj']
  rw [e1,e2] at h
  exact (List.getElem_inj nd).mp h
theorem Pm.up {p q:Array Nat} (P:Pm n p) (h:q.Perm p) : Pm n q := ⟨(Array.perm_iff_toList_perm.mp h).trans P.perm⟩
noncomputable def Kp' (key:Nat → Nat) (p:Array Nat) (i:Nat) : Nat := key (p.getD i 0)
noncomputable def Srt (key:Nat → Nat) (p:Array Nat) (k:Nat) : Prop := ∀ i j,i < j → j < k → Kp' key p i < Kp' key p j
noncomputable def Dsc (key:Nat → Nat) (p:Array Nat) (k:Nat) : Prop := ∀ i j,i < j → j < k → Kp' key p j < Kp' key p i
theorem Srt.step {p:Array Nat} {k:Nat} (h:Srt key p k) (hk:0 < k) (hl:Kp' key p (k - 1) < Kp' key p k) : Srt key p (k + 1) := by
  intro i j hij hj
  by_cases c : j = k
  · subst c
    by_cases c2 : i = j - 1
    · rw [c2]; exact hl
    · exact Nat.lt_trans (h i (j - 1) (by lia) (by omega)) hl
  · exact h i j hij (by lia)
theorem Dsc.step {p:Array Nat} {k:Nat} (h:Dsc key p k) (hk:0 < k) (hl:Kp' key p k < Kp' key p (k - 1)) : Dsc key p (k + 1) := by
  intro i j hij hj
  by_cases c : j = k
  · subst c
    by_cases c2 : i = j - 1
    · rw [c2]; exact hl
    · exact Nat.lt_trans hl (h i (j - 1) (by lia) (by lia))
  · exact h i j hij (by lia)
theorem Kp'.ne {p:Array Nat} (P:Pm n p) (hinj:∀ i j,i < n → j < n → key i = key j → i = j) {i j:Nat} (hi:i < n) (hj:j < n) (h:i ≠ j) : Kp' key p i ≠ Kp' key p j :=
  fun e=>h (P.inj hi hj (hinj _ _ (P.lt hi) (P.lt hj) e))
noncomputable def Cmp (cmp:Nat → Nat → (Bool → Shared → Prop) → Shared → Prop) (I:Shared → Prop) (n:Nat) (key:Nat → Nat) : Prop :=
  ∀ i j (C:Bool → Shared → Prop) s,i < n → j < n → I s → (∀ s',I s' → C (decide (key i < key j)) s') → cmp i j C s
theorem asc_ok (hc:Cmp cmp I n key) (hinj:∀ i j,i < n → j < n → key i = key j → i = j) {p:Array Nat} (P:Pm n p) {Q:Nat → Shared → Prop} : ∀ (f k:Nat) (s:Shared),I s → 1 ≤ k → k + f = n → Srt key p k →
    (∀ m s',I s' → k ≤ m → m ≤ n → Srt key p m → (m < n → Kp' key p m < Kp' key p (m - 1)) → Q m s') → (kas_asc p f k).kasWp cmp Q s := by
  intro f
  induction f with
  | zero=>intro k s hs h1 h2 h3 h; exact h k s hs (Nat.le_refl _) (by lia) h3 (fun h=>by lia)
  | succ f ih =>
    intro k s hs h1 h2 h3 h
    unfold kas_asc
    refine hc _ _ _ s (P.lt (by lia)) (P.lt (by lia)) hs fun s' hs'=>?_
    by_cases c : Kp' key p k < Kp' key p (k - 1)
    · rw [show decide (key (p.getD k 0) < key (p.getD (k - 1) 0)) = true from decide_eq_true c]; simp only [if_true]
      exact h k s' hs' (Nat.le_refl _) (Nat.le_trans (Nat.le_add_right _ _) (Nat.le_of_eq h2)) h3 (fun _=>c)
    · rw [show decide (key (p.getD k 0) < key (p.getD (k - 1) 0)) = false from decide_eq_false c]; simp only [Bool.false_eq_true,if_false]
      have := Kp'.ne P hinj (i := k) (j := k - 1) (by lia) (by lia) (by lia)
      exact ih (k + 1) s' hs' (by exact Nat.succ_pos _) (by lia) (h3.step (by assumption) (by lia)) fun m s'' hs'' g1 g2 g3 g4=>h m s'' hs'' (by exact Nat.le_of_lt ‹_›) g2 g3 g4
theorem desc_ok (hc:Cmp cmp I n key) (hinj:∀ i j,i < n → j < n → key i = key j → i = j) {p:Array Nat} (P:Pm n p) {Q:Array Nat × Nat × Nat → Shared → Prop} : ∀ (f k:Nat) (s:Shared),I s → 1 ≤ k → k + f = n → Dsc key p k →
    (∀ m s',I s' → k ≤ m → m ≤ n → Dsc key p m → Q (p,m,0) s') → (kas_desc f p k 0).kasWp cmp Q s := by
  intro f
  induction f with
  | zero=>intro k s hs h1 h2 h3 h; exact h k s hs (Nat.le_refl _) (by lia) h3
  | succ f ih =>
    intro k s hs h1 h2 h3 h
    unfold kas_desc
    refine hc _ _ _ s (P.lt (by lia)) (P.lt (by lia)) hs fun s' hs'=>?_
    by_cases c : Kp' key p k < Kp' key p (k - 1)
    · rw [show decide (key (p.getD k 0) < key (p.getD (k - 1) 0)) = true from decide_eq_true c]; simp only [if_true]
      exact ih (k + 1) s' hs' (Nat.le_of_lt (Nat.lt_of_le_of_lt h1 (Nat.lt_succ_self _))) (by lia) (h3.step (Nat.lt_of_lt_of_le (by decide) h1) c) fun m s'' hs'' g1 g2 g3=>h m s'' hs'' (Nat.le_of_lt (Nat.lt_of_succ_le g1)) g2 g3
    · rw [show decide (key (p.getD k 0) < key (p.getD (k - 1) 0)) = false from decide_eq_false c]; simp only [Bool.false_eq_true,if_false]
      have := Kp'.ne P hinj (i := k) (j := k - 1) (by lia) (by lia) (by lia)
      refine hc _ _ _ s' (P.lt (by lia)) (P.lt (by lia)) hs' fun s'' hs''=>?_
      rw [show decide (key (p.getD (k - 1) 0) < key (p.getD k 0)) = true from decide_eq_true (by unfold Kp' at *; omega)]; simp only [if_true]
      exact h k s'' hs'' (Nat.le_refl _) (by lia) h3
theorem rev_ok {p:Array Nat} (P:Pm n p) {k:Nat} (hk:k ≤ n) (h:Dsc key p k) : Pm n (kas_rev p 0 k) ∧ Srt key (kas_rev p 0 k) k := by
  refine ⟨P.up (mirror_perm _ _ _ _),fun i j hij hj=>?_⟩
  have e : ∀ i,i < k → (kas_rev p 0 k).getD i 0 = p.getD (k - 1 - i) 0 := fun i hi=>by
    have := getElem?_mirror_all (xs := p) (i := 0) (j := k) (by rw [P.size]; exact hk) i
    rw [if_pos ⟨Nat.zero_le _,hi⟩,Nat.zero_add] at this
    unfold kas_rev
    rw [Array.getD_eq_getD_getElem?,Array.getD_eq_getD_getElem?,this]
  unfold Kp'
  have hk0 := Nat.lt_of_le_of_lt (Nat.zero_le _) hj
  rw [e i (Nat.lt_trans hij hj),e j hj]
  exact h (k - 1 - j) (k - 1 - i) (Nat.sub_lt_sub_left (Nat.lt_of_lt_of_le hij (Nat.le_sub_one_of_lt hj)) hij) (Nat.lt_of_le_of_lt (Nat.sub_le _ _) (Nat.sub_lt hk0 Nat.one_pos))
theorem count_ok (hc:Cmp cmp I n key) (hinj:∀ i j,i < n → j < n → key i = key j → i = j) {p:Array Nat} (P:Pm n p) (hn:1 ≤ n) {Q:Nat × Array Nat → Shared → Prop} {s:Shared} (hs:I s)
    (h:∀ m q s',I s' → 1 ≤ m → m ≤ n → Pm n q → Srt key q m → Q (m,q) s') : (kas_count n p).kasWp cmp Q s := by
  unfold kas_count
  rw [KasT.kasWp_bind]
  refine asc_ok hc hinj P (n - 1) 1 s hs (Nat.le_refl _) (by lia) (fun i j _ _=>by lia) fun m s' hs' h1 h2 h3 h4=>?_
  by_cases c : m = n
  · subst c
    rw [if_pos (by simp)]
    exact h m p s' hs' h1 h2 P h3
  · rw [if_neg (by simpa using c)]
    by_cases c2 : m > 1
    · rw [if_pos c2]
      refine hc _ _ _ s' (P.lt (by lia)) (P.lt (by omega)) hs' fun s'' hs''=>?_
      rw [show decide (key (p.getD 0 0) < key (p.getD (m - 1) 0)) = true from decide_eq_true (h3 0 (m - 1) (by omega) (by omega))]; simp only [if_true]
      exact h m p s'' hs'' h1 h2 P h3
    · rw [if_neg c2]
      have hm : m = 1 := by lia
      subst hm
      have hd := h4 (by lia)
      unfold kas_descPart
      rw [KasT.kasWp_bind]
      refine desc_ok hc hinj P (n - (1 + 1)) (1 + 1) s' hs' (by exact Nat.succ_pos _) (by lia) (fun i j hij hj=>?_) fun k s'' hs'' g1 g2 g3=>?_
      · have e1 : i = 0 := by lia
        have e2 : j = 1 := by lia
        subst e1; subst e2; exact hd
      · dsimp only
        rw [if_neg (by decide)]
        unfold kas_tail3
        rw [KasT.kasWp_bind]
        obtain ⟨P2,S2⟩ := rev_ok P g2 g3
        exact asc_ok hc hinj P2 (n - k) k s'' hs'' (by exact Nat.le_of_lt ‹_›) (by lia) S2 fun m s3 hs3 a1 a2 a3 _=>h m _ s3 hs3 (by exact Nat.le_trans (Nat.le_of_lt (by assumption)) (by assumption)) a2 P2 a3
theorem place_ok (hc:Cmp cmp I n key) {p:Array Nat} (P:Pm n p) {k:Nat} (hk:k < n) (hS:Srt key p k) {Q:Nat → Shared → Prop} : ∀ (f l r:Nat) (s:Shared),I s → r - l ≤ f → l ≤ r → r ≤ k → (∀ i,i < l → ¬ Kp' key p k < Kp' key p i) → (∀ i,r ≤ i → i < k → Kp' key p k < Kp' key p i) →
    (∀ l s',I s' → l ≤ k → (∀ i,i < l → ¬ Kp' key p k < Kp' key p i) → (∀ i,l ≤ i → i < k → Kp' key p k < Kp' key p i) → Q l s') → (kas_place p k f l r).kasWp cmp Q s := by
  intro f
  induction f with
  | zero =>
    intro l r s hs h1 h2 h3 h4 h5 h
    obtain rfl := Nat.le_antisymm h2 (Nat.sub_eq_zero_iff_le.mp (Nat.le_zero.mp h1))
    exact h l s hs h3 h4 h5
  | succ f ih =>
    intro l r s hs h1 h2 h3 h4 h5 h
    unfold kas_place
    by_cases c : l ≥ r
    · obtain rfl := Nat.le_antisymm h2 c
      rw [if_pos c]; exact h l s hs h3 h4 h5
    · rw [if_neg c]
      obtain ⟨m1,m2,m3,m4⟩ := midOk (Nat.lt_of_not_le c) h1
      generalize (l + r) / 2 = mid at *
      have hr := Nat.lt_of_lt_of_le m2 h3
      refine hc _ _ _ s (P.lt hk) (P.lt (Nat.lt_trans hr hk)) hs fun s' hs'=>?_
      by_cases d : Kp' key p k < Kp' key p mid
      · rw [show decide (key (p.getD k 0) < key (p.getD mid 0)) = true from decide_eq_true d]; simp only [if_true]
        refine ih l mid s' hs' m3 m1 (Nat.le_of_lt hr) h4 (fun i a1 a2=>?_) h
        rcases Nat.lt_or_eq_of_le a1 with e | rfl
        · exact Nat.lt_trans d (hS _ i e a2)
        · exact d
      · rw [show decide (key (p.getD k 0) < key (p.getD mid 0)) = false from decide_eq_false d]; simp only [Bool.false_eq_true,if_false]
        refine ih (mid + 1) r s' hs' m4 m2 h3 (fun i a1=>?_) h5 h
        rcases Nat.lt_succ_iff_lt_or_eq.mp a1 with e | rfl
        · exact fun hh=>d (Nat.lt_trans hh (hS i mid e hr))
        · exact d
theorem bubble_ok (hinj:∀ i j,i < n → j < n → key i = key j → i = j) {p:Array Nat} (P:Pm n p) {k l:Nat} (hk:k < n) (hl:l ≤ k) (hS:Srt key p k) (h1:∀ i,i < l → ¬ Kp' key p k < Kp' key p i) (h2:∀ i,l ≤ i → i < k → Kp' key p k < Kp' key p i) :
    Pm n (bubble p k (k - l)) ∧ Srt key (bubble p k (k - l)) (k + 1) := by
  refine ⟨P.up (bubble_perm _ _ _),fun i j hij hj=>?_⟩
  have e : ∀ i,Kp' key (bubble p k (k - l)) i = if i = l then Kp' key p k else if l < i ∧ i ≤ k then Kp' key p (i - 1) else Kp' key p i := fun i=>by
    have := getElem?_bubble (xs := p) (src := k) (by rw [P.size]; exact hk) (k - l) (by exact Nat.sub_le _ _) i
    rw [Nat.sub_sub_self hl] at this
    unfold Kp'
    rw [Array.getD_eq_getD_getElem?,this]
    by_cases c : i = l
    · rw [if_pos c,if_pos c,Array.getD_eq_getD_getElem?]
    · rw [if_neg c,if_neg c]
      by_cases d : l < i ∧ i ≤ k
      · rw [if_pos d,if_pos d,Array.getD_eq_getD_getElem?]
      · rw [if_neg d,if_neg d,Array.getD_eq_getD_getElem?]
  rw [e,e]
  have hjk := Nat.le_of_lt_succ hj
  have pj : ∀ {c:Nat},l < c → c ≤ k → l ≤ c - 1 ∧ c - 1 < k := fun u v=>⟨Nat.le_sub_one_of_lt u,Nat.lt_of_lt_of_le (Nat.sub_lt (Nat.lt_of_le_of_lt (Nat.zero_le _) u) Nat.one_pos) v⟩
  have ng : ∀ {c:Nat},c < l → ¬ (l < c ∧ c ≤ k) := fun u h=>absurd h.1 (Nat.not_lt_of_le (Nat.le_of_lt u))
  rcases Nat.lt_trichotomy i l with a | rfl | a
  · rw [if_neg (Nat.ne_of_lt a),if_neg (ng a)]
    rcases Nat.lt_trichotomy j l with b | b | b
    · rw [if_neg (Nat.ne_of_lt b),if_neg (ng b)]; exact hS i j hij (Nat.lt_of_lt_of_le b hl)
    · rw [if_pos b]; exact Nat.lt_of_le_of_ne (Nat.le_of_not_lt (h1 i a)) (Kp'.ne P hinj (Nat.lt_trans (Nat.lt_of_lt_of_le a hl) hk) hk (Nat.ne_of_lt (Nat.lt_of_lt_of_le a hl)))
    · rw [if_neg (Nat.ne_of_gt b),if_pos ⟨b,hjk⟩]
      exact hS i (j - 1) (Nat.lt_of_lt_of_le a (pj b hjk).1) (pj b hjk).2
  · rw [if_pos rfl,if_neg (Nat.ne_of_gt hij),if_pos ⟨hij,hjk⟩]; exact h2 _ (pj hij hjk).1 (pj hij hjk).2
  · have c := Nat.lt_trans a hij
    rw [if_neg (Nat.ne_of_gt a),if_pos ⟨a,Nat.le_trans (Nat.le_of_lt hij) hjk⟩,if_neg (Nat.ne_of_gt c),if_pos ⟨c,hjk⟩]
    exact hS _ _ (Nat.sub_lt_sub_right (Nat.lt_of_le_of_lt (Nat.zero_le _) a) hij) (pj c hjk).2
theorem bin_ok (hc:Cmp cmp I n key) (hinj:∀ i j,i < n → j < n → key i = key j → i = j) {Q:Array Nat → Shared → Prop} : ∀ (f:Nat) (p:Array Nat) (k:Nat) (s:Shared),I s → Pm n p → k + f = n → Srt key p k →
    (∀ q s',I s' → Pm n q → Srt key q n → Q q s') → (kas_bin f p k).kasWp cmp Q s := by
  intro f
  induction f with
  | zero=>intro p k s hs P h1 h2 h; exact h p s hs P (by rw [← show k = n by omega]; exact h2)
  | succ f ih =>
    intro p k s hs P h1 h2 h
    unfold kas_bin
    rw [KasT.kasWp_bind]
    have hkn : k < n := h1 ▸ Nat.lt_add_of_pos_right (Nat.succ_pos f)
    refine place_ok hc P hkn h2 k 0 k s hs (Nat.sub_le _ _) (Nat.zero_le _) (Nat.le_refl _) (fun i a=>absurd a (Nat.not_lt_zero _)) (fun i a b=>absurd b (Nat.not_lt_of_le a)) fun l s' hs' g1 g2 g3=>?_
    obtain ⟨P2,S2⟩ := bubble_ok hinj P hkn g1 h2 g2 g3
    exact ih _ (k + 1) s' hs' P2 (by rw [Nat.add_right_comm]; exact h1) S2 h
theorem sort_ok (hc:Cmp cmp I n key) (hinj:∀ i j,i < n → j < n → key i = key j → i = j) (hn:1 ≤ n) {Q:Array Nat → Shared → Prop} {s:Shared} (hs:I s) (h:∀ q s',I s' → Pm n q → Srt key q n → Q q s') : (kas_sort n).kasWp cmp Q s := by
  unfold kas_sort
  rw [KasT.kasWp_bind]
  refine count_ok hc hinj (p := (List.range n).toArray) ⟨by simp⟩ hn hs fun m q s' hs' h1 h2 P S=>?_
  dsimp only
  by_cases c : m < n
  · rw [if_pos c]
    exact bin_ok hc hinj (n - max m 1) q (max m 1) s' hs' P (by lia) (by rw [show max m 1 = m by lia]; exact S) h
  · rw [if_neg c]
    exact h q s' hs' P (by rw [← show m = n by exact Nat.le_antisymm h2 (Nat.le_of_not_lt c)]; exact S)
end
end
section
section
variable {A:Around} {E:Value → Shared → Prop} {s:Shared}
theorem mlt_call {x y:Addr} {p q:Int} {t u:Tok} {vs us:List Value} {Q:Value → Shared → Prop} (X:(KM w.params).In s.heap) (hx:At s.heap.get? x (MV (.int p t :: vs))) (hy:At s.heap.get? y (MV (.int q u :: us))) (hpq:p ≠ q)
    (h:Q (.bool (decide (p < q))) s) : wpAny (model prg w) A (call (.builtin "tuple.__lt__") [.ref x,.ref y]) Q E s := by
  refine callM X hx F.slot_tuple_lt (by decide +kernel) (by decide +kernel) F.entry_tuple_lt (F.args_tuple_lt_2 _ _) ?_
  have ty := MV.looks hy
  obtain ⟨ox,hox,d,hP⟩ := hx
  obtain ⟨oy,hoy,d',hP'⟩ := hy
  show wpAny _ _ (isInstance (.ref y) (.type "tuple") >>= _) _ _ s
  refine wpAny_bind ?_
  refine (ty.andThen (Looks.of_peek X (pk6))).here ?_
  simp only [Bool.not_true,Bool.false_eq_true,if_false]
  refine wpAny_bind (wpAny_tupleItemsOf hox (by rw [hP]) ?_)
  refine wpAny_bind (wpAny_tupleItemsOf hoy (by rw [hP']) ?_)
  refine wpAny_bind ?_
  show wpAny _ _ (forIn ((Value.int p t,Value.int q u) :: List.zip vs us) _ _) _ _ s
  rw [List.forIn_cons]
  refine wpAny_bind (wpAny_bind (wpAny_eqBool_int ?_))
  rw [show (p == q) = false by simp [hpq]]
  simp only [Bool.not_false,if_true]
  refine wpAny_bind (wpAny_rule ?_)
  refine wpAny_bind (show wpAny _ _ (compareOp .Lt (.int p t) (.int q u)) _ _ s from wpAny_lt_int ?_)
  exact wpAny_bind (wpAny_pure (wpAny_pure (wpAny_pure (wpAny_pure h))))
theorem mlt_any {x y:Addr} {b:Bool} {Q:Bool → Shared → Prop} {vs:List Value} (hu:A.units < cLine) (X:(KM w.params).In s.heap) (hx:At s.heap.get? x (MV vs)) (hc:wpAny (model prg w) A (call (.builtin "tuple.__lt__") [.ref x,.ref y]) (fun v s'=>v = .bool b ∧ s' = s) (fun _ _=>False) s)
    (h:Q b s) : wpAny (model prg w) A (keyLt' oneType' (.ref x) (.ref y)) Q E s := by
  rw [keyLt'_oneType,oneLt'_eq]
  simp only [if_true]
  refine wpAny_bind (wpAny_cRoomFor hu ?_)
  refine wpAny_bind ?_
  have hsp : Looks (model prg w) s.heap (specialOf (.ref x) (Str.ofString "__lt__")) (some (.builtin "tuple.__lt__")) := (MV.looks hx).andThen (Looks.of_peek X (pk21))
  simp only [callSpecialIfBound?,bindSpecialIfBound?]
  refine wpAny_holding (wpAny_bind (wpAny_bind (hsp.here ?_)))
  simp only [F.slot_tuple_lt.bind]
  refine wpAny_bind (wpAny_askSetting (wpAny_ite ?_))
  have fin : wpAny (model prg w) A (call (.builtin "tuple.__lt__") [.ref x,.ref y] >>= fun v=>pure (some v)) (fun r s'=>r = some (.bool b) ∧ s' = s) (fun _ _=>False) s :=
    wpAny_bind (wpAny_mono hc (fun v s' e=>by obtain ⟨rfl,rfl⟩ := e; exact wpAny_pure ⟨rfl,rfl⟩) fun _ _ f=>f)
  have fin' := wpAny_mono fin (Q' := fun r s'=>wpAny (model prg w) A (match r with
      | some Value.notImplemented=>do
        rule "list.sort.lt-declined"
        let __do_lift ← richCompare CmpOp.Lt (Value.ref x) (Value.ref y)
        truthOfDropped __do_lift
      | none=>do
        rule "list.sort.lt-declined"
        let __do_lift ← richCompare CmpOp.Lt (Value.ref x) (Value.ref y)
        truthOfDropped __do_lift
      | some __do_lift=>truthOfDropped __do_lift) Q E s') (E' := E) (fun r s' e=>by
    obtain ⟨rfl,rfl⟩ := e
    exact wpAny_truthy_bool h) (fun _ _ f=>f.elim)
  split
  · exact wpAny_bind (wpAny_pure (wpAny_pure fin'))
  · exact wpAny_tryCatch (wpAny_bind (wpAny_pure (wpAny_pure fin')))
theorem mlt_key {x y:Addr} {p q:Int} {t u:Tok} {vs us:List Value} {Q:Bool → Shared → Prop} (hu:A.units < cLine) (X:(KM w.params).In s.heap) (hx:At s.heap.get? x (MV (.int p t :: vs))) (hy:At s.heap.get? y (MV (.int q u :: us))) (hpq:p ≠ q)
    (h:Q (decide (p < q)) s) : wpAny (model prg w) A (keyLt' oneType' (.ref x) (.ref y)) Q E s := by
  exact mlt_any hu X hx (mlt_call X hx hy hpq ⟨rfl,rfl⟩) h
theorem mlt_self {x:Addr} {p q r:Int} {t u v:Tok} {Q:Bool → Shared → Prop} (hu:A.units < cLine) (X:(KM w.params).In s.heap) (hx:At s.heap.get? x (MV [.int p t,.int q u,.int r v]))
    (h:Q false s) : wpAny (model prg w) A (keyLt' oneType' (.ref x) (.ref x)) Q E s := by
  refine mlt_any hu X hx (callM X hx F.slot_tuple_lt (by decide +kernel) (by decide +kernel) F.entry_tuple_lt (F.args_tuple_lt_2 _ _) ?_) h
  have ty := MV.looks hx
  obtain ⟨ox,hox,d,hP⟩ := hx
  show wpAny _ _ (isInstance (.ref x) (.type "tuple") >>= _) _ _ s
  refine wpAny_bind ?_
  refine (ty.andThen (Looks.of_peek X (pk6))).here ?_
  simp only [Bool.not_true,Bool.false_eq_true,if_false]
  refine wpAny_bind (wpAny_tupleItemsOf hox (by rw [hP]) ?_)
  refine wpAny_bind (wpAny_tupleItemsOf hox (by rw [hP]) ?_)
  refine wpAny_bind ?_
  show wpAny _ _ (forIn [(Value.int p t,Value.int p t),(Value.int q u,Value.int q u),(Value.int r v,Value.int r v)] _ _) _ _ s
  rw [List.forIn_cons]
  refine wpAny_bind (wpAny_bind (wpAny_eqBool_int ?_))
  simp only [beq_self_eq_true,Bool.not_true,Bool.false_eq_true,if_false]
  refine wpAny_pure ?_
  dsimp only
  rw [List.forIn_cons]
  refine wpAny_bind (wpAny_bind (wpAny_eqBool_int ?_))
  simp only [beq_self_eq_true,Bool.not_true,Bool.false_eq_true,if_false]
  refine wpAny_pure ?_
  dsimp only
  rw [List.forIn_cons]
  refine wpAny_bind (wpAny_bind (wpAny_eqBool_int ?_))
  simp only [beq_self_eq_true,Bool.not_true,Bool.false_eq_true,if_false]
  refine wpAny_pure ?_
  dsimp only
  rw [List.forIn_nil]
  refine wpAny_pure ?_
  dsimp only
  exact wpAny_pure ⟨rfl,rfl⟩
end
section
variable {A:Around} {E:Value → Shared → Prop} {s:Shared}
theorem getD_range (vs:List Value) : ((List.range vs.length).map fun i=>vs.getD i Value.none) = vs := by
  refine List.ext_getElem (by simp) fun i h1 h2=>?_
  simp [h2]
theorem sort_m {a:Addr} {vs:List Value} {key:Nat → Nat} {P:PySem.Fin → Shared → Prop} (hu:A.units < cLine) (X1:∀ h',Heap.ExtBut a s.heap h' → (KM w.params).In h') (hl:At s.heap.get? a (LO vs)) (h64:vs.length < 64)
    (hv:∀ i,i < vs.length → ∃ x t q u r v,x ≠ a ∧ vs.getD i .none = .ref x ∧ At s.heap.get? x (MV [.int (key i:Nat) t,.int q u,.int r v]))
    (hinj:∀ i j,i < vs.length → j < vs.length → key i = key j → i = j)
    (h:∀ h' p,Pm vs.length p → Srt key p vs.length → Heap.ExtBut a s.heap h' → At h'.get? a (LO (p.toList.map fun i=>vs.getD i .none)) → P (.done (.ret .none)) { s with heap := h' }) :
    wpAny (model prg w) A (Builtin.«list.sort» ⟨[.ref a],[]⟩) P E s := by
  obtain ⟨o,ho,n,rfl⟩ := hl
  have ha : a < s.heap.objs.size := Heap.lt_size ho
  obtain ⟨e1,ho1⟩ : ∃ e1,(s.heap.update a (Obj.mapSeq fun _=>(#[] : Array Value))).get? a = some (seqObj "list" #[] e1) := ⟨_,get?_update_seq ho fun _=>#[]⟩
  have hne : ∀ b,b < s.heap.objs.size → b ≠ a → ∀ o,s.heap.get? b = some o → (((s.heap.update a (Obj.mapSeq fun _=>(#[] : Array Value))).push (seqObj "tuple" vs.toArray 0)).push (seqObj "list" #[] 0)).get? b = some o := fun b hb hba o e=>by
    refine Heap.get?_push_of_some _ (Heap.get?_push_of_some _ ?_)
    rw [Heap.get?_update_ne _ _ _ _ hba]; exact e
  have ho6 : (((s.heap.update a (Obj.mapSeq fun _=>(#[] : Array Value))).push (seqObj "tuple" vs.toArray 0)).push (seqObj "list" #[] 0)).get? a = some (seqObj "list" #[] e1) := Heap.get?_push_of_some _ (Heap.get?_push_of_some _ ho1)
  have ext3 : Heap.ExtBut a s.heap (((s.heap.update a (Obj.mapSeq fun _=>(#[] : Array Value))).push (seqObj "tuple" vs.toArray 0)).push (seqObj "list" #[] 0)) := fun b o hba e=>hne b (Heap.lt_size e) hba o e
  have X3 := X1 _ ext3
  have hv3 : ∀ i,i < vs.length → ∃ x t q u r v,vs.getD i .none = .ref x ∧ At (((s.heap.update a (Obj.mapSeq fun _=>(#[] : Array Value))).push (seqObj "tuple" vs.toArray 0)).push (seqObj "list" #[] 0)).get? x (MV [.int (key i:Nat) t,.int q u,.int r v]) := fun i hi=>by
    obtain ⟨x,t,q,u,r,v,h1,h2,o,h3,h4⟩ := hv i hi
    exact ⟨x,t,q,u,r,v,h2,o,ext3 x o h1 h3,h4⟩
  generalize eh3 : ((s.heap.update a (Obj.mapSeq fun _=>(#[] : Array Value))).push (seqObj "tuple" vs.toArray 0)).push (seqObj "list" #[] 0) = h3 at *
  rw [list_sort_plain]
  refine wpAny_bind (listItems_at ho rfl ?_)
  refine wpAny_bind (listUpdate_at ho rfl ?_ (by rw [List.size_toArray,sizeLine_eq]; lia) (Nat.zero_le _))
  refine wpAny_bind (seqEpoch_at ho1 rfl ?_)
  refine wpAny_bind (wpAny_newTuple ?_ (by show vs.length ≤ _; rw [sizeLine_eq]; lia))
  refine wpAny_bind (wpAny_newList ?_ (Nat.zero_le _))
  refine wpAny_holding ?_
  show wpAny (model prg w) A _ P E { s with heap := ((s.heap.update a (Obj.mapSeq fun _=>(#[] : Array Value))).push (seqObj "tuple" vs.toArray 0)).push (seqObj "list" #[] 0) }
  rw [eh3]
  dsimp only
  have fin : ∀ (p:Array Nat),p.toList.length = vs.length → ∀ c,Heap.ExtBut a s.heap (h3.update a (Obj.mapSeq fun _=>List.toArray (p.toList.map fun i=>vs.getD i Value.none))) ∧ ((h3.update a (Obj.mapSeq fun _=>List.toArray (p.toList.map fun i=>vs.getD i Value.none))).get? a = some (seqObj "list" (List.toArray (p.toList.map fun i=>vs.getD i Value.none)) c) → At (h3.update a (Obj.mapSeq fun _=>List.toArray (p.toList.map fun i=>vs.getD i Value.none))).get? a (LO (p.toList.map fun i=>vs.getD i Value.none))) := fun p _ c =>
    ⟨fun b o hba e=>by rw [Heap.get?_update_ne _ _ _ _ hba]; exact ext3 b o hba e,fun e=>⟨_,e,c,rfl⟩⟩
  by_cases h2 : vs.toArray.size < 2
  · have h2' : vs.length < 2 := by simpa using h2
    rw [if_pos h2,if_pos h2]
    refine wpAny_bind (wpAny_pure ?_)
    rw [StateT.run_pure]
    refine wpAny_bind (wpAny_pure ?_)
    dsimp only
    refine wpAny_bind (seqEpoch_at ho6 rfl ?_)
    have hout : (arrOf (SortSt.mk' general' (vs.toArray.zip vs.toArray) #[] 7 none)).map (·.2) = List.toArray ((List.toArray (List.range vs.length)).toList.map fun i=>vs.getD i Value.none) := by
      show (vs.toArray.zip vs.toArray).map (·.2) = _
      rw [getD_range]
      apply Array.toList_inj.mp
      rw [Array.toList_map,Array.toList_zip]
      exact List.map_snd_zip (Nat.le_refl _)
    rw [hout]
    refine wpAny_bind (listUpdate_at ho6 rfl ?_ (Nat.zero_le _) (by rw [List.size_toArray,List.length_map]; simp; rw [sizeLine_eq]; lia))
    simp only [bne_self_eq_false,Bool.false_eq_true,if_false]
    refine wpAny_pure ?_
    obtain ⟨c2,hc2⟩ : ∃ c2,(h3.update a (Obj.mapSeq fun _=>List.toArray ((List.toArray (List.range vs.length)).toList.map fun i=>vs.getD i Value.none))).get? a = some (seqObj "list" (List.toArray ((List.toArray (List.range vs.length)).toList.map fun i=>vs.getD i Value.none)) c2) := ⟨_,get?_update_seq ho6 fun _=>_⟩
    have q := fin (List.toArray (List.range vs.length)) (by simp) c2
    exact h _ (List.toArray (List.range vs.length)) ⟨.refl _⟩ (fun i j hij hj=>by lia) q.1 (q.2 hc2)
  · have h2' : 2 ≤ vs.length := by simp at h2; lia
    rw [if_neg h2,if_neg h2]
    have hT : ∀ v ∈ vs,Looks (model prg w) h3 (typeOf v) (.ref 135) := fun v hvm=>by
      obtain ⟨i,hi,rfl⟩ := List.getElem_of_mem hvm
      obtain ⟨x,t,q,u,r,v,e,hx⟩ := hv3 i hi
      have : vs[i] = .ref x := by rw [← e]; simp [hi]
      rw [this]
      exact MV.looks hx
    refine wpAny_bind (kas_kind h2' hT rfl rfl ?_)
    have est : SortSt.mk' oneType' (vs.toArray.zip vs.toArray) #[] 7 none = kas_st oneType' (pairsOf vs) (List.toArray (List.range vs.length)) := by
      have e := kas_range (pairsOf vs)
      rw [pairsOf_size] at e
      show SortSt.mk' oneType' (pairsOf vs) #[] 7 none = SortSt.mk' oneType' ((List.toArray (List.range vs.length)).map (kas_item (pairsOf vs))) #[] 7 none
      rw [e]
    have hc : Cmp (kas_cmp prg w A oneType' (pairsOf vs)) (fun s'=>s' = { s with heap := h3 }) vs.length key := by
      intro i j C s' hi hj hs hC
      subst hs
      unfold kas_cmp
      rw [kas_item_eq,kas_item_eq]
      obtain ⟨x,t,q,u,r,v,e,hx⟩ := hv3 i hi
      obtain ⟨y,t',q',u',r',v',e',hy⟩ := hv3 j hj
      dsimp only
      rw [e,e']
      by_cases hk : key i = key j
      · obtain rfl := hinj i j hi hj hk
        obtain rfl : x = y := by rw [e] at e'; exact (Value.ref.inj e')
        refine mlt_self hu X3 hx ?_
        rw [show false = decide (key i < key i) by simp]
        exact hC _ rfl
      · refine mlt_key hu X3 hx hy (by lia) ?_
        rw [show (decide (((key i:Nat) : Int) < (key j:Nat))) = decide (key i < key j) by simp]
        exact hC _ rfl
    have ask := sort_ok hc hinj (by lia) (Q := fun p s'=>s' = { s with heap := h3 } ∧ Pm vs.length p ∧ Srt key p vs.length) rfl (fun q s' hs' hp hS=>⟨hs',hp,hS⟩)
    have run := kas_runs (E := E) (Q := fun _ st' s'=>∃ p : Array Nat,p.size = vs.length ∧ arrOf st' = p.map (kas_item (pairsOf vs)) ∧ failedOf st' = none ∧ s' = { s with heap := h3 } ∧ Pm vs.length p ∧ Srt key p vs.length)
      h2' h64 (fun p' st' s' a1 a2 a3 a4=>⟨p',a1,a2,a3,a4⟩) ask
    rw [← est] at run
    refine wpAny_bind (wpAny_mono run ?_ fun _ _ e=>e)
    rintro ⟨⟨⟩,st'⟩ s' ⟨p,hp,har,hf,rfl,hP,hS⟩
    dsimp only
    have hout : (arrOf st').map (·.2) = List.toArray (p.toList.map fun i=>vs.getD i Value.none) := by
      apply Array.toList_inj.mp
      rw [har,Array.map_map,Array.toList_map]
      exact List.map_congr_left fun i _=>by show (kas_item (pairsOf vs) i).2 = _; rw [kas_item_eq]
    have hsz : (List.toArray (p.toList.map fun i=>vs.getD i Value.none)).size = vs.length := by rw [List.size_toArray,List.length_map,Array.length_toList,hp]
    rw [hout]
    refine wpAny_bind (seqEpoch_at ho6 rfl ?_)
    refine wpAny_bind (listUpdate_at ho6 rfl ?_ (Nat.zero_le _) (Nat.le_trans (Nat.le_of_eq hsz) (by rw [sizeLine_eq]; lia)))
    rw [hf]
    simp only [bne_self_eq_false,Bool.false_eq_true,if_false]
    refine wpAny_pure ?_
    obtain ⟨c2,hc2⟩ : ∃ c2,(h3.update a (Obj.mapSeq fun _=>List.toArray (p.toList.map fun i=>vs.getD i Value.none))).get? a = some (seqObj "list" (List.toArray (p.toList.map fun i=>vs.getD i Value.none)) c2) := ⟨_,get?_update_seq ho6 fun _=>_⟩
    have q := fin p (by rw [Array.length_toList,hp]) c2
    exact h _ p hP hS q.1 (q.2 hc2)
end
end
section
inductive Tups {α:Type} (n:Nat) (P:α → OP) (G:Pt) : List Value → List α → Prop
  | nil : Tups n P G [] []
  | cons {t:Addr} {x:α} {vs:List Value} {xs:List α} : n ≤ t → At G t (P x) → Tups n P G vs xs → Tups n P G (.ref t :: vs) (x :: xs)
section
variable {α:Type} {n k:Nat} {P:α → OP} {G G':Pt} {vs us:List Value} {xs ys:List α}
theorem Tups.up (p:Tups n P G vs xs) (s:Sub G G') (hk:k ≤ n) : Tups k P G' vs xs := by
  induction p with
  | nil=>exact .nil
  | cons ha hx _ ih=>exact .cons (Nat.le_trans hk ha) (hx.up s) ih
theorem Tups.above {N:Pt} {h:Heap} (p:Tups n P h.get? vs xs) (hk:k ≤ n) : Tups k P (above k N h) vs xs := by
  induction p with
  | nil=>exact .nil
  | cons ha hx _ ih=>exact .cons (Nat.le_trans hk ha) (above_at (Nat.le_trans hk ha) hx) ih
theorem Tups.append (p:Tups n P G vs xs) (q:Tups n P G us ys) : Tups n P G (vs ++ us) (xs ++ ys) := by
  induction p with
  | nil=>exact q
  | cons ha hx _ ih=>exact .cons ha hx ih
theorem Tups.snoc {t:Addr} {x:α} (p:Tups n P G vs xs) (ha:n ≤ t) (hx:At G t (P x)) : Tups n P G (vs ++ [.ref t]) (xs ++ [x]) := p.append (.cons ha hx .nil)
theorem Tups.length (p:Tups n P G vs xs) : vs.length = xs.length := by
  induction p with
  | nil=>rfl
  | cons _ _ _ ih=>simp [ih]
theorem Tups.get (p:Tups n P G vs xs) {i:Nat} {x:α} (h:xs[i]? = some x) : ∃ t,vs[i]? = some (.ref t) ∧ n ≤ t ∧ At G t (P x) := by
  induction p generalizing i with
  | nil=>simp at h
  | cons ha hx _ ih =>
    cases i with
    | zero=>simp at h; subst h; exact ⟨_,rfl,ha,hx⟩
    | succ i=>exact ih (by simpa using h)
theorem Tups.unsnoc {x:α} (p:Tups n P G vs (xs ++ [x])) : ∃ us t,vs = us ++ [.ref t] ∧ n ≤ t ∧ At G t (P x) ∧ Tups n P G us xs := by
  induction xs generalizing vs with
  | nil =>
    cases p with
    | cons ha hx r=>cases r; exact ⟨[],_,rfl,ha,hx,.nil⟩
  | cons y xs ih =>
    cases p with
    | cons ha hx r =>
      obtain ⟨us,t,rfl,h1,h2,h3⟩ := ih r
      exact ⟨.ref _ :: us,t,rfl,h1,h2,.cons ha hx h3⟩
end
abbrev Win := Nat × Nat × Nat × Nat
noncomputable def WO (q:Win) : OP := fun o=>∃ t0 t1 t2 t3,TO [.int (q.1 : Nat) t0,.int (q.2.1 : Nat) t1,.int (q.2.2.1 : Nat) t2,.int (q.2.2.2 : Nat) t3] o
noncomputable def MO (b:Nat × Nat × Nat) : OP := fun o=>∃ t0 t1 t2,MV [.int (b.1 : Nat) t0,.int (b.2.1 : Nat) t1,.int (b.2.2 : Nat) t2] o
noncomputable def BO (b:Nat × Nat × Nat) : OP := fun o=>∃ t0 t1 t2,TO [.int (b.1 : Nat) t0,.int (b.2.1 : Nat) t1,.int (b.2.2 : Nat) t2] o
section
variable {A:Around} {K N:Pt} {n₀:Nat} {env:Env} {m m':List (Str × Option Value)} {M M':List (Addr × OP)} {h h':Heap}
theorem O_pop {l:Addr} {vs:List Value} {x:Value} {Q:Value → Heap → Prop} (S:St K n₀ env m N M h) (hm:(l,LO (vs ++ [x])) ∈ M) (hz:vs.length + 1 ≤ sizeLine) (u:Upd l (LO vs) M M') (q:∀ h',St K n₀ env m N M' h' → Q x h') : WP A (call (.builtin "list.pop") [.ref l]) Q h :=
  WP_lib fun s e=>by
    subst e
    obtain ⟨o,ho,n,rfl⟩ := S.mm hm
    have hs : (vs ++ [x]).toArray.size - 1 = vs.length := by simp
    refine call_meets F.slot_list_pop ⟨_,ho,rfl⟩ F.entry_list_pop (F.args_list_pop_1 _) (MeetsSeq.list_pop_last l (vs ++ [x]).toArray n x (by rw [hs]; simp) (by simpa using hz)) ⟨ho,_,_,rfl,q _ (S.upd u (Heap.SameBut.update ..).extBut ?_)⟩
    refine ⟨_,get?_update_seq ho fun xs=>xs.eraseIdxIfInBounds ((vs ++ [x]).toArray.size - 1),if (((vs ++ [x]).toArray.eraseIdxIfInBounds ((vs ++ [x]).toArray.size - 1))).size == (vs ++ [x]).toArray.size then n else n + 1,?_⟩
    have e2 : (vs ++ [x]).toArray.eraseIdxIfInBounds ((vs ++ [x]).toArray.size - 1) = vs.toArray := by
      rw [hs]
      apply Array.toList_inj.mp
      simp only [Array.eraseIdxIfInBounds,List.size_toArray,List.length_append,List.length_cons,List.length_nil,Nat.zero_add,Nat.lt_succ_self,dite_true,List.eraseIdx_toArray]
      rw [List.eraseIdx_append_of_length_le (Nat.le_refl _)]
      simp
    rw [e2]
theorem Tups.pick {α:Type} {k:Nat} {P:α → OP} {G:Pt} {vs:List Value} {bs:List α} {d:α} (ht:Tups k P G vs bs) : ∀ (is:List Nat),(∀ i ∈ is,i < bs.length) → Tups k P G (is.map fun i=>vs.getD i .none) (is.map fun i=>bs.getD i d) := by
  intro is
  induction is with
  | nil=>intro _; exact .nil
  | cons i is ih =>
    intro h
    have hi := h i List.mem_cons_self
    obtain ⟨t,h1,h2,h3⟩ := ht.get (i := i) (x := bs.getD i d) (by rw [List.getD_eq_getElem?_getD,List.getElem?_eq_getElem hi]; rfl)
    rw [List.map_cons,List.map_cons,show vs.getD i .none = .ref t by rw [List.getD_eq_getElem?_getD,h1]; rfl]
    exact .cons h2 h3 (ih fun j hj=>h j (List.mem_cons_of_mem _ hj))
theorem O_sort {l:Addr} {vs:List Value} {bs:List (Nat × Nat × Nat)} {k:Nat} {Q:Value → Heap → Prop} {M':List Value → List (Addr × OP)} (S:St K n₀ env m N M h) (Z:Stat K) (R:Rm A 1) (hm:(l,LO vs) ∈ M) (ht:Tups k MO N vs bs) (hz:bs.length < 64) (hd:(bs.map (·.1)).Nodup)
    (u:∀ vs',Upd l (LO vs') M (M' vs'))
    (q:∀ h' vs' bs',bs'.Perm bs → bs'.Pairwise (fun a b=>a.1 < b.1) → Tups k MO N vs' bs' → St K n₀ env m N (M' vs') h' → Q .none h') : WP A (call (.builtin "list.sort") [.ref l]) Q h :=
  WP_lib fun s e=>by
    subst e
    have hL : vs.length = bs.length := ht.length
    have hK : K l = none := S.offMK _ hm
    have hN : N l = none := S.offMN _ hm
    refine wpAny_call_entry slot_list_sort (let ⟨o,ho,n,e⟩ := S.mm hm; ⟨_,ho,by rw [e]⟩) entry_list_sort ?_ (args_list_sort _)
    refine sort_m (key := fun i=>(bs.getD i (0,0,0)).1) (by have := R.in1.line; lia) ?_ (S.mm hm) (by lia) ?_ ?_ ?_
    · intro h' e
      refine (Z.up (K' := h'.get?) fun b o hb=>?_).inn
      exact e b o (by rintro rfl; rw [hK] at hb; cases hb) (S.keep b o hb)
    · intro i hi
      obtain ⟨t,h1,h2,h3⟩ := ht.get (i := i) (x := bs.getD i (0,0,0)) (by rw [List.getD_eq_getElem?_getD,List.getElem?_eq_getElem (by lia)]; rfl)
      obtain ⟨o,ho,t0,t1,t2,hP⟩ := S.nn h3
      refine ⟨t,t0,_,t1,_,t2,?_,?_,o,ho,hP⟩
      · rintro rfl
        obtain ⟨o',ho',_⟩ := h3
        rw [hN] at ho'; cases ho'
      · rw [List.getD_eq_getElem?_getD,h1]; rfl
    · intro i j hi hj e
      rw [hL] at hi hj
      have e' : (bs.map (·.1))[i]'(by simpa using hi) = (bs.map (·.1))[j]'(by simpa using hj) := by
        rw [List.getElem_map,List.getElem_map]
        simpa [hi,hj] using e
      exact (List.getElem_inj hd).mp e'
    · intro h' p hP hS hE hl
      refine ⟨.none,rfl,h',_,rfl,q h' _ (p.toList.map fun i=>bs.getD i (0,0,0)) ?_ ?_ (ht.pick p.toList fun i hi=>?_) (S.upd (u _) hE hl)⟩
      · have e1 : (List.range vs.length).map (fun i=>bs.getD i (0,0,0)) = bs := by
          rw [hL]
          refine List.ext_getElem (by simp) fun i h1 h2=>?_
          simp [h2]
        have := hP.perm.map fun i=>bs.getD i (0,0,0)
        rw [e1] at this
        exact this
      · rw [List.pairwise_iff_getElem]
        intro i j hi hj hij
        have hz := hP.size
        simp only [List.length_map,Array.length_toList] at hi hj
        have := hS i j hij (by lia)
        unfold Kp' at this
        simpa [Array.getD,hi,hj] using this
      · have := hP.perm.subset hi
        rw [List.mem_range] at this
        lia
theorem O_truthy_int {n:Int} {t:Tok} {Q:Bool → Heap → Prop} (q:Q (n != 0) h) : WP A (truthy (.int n t)) Q h := WP_lib fun s e=>by subst e; exact PyProof.Rows.truthy_int ⟨_,_,rfl,q⟩
end
end
section
noncomputable def winB (X Y:List Int) (q:Nat × Nat × Nat × Nat) : List Blk := blks X Y q.1 q.2.1 q.2.2.1 q.2.2.2
noncomputable def okW (X Y:List Int) (q:Nat × Nat × Nat × Nat) : Prop := q.1 ≤ q.2.1 ∧ q.2.1 ≤ X.length ∧ q.2.2.1 ≤ q.2.2.2 ∧ q.2.2.2 ≤ Y.length
noncomputable def wgt (q:Nat × Nat × Nat × Nat) : Nat := 2 * (q.2.1 - q.1) + 1
noncomputable def wgts (qs:List (Nat × Nat × Nat × Nat)) : Nat := (qs.map wgt).sum
structure QInv (X Y:List Int) (qs:List (Nat × Nat × Nat × Nat)) (bs:List Blk) : Prop where
  ok : ∀ q ∈ qs,okW X Y q
  perm : (bs ++ qs.flatMap (winB X Y)).Perm (blks X Y 0 X.length 0 Y.length)
theorem wgts_snoc {qs:List (Nat × Nat × Nat × Nat)} {q} : wgts (qs ++ [q]) = wgts qs + wgt q := by unfold wgts; simp
theorem QInv.none {X Y:List Int} {qs:List (Nat × Nat × Nat × Nat)} {bs:List Blk} {i1 i2 j1 j2:Nat} (I:QInv X Y (qs ++ [(i1,i2,j1,j2)]) bs) (h:(blockF X Y i1 i2 j1 j2).2.2 = 0) : QInv X Y qs bs := by
  have o := I.ok (i1,i2,j1,j2) (by simp)
  refine ⟨fun q hq=>I.ok q (by simp [hq]),?_⟩
  have e : winB X Y (i1,i2,j1,j2) = [] := by
    show blks X Y i1 i2 j1 j2 = []
    rw [blks_eq o.1 o.2.1 o.2.2.1 o.2.2.2]
    rw [if_pos h,ite_self]
  have p := I.perm
  rw [List.flatMap_append,List.flatMap_singleton,e,List.append_nil] at p
  exact p
noncomputable def wA (X Y:List Int) (i1 i2 j1 j2:Nat) : List (Nat × Nat × Nat × Nat) := if i1 < (blockF X Y i1 i2 j1 j2).1 ∧ j1 < (blockF X Y i1 i2 j1 j2).2.1 then [(i1,(blockF X Y i1 i2 j1 j2).1,j1,(blockF X Y i1 i2 j1 j2).2.1)] else []
noncomputable def wB (X Y:List Int) (i1 i2 j1 j2:Nat) : List (Nat × Nat × Nat × Nat) := if (blockF X Y i1 i2 j1 j2).1 + (blockF X Y i1 i2 j1 j2).2.2 < i2 ∧ (blockF X Y i1 i2 j1 j2).2.1 + (blockF X Y i1 i2 j1 j2).2.2 < j2 then [((blockF X Y i1 i2 j1 j2).1 + (blockF X Y i1 i2 j1 j2).2.2,i2,(blockF X Y i1 i2 j1 j2).2.1 + (blockF X Y i1 i2 j1 j2).2.2,j2)] else []
theorem wSum {q A B i p k z:Nat} (a1:A ≤ 2 * (p - i) + 1) (a2:B ≤ 2 * (z - (p + k)) + 1) (b1:i ≤ p) (b2:p + k ≤ z) (hk:0 < k) : q + A + B < q + (2 * (z - i) + 1) := by omega
theorem QInv.some {X Y:List Int} {qs:List (Nat × Nat × Nat × Nat)} {bs:List Blk} {i1 i2 j1 j2:Nat} (I:QInv X Y (qs ++ [(i1,i2,j1,j2)]) bs) (h:(blockF X Y i1 i2 j1 j2).2.2 ≠ 0) :
    QInv X Y (qs ++ wA X Y i1 i2 j1 j2 ++ wB X Y i1 i2 j1 j2) (bs ++ [blockF X Y i1 i2 j1 j2]) ∧ wgts (qs ++ wA X Y i1 i2 j1 j2 ++ wB X Y i1 i2 j1 j2) < wgts (qs ++ [(i1,i2,j1,j2)]) := by
  have o := I.ok (i1,i2,j1,j2) (by simp)
  obtain ⟨o1,o2,o3,o4⟩ : i1 ≤ i2 ∧ i2 ≤ X.length ∧ j1 ≤ j2 ∧ j2 ≤ Y.length := o
  obtain ⟨b1,b2,b3,b4⟩ := blockF_in (X := X) (Y := Y) o1 o2 o3 o4
  have BX := Nat.le_trans (Nat.le_trans (Nat.le_add_right _ _) b2) o2
  have BY := Nat.le_trans (Nat.le_trans (Nat.le_add_right _ _) b4) o4
  have p := Nat.pos_of_ne_zero h
  have q1 := Nat.lt_of_le_of_lt b1 (Nat.lt_of_lt_of_le (Nat.lt_add_of_pos_right p) b2)
  have q2 := Nat.lt_of_le_of_lt b3 (Nat.lt_of_lt_of_le (Nat.lt_add_of_pos_right p) b4)
  have ew : winB X Y (i1,i2,j1,j2) = blks X Y i1 (blockF X Y i1 i2 j1 j2).1 j1 (blockF X Y i1 i2 j1 j2).2.1 ++ [blockF X Y i1 i2 j1 j2] ++
          blks X Y ((blockF X Y i1 i2 j1 j2).1 + (blockF X Y i1 i2 j1 j2).2.2) i2 ((blockF X Y i1 i2 j1 j2).2.1 + (blockF X Y i1 i2 j1 j2).2.2) j2 := by
    show blks X Y i1 i2 j1 j2 = _
    rw [blks_eq o1 o2 o3 o4,if_neg (fun e=>e.elim (Nat.ne_of_lt q1) (Nat.ne_of_lt q2)),if_neg h]
  have eA : (wA X Y i1 i2 j1 j2).flatMap (winB X Y) = blks X Y i1 (blockF X Y i1 i2 j1 j2).1 j1 (blockF X Y i1 i2 j1 j2).2.1 := by
    unfold wA
    split
    · simp [winB]
    · rw [blks_nil b1 BX b3 BY (by assumption)]; rfl
  have eB : (wB X Y i1 i2 j1 j2).flatMap (winB X Y) = blks X Y ((blockF X Y i1 i2 j1 j2).1 + (blockF X Y i1 i2 j1 j2).2.2) i2 ((blockF X Y i1 i2 j1 j2).2.1 + (blockF X Y i1 i2 j1 j2).2.2) j2 := by
    unfold wB
    split
    · simp [winB]
    · rw [blks_nil b2 o2 b4 o4 (by assumption)]; rfl
  refine ⟨⟨fun q hq=>?_,?_⟩,?_⟩
  · rw [List.mem_append,List.mem_append] at hq
    rcases hq with (hq | hq) | hq
    · exact I.ok q (by simp [hq])
    · unfold wA at hq
      split at hq
      · rw [List.mem_singleton] at hq; subst hq
        exact ⟨b1,BX,b3,BY⟩
      · cases hq
    · unfold wB at hq
      split at hq
      · rw [List.mem_singleton] at hq; subst hq
        exact ⟨b2,o2,b4,o4⟩
      · cases hq
  · refine List.Perm.trans ?_ I.perm
    rw [List.flatMap_append,List.flatMap_append,eA,eB,List.flatMap_append,List.flatMap_singleton,ew]
    generalize blks X Y i1 (blockF X Y i1 i2 j1 j2).1 j1 (blockF X Y i1 i2 j1 j2).2.1 = a
    generalize blks X Y ((blockF X Y i1 i2 j1 j2).1 + (blockF X Y i1 i2 j1 j2).2.2) i2 ((blockF X Y i1 i2 j1 j2).2.1 + (blockF X Y i1 i2 j1 j2).2.2) j2 = b
    generalize List.flatMap (winB X Y) qs = c
    generalize blockF X Y i1 i2 j1 j2 = x
    simp only [List.append_assoc]
    refine List.Perm.append_left bs ?_
    show ([x] ++ (c ++ (a ++ b))).Perm (c ++ (a ++ ([x] ++ b)))
    refine (List.perm_append_comm_assoc [x] c _).trans (List.Perm.append_left c ?_)
    exact List.perm_append_comm_assoc [x] a b
  · have a1 : wgts (wA X Y i1 i2 j1 j2) ≤ 2 * ((blockF X Y i1 i2 j1 j2).1 - i1) + 1 := by
      unfold wA; split <;> simp [wgts,wgt]
    have a2 : wgts (wB X Y i1 i2 j1 j2) ≤ 2 * (i2 - ((blockF X Y i1 i2 j1 j2).1 + (blockF X Y i1 i2 j1 j2).2.2)) + 1 := by
      unfold wB; split <;> simp [wgts,wgt]
    have e1 : ∀ a b : List (Nat × Nat × Nat × Nat),wgts (a ++ b) = wgts a + wgts b := fun a b=>by unfold wgts; simp
    rw [e1,e1,e1]
    have e2 : wgts [(i1,i2,j1,j2)] = 2 * (i2 - i1) + 1 := by simp [wgts,wgt]
    rw [e2]
    exact wSum a1 a2 b1 b2 p
theorem Inc.rise {X Y:List Int} {hi hj:Nat} : ∀ {l:List Blk} {i j:Nat},Inc X Y hi hj i j l → (∀ b ∈ l,i ≤ b.1) ∧ l.Pairwise (fun a b=>a.1 < b.1) := by
  intro l
  induction l with
  | nil=>intro i j h; exact ⟨fun b hb=>(nomatch hb),List.Pairwise.nil⟩
  | cons x l ih =>
    intro i j h
    unfold Inc at h
    obtain ⟨r1,r2⟩ := ih h.2.2.2.2
    refine ⟨fun b hb=>?_,List.pairwise_cons.mpr ⟨fun b hb=>?_,r2⟩⟩
    · rcases List.mem_cons.mp hb with rfl | hb
      · exact h.1
      · have := r1 b hb; exact Nat.le_trans h.1 (Nat.le_trans (Nat.le_add_right _ _) this)
    · have := r1 b hb; lia
theorem blks_whole {X Y:List Int} : Inc X Y X.length Y.length 0 0 (blks X Y 0 X.length 0 Y.length) := blks_inc _ _ _ _ _ (by exact Nat.zero_le _) (by exact Nat.le_refl _) (Nat.zero_le _) (Nat.le_refl _)
theorem sorted_same {a b:List Blk} (hp:a.Perm b) (h1:a.Pairwise (fun a b=>a.1 < b.1)) (h2:b.Pairwise (fun a b=>a.1 < b.1)) : a = b := by
  induction a generalizing b with
  | nil=>exact (List.nil_perm.mp hp).symm
  | cons x a ih =>
    cases b with
    | nil=>exact absurd (List.perm_nil.mp hp) (by simp)
    | cons y b =>
      have hxy : x = y := by
        have m1 := hp.subset (List.mem_cons_self (a := x) (l := a))
        have m2 := hp.symm.subset (List.mem_cons_self (a := y) (l := b))
        rcases List.mem_cons.mp m1 with e | m1
        · exact e
        rcases List.mem_cons.mp m2 with e | m2
        · exact e.symm
        have l1 := (List.pairwise_cons.mp h2).1 x m1
        have l2 := (List.pairwise_cons.mp h1).1 y m2
        lia
      subst hxy
      rw [ih (List.Perm.cons_inv hp) (List.pairwise_cons.mp h1).2 (List.pairwise_cons.mp h2).2]
theorem wgts_len {qs:List (Nat × Nat × Nat × Nat)} : qs.length ≤ wgts qs := by
  induction qs with
  | nil=>simp
  | cons q qs ih =>
    have : wgts (q :: qs) = wgt q + wgts qs := by unfold wgts; simp
    rw [this,List.length_cons]
    unfold wgt; lia
theorem merge_len1 {bs:List Blk} : ∀ {s:List Blk × Blk},(bs.foldl mergeS s).1.length ≤ s.1.length + bs.length := by
  induction bs with
  | nil=>intro s; simp
  | cons b bs ih =>
    intro s
    rw [List.foldl_cons]
    have := ih (s := mergeS s b)
    have e : (mergeS s b).1.length ≤ s.1.length + 1 := by
      unfold mergeS
      split
      · simp
      · dsimp only; split <;> simp
    rw [List.length_cons]
    lia
theorem merge_len {bs:List Blk} {i:Nat} (h:i ≤ bs.length) : ((bs.take i).foldl mergeS ([],0,0,0)).1.length ≤ i := by
  have := merge_len1 (bs := bs.take i) (s := ([],0,0,0))
  rw [List.length_take] at this
  simp at this
  exact Nat.le_trans this (Nat.min_le_left _ _)
end
section
noncomputable def places (Y:List Int) (n:Nat) (y:Int) : List Int := (((List.range n).filter fun j=>decide (Y.getD j 0 = y)).map fun j : Nat=>(j:Int))
theorem places_succ {Y:List Int} {n:Nat} {y:Int} : places Y (n + 1) y = places Y n y ++ (if Y.getD n 0 = y then [(n:Int)] else []) := by
  unfold places
  rw [List.range_succ,List.filter_append,List.map_append]
  by_cases h : Y.getD n 0 = y
  · rw [List.filter_cons_of_pos (by simpa only [decide_eq_true_eq] using h),if_pos h]; rfl
  · rw [List.filter_cons_of_neg (by simpa only [decide_eq_true_eq] using h),if_neg h]; rfl
theorem b2jN_places {Y:List Int} {n:Nat} : (∀ p ∈ b2jN Y n,p.2 = places Y n p.1) ∧ (∀ j,j < n → Y.getD j 0 ∈ (b2jN Y n).map (·.1)) ∧ ((b2jN Y n).map (·.1)).Nodup := by
  induction n with
  | zero=>exact ⟨fun p hp=>by simp [b2jN] at hp,fun j hj=>by lia,by simp [b2jN]⟩
  | succ n ih =>
    obtain ⟨h1,h2,h3⟩ := ih
    rw [b2jN_succ]
    obtain ⟨B,hB⟩ : ∃ B,B = b2jN Y n := ⟨_,rfl⟩
    rw [← hB] at h1 h2 h3 ⊢
    unfold addIx
    by_cases c : (B.any fun p=>p.1 = Y.getD n 0) = true
    · rw [if_pos c]
      have hk : (B.map fun p=>if p.1 = Y.getD n 0 then (p.1,p.2 ++ [(n:Int)]) else p).map (·.1) = B.map (·.1) := by
        rw [List.map_map]
        refine List.map_congr_left fun p _=>?_
        simp only [Function.comp]
        split <;> rfl
      refine ⟨fun p hp=>?_,fun j hj=>?_,?_⟩
      · obtain ⟨q,hq,rfl⟩ := List.mem_map.mp hp
        by_cases e : q.1 = Y.getD n 0
        · rw [if_pos e,places_succ,if_pos e.symm,← h1 q hq]
        · rw [if_neg e,places_succ,if_neg (fun h=>e h.symm),List.append_nil]
          exact h1 q hq
      · rw [hk]
        by_cases e : j = n
        · rw [e]
          rw [List.any_eq_true] at c
          obtain ⟨p,hp,hp2⟩ := c
          rw [decide_eq_true_eq] at hp2
          rw [← hp2]; exact List.mem_map_of_mem hp
        · exact h2 j (by lia)
      · rw [hk]; exact h3
    · rw [if_neg c]
      have hn : ∀ p ∈ B,p.1 ≠ Y.getD n 0 := fun p hp e=>c (List.any_eq_true.mpr ⟨p,hp,by simpa using e⟩)
      refine ⟨fun p hp=>?_,fun j hj=>?_,?_⟩
      · rcases List.mem_append.mp hp with hp | hp
        · rw [places_succ,if_neg (fun h=>hn p hp h.symm),List.append_nil]; exact h1 p hp
        · rw [List.mem_singleton.mp hp,places_succ,if_pos rfl]
          have : places Y n (Y.getD n 0) = [] := by
            unfold places
            rw [List.map_eq_nil_iff,List.filter_eq_nil_iff]
            intro j hj
            rw [decide_eq_true_eq]
            intro e
            have := h2 j (List.mem_range.mp hj)
            obtain ⟨p,hp,hp2⟩ := List.mem_map.mp this
            exact hn p hp (hp2.trans e)
          rw [this]; rfl
      · rw [List.map_append]
        by_cases e : j = n
        · rw [e]; exact List.mem_append_right _ (by simp)
        · exact List.mem_append_left _ (h2 j (by lia))
      · rw [List.map_append,List.nodup_append]
        refine ⟨h3,by simp,?_⟩
        intro a ha b hb hab
        simp only [List.map_cons,List.map_nil,List.mem_singleton] at hb
        obtain ⟨p,hp,rfl⟩ := List.mem_map.mp ha
        exact hn p hp (hab.trans hb)
noncomputable def plk (X Y:List Int) (i:Nat) : List Nat := (List.range Y.length).filter fun j=>eqk X Y i j
theorem plk_kept {X Y:List Int} {i:Nat} (hk:keptB (X.getD i 0) = true) : (plk X Y i).map (fun j:Nat=>(j:Int)) = places Y Y.length (X.getD i 0) := by
  unfold plk places
  congr 1
  refine List.filter_congr fun j _=>?_
  unfold eqk
  rw [Bool.eq_iff_iff]
  simp only [decide_eq_true_eq,hk,and_true]
  exact eq_comm
theorem plk_not {X Y:List Int} {i:Nat} (hk:keptB (X.getD i 0) = false) : plk X Y i = [] := by
  unfold plk
  rw [List.filter_eq_nil_iff]
  intro j _
  unfold eqk
  rw [decide_eq_true_eq,hk]
  exact fun h=>absurd h.2 Bool.false_ne_true
theorem b2j_get {X Y:List Int} {T:Tab} {i:Nat} (hpl:plT T = (b2jF Y).filter fun p=>keptB p.1) {v:Value} :
    (∃ p ∈ T,(valueAt (kvT T) (X.getD i 0)).getD v = .ref p.2.1 ∧ p.2.2 = (plk X Y i).map fun j : Nat=>(j:Int)) ∨ ((valueAt (kvT T) (X.getD i 0)).getD v = v ∧ plk X Y i = []) := by
  obtain ⟨h1,h2,h3⟩ := @b2jN_places Y Y.length
  cases e : valueAt (kvT T) (X.getD i 0) with
  | some u =>
    obtain ⟨a,is,rfl,hin,_⟩ := valueAt_kvT e
    refine .inl ⟨_,hin,rfl,?_⟩
    have hm : (X.getD i 0,is) ∈ (b2jF Y).filter fun p=>keptB p.1 := by rw [← hpl]; exact List.mem_map_of_mem (f := fun p : Int × Addr × List Int=>(p.1,p.2.2)) hin
    obtain ⟨hm1,hm2⟩ := List.mem_filter.mp hm
    have := h1 _ hm1
    dsimp only at this hm2 ⊢
    rw [plk_kept hm2]; exact this
  | none =>
    refine .inr ⟨rfl,?_⟩
    cases hk : keptB (X.getD i 0) with
    | false=>exact plk_not hk
    | true =>
      unfold plk
      rw [List.filter_eq_nil_iff]
      intro j hj hc
      unfold eqk at hc
      rw [decide_eq_true_eq] at hc
      have hy := h2 j (List.mem_range.mp hj)
      rw [← hc.1] at hy
      obtain ⟨p,hp,hp2⟩ := List.mem_map.mp hy
      have hin : p ∈ plT T := by rw [hpl]; exact List.mem_filter.mpr ⟨hp,by rw [hp2]; exact hk⟩
      have : X.getD i 0 ∈ T.map (·.1) := by rw [← plT_keys,← hp2]; exact List.mem_map_of_mem hin
      have := valueAt_some this
      rw [e] at this; cases this
theorem plk_len {X Y:List Int} {i:Nat} : (plk X Y i).length ≤ Y.length := by
  unfold plk
  have := List.length_filter_le (fun j=>eqk X Y i j) (List.range Y.length)
  simpa using this
theorem plk_mem {X Y:List Int} {i j:Nat} : j ∈ plk X Y i ↔ j < Y.length ∧ eqk X Y i j = true := by
  unfold plk
  rw [List.mem_filter,List.mem_range]
theorem plk_rise {X Y:List Int} {i:Nat} : (plk X Y i).Pairwise (· < ·) := List.pairwise_lt_range.sublist List.filter_sublist
noncomputable def inWn (j1 j2:Nat) (j:Nat) : Bool := decide (j1 ≤ j) && decide (j < j2)
theorem row_places {X Y:List Int} {i1 i j1 j2:Nat} (h4:j2 ≤ Y.length) (h3:j1 ≤ j2) (b:Nat × Nat × Nat) : ((plk X Y i).filter (inWn j1 j2)).foldl (fun b j=>upG (bk X Y i1 j1) (fun k=>k - 1) b i j) b = rowG (bk X Y i1 j1) (fun k=>k - 1) j1 b i (j2 - j1) := by
  have e1 : (plk X Y i).filter (inWn j1 j2) = ((List.range (j2 - j1)).map (j1 + ·)).filter fun j=>eqk X Y i j := by
    unfold plk
    rw [List.filter_filter]
    have : (List.range' j1 (j2 - j1)) = (List.range (j2 - j1)).map (j1 + ·) := List.range'_eq_map_range
    rw [← this]
    have e : List.range Y.length = List.range' 0 j1 ++ (List.range' j1 (j2 - j1) ++ List.range' j2 (Y.length - j2)) := by
      rw [List.range_eq_range']
      have a1 := @List.range'_append_1 j1 (j2 - j1) (Y.length - j2)
      rw [show j1 + (j2 - j1) = j2 by lia] at a1
      have a2 := @List.range'_append_1 0 j1 (j2 - j1 + (Y.length - j2))
      rw [Nat.zero_add] at a2
      rw [a1,a2,show j1 + (j2 - j1 + (Y.length - j2)) = Y.length by lia]
    rw [e,List.filter_append,List.filter_append]
    have z1 : (List.range' 0 j1).filter (fun a=>inWn j1 j2 a && eqk X Y i a) = [] := by
      rw [List.filter_eq_nil_iff]
      intro a ha
      have := List.mem_range'_1.mp ha
      unfold inWn
      rw [decide_eq_false (by lia:¬ j1 ≤ a)]; simp
    have z2 : (List.range' j2 (Y.length - j2)).filter (fun a=>inWn j1 j2 a && eqk X Y i a) = [] := by
      rw [List.filter_eq_nil_iff]
      intro a ha
      have := List.mem_range'_1.mp ha
      unfold inWn
      rw [decide_eq_false (by exact Nat.not_lt_of_le this.1 : ¬ a < j2)]; simp
    rw [z1,z2,List.nil_append,List.append_nil]
    refine List.filter_congr fun a ha=>?_
    have := List.mem_range'_1.mp ha
    unfold inWn
    rw [decide_eq_true (by exact this.1 : j1 ≤ a),decide_eq_true (by lia:a < j2)]; rfl
  rw [e1]
  unfold rowG
  have key : ∀ (l:List Nat) (b:Nat × Nat × Nat),((l.map (j1 + ·)).filter fun j=>eqk X Y i j).foldl (fun b j=>upG (bk X Y i1 j1) (fun k=>k - 1) b i j) b = l.foldl (fun b jj=>upG (bk X Y i1 j1) (fun k=>k - 1) b i (j1 + jj)) b := by
    intro l
    induction l with
    | nil=>intro b; rfl
    | cons a l ih =>
      intro b
      rw [List.map_cons,List.foldl_cons]
      by_cases c : eqk X Y i (j1 + a) = true
      · rw [List.filter_cons_of_pos (by simpa using c),List.foldl_cons]; exact ih _
      · rw [List.filter_cons_of_neg (by simpa using c),ih]
        have : bk X Y i1 j1 i (j1 + a) = 0 := by rw [bk_eq,if_neg c]
        unfold upG
        rw [this,if_neg (Nat.not_lt_of_le (Nat.zero_le _))]
  exact key _ b
noncomputable def RowL (X Y:List Int) (i1 j1 i:Nat) (js:List Nat) (kvs:List (Int × Value)) : Prop := kvs.map (·.1) = js.map (fun j:Nat=>(j:Int)) ∧ ∀ p ∈ kvs,∃ t,p.2 = .int (bk X Y i1 j1 i p.1.toNat : Nat) t
noncomputable def PrevD (X Y:List Int) (i1 j1 j2 ii:Nat) (kvs:List (Int × Value)) : Prop := (ii = 0 → kvs = []) ∧ (0 < ii → RowL X Y i1 j1 (i1 + ii - 1) ((plk X Y (i1 + ii - 1)).filter (inWn j1 j2)) kvs)
theorem valueAt_in {kvs:List (Int × Value)} {k:Int} {v:Value} (h:valueAt kvs k = some v) : (k,v) ∈ kvs := by
  unfold valueAt at h
  cases e : kvs.find? (fun kv=>decide (kv.1 = k)) with
  | none=>rw [e] at h; cases h
  | some p =>
    rw [e] at h
    have h1 := List.find?_some e
    have h2 := List.mem_of_find?_eq_some e
    rw [decide_eq_true_eq] at h1
    have h3 : p.2 = v := by simpa using h
    obtain ⟨p1,p2⟩ := p
    dsimp only at h1 h3
    rw [← h1,← h3]; exact h2
theorem valueAt_out {kvs:List (Int × Value)} {k:Int} (h:valueAt kvs k = none) : k ∉ kvs.map (·.1) := by
  unfold valueAt at h
  cases e : kvs.find? (fun kv=>decide (kv.1 = k)) with
  | some p=>rw [e] at h; cases h
  | none =>
    rw [List.find?_eq_none] at e
    intro hm
    obtain ⟨p,hp,rfl⟩ := List.mem_map.mp hm
    exact e p hp (by simp)
theorem stored_new {kvs:List (Int × Value)} {k:Int} {v:Value} (h:k ∉ kvs.map (·.1)) : stored kvs k v = kvs ++ [(k,v)] := by
  unfold stored
  rw [if_neg]
  rw [Bool.not_eq_true,List.any_eq_false]
  intro p hp
  rw [decide_eq_true_eq]
  rintro rfl
  exact h (List.mem_map_of_mem hp)
theorem RowL.push {X Y:List Int} {i1 j1 i:Nat} {js:List Nat} {kvs:List (Int × Value)} (R:RowL X Y i1 j1 i js kvs) {j:Nat} (t:Tok) : RowL X Y i1 j1 i (js ++ [j]) (kvs ++ [((j:Int),.int (bk X Y i1 j1 i j:Nat) t)]) := by
  refine ⟨by rw [List.map_append,List.map_append,R.1]; rfl,fun p hp=>?_⟩
  rcases List.mem_append.mp hp with hp | hp
  · exact R.2 p hp
  · rw [List.mem_singleton.mp hp]; exact ⟨t,by simp⟩
theorem prev_get {X Y:List Int} {i1 j1 j2 ii j:Nat} {kvs:List (Int × Value)} {t:Tok} (hP:PrevD X Y i1 j1 j2 ii kvs) (hj:j1 ≤ j) (hj2:j < j2) (h4:j2 ≤ Y.length) (he:eqk X Y (i1 + ii) j = true) :
    ∃ t',(valueAt kvs ((j:Int) - 1)).getD (.int 0 t) = .int ((bk X Y i1 j1 (i1 + ii) j - 1 : Nat)) t' := by
  have hb := @bk_eq X Y i1 j1 (i1 + ii) j
  rw [if_pos he] at hb
  rcases Nat.eq_zero_or_pos ii with c | c
  · have := hP.1 c
    subst this
    subst c
    rw [if_neg (by lia)] at hb
    rw [hb]
    exact ⟨t,rfl⟩
  · obtain ⟨h1,h2⟩ := hP.2 c
    cases e : valueAt kvs ((j:Int) - 1) with
    | some v =>
      have hm := valueAt_in e
      have hk : ((j:Int) - 1) ∈ kvs.map (·.1) := List.mem_map_of_mem (f := (·.1)) hm
      rw [h1] at hk
      obtain ⟨j',hj',e2⟩ := List.mem_map.mp hk
      obtain ⟨_,hw⟩ := List.mem_filter.mp hj'
      unfold inWn at hw
      rw [Bool.and_eq_true,decide_eq_true_eq,decide_eq_true_eq] at hw
      have e3 : j' = j - 1 := by lia
      rw [if_pos (by lia)] at hb
      obtain ⟨t',hv⟩ := h2 _ hm
      refine ⟨t',?_⟩
      have hv' : v = .int (bk X Y i1 j1 (i1 + ii - 1) ((j:Int) - 1).toNat : Nat) t' := hv
      have e4 : ((j:Int) - 1).toNat = j - 1 := by lia
      rw [Option.getD_some,hv',hb,e4,Nat.add_sub_cancel]
    | none =>
      have hk := valueAt_out e
      rw [h1] at hk
      refine ⟨t,?_⟩
      have key : bk X Y i1 j1 (i1 + ii) j - 1 = 0 := by
       rw [hb,Nat.add_sub_cancel]
       by_cases c2 : j1 < j
       · rw [if_pos ⟨by lia,c2⟩]
         have hz : bk X Y i1 j1 (i1 + ii - 1) (j - 1) = 0 := by
           rw [bk_eq,if_neg]
           intro hc
           refine hk (List.mem_map.mpr ⟨j - 1,List.mem_filter.mpr ⟨plk_mem.mpr ⟨by exact Nat.lt_of_le_of_lt (Nat.sub_le _ _) (Nat.lt_of_lt_of_le hj2 h4),hc⟩,?_⟩,by lia⟩)
           unfold inWn
           rw [decide_eq_true (by lia:j1 ≤ j - 1),decide_eq_true (by exact Nat.lt_of_le_of_lt (Nat.sub_le _ _) hj2 : j - 1 < j2)]; rfl
         exact hz
       · rw [if_neg (by lia)]
      rw [Option.getD_none,key]; rfl
theorem filt_take {P:List Nat} {f:Nat → Bool} {t j:Nat} (h:P[t]? = some j) : (P.take (t + 1)).filter f = (P.take t).filter f ++ (if f j = true then [j] else []) := by
  rw [List.take_add_one,h,Option.toList_some,List.filter_append]
  by_cases c : f j = true <;> simp [c]
theorem filt_stop {P:List Nat} {j1 j2 t j:Nat} (hr:P.Pairwise (· < ·)) (h:P[t]? = some j) (hj:j2 ≤ j) : P.filter (inWn j1 j2) = (P.take t).filter (inWn j1 j2) := by
  conv=>lhs; rw [← List.take_append_drop t P]
  rw [List.filter_append]
  have : (P.drop t).filter (inWn j1 j2) = [] := by
    rw [List.filter_eq_nil_iff]
    intro a ha
    obtain ⟨hlt,he⟩ := List.getElem?_eq_some_iff.mp h
    have : j ≤ a := by
      rw [List.drop_eq_getElem_cons hlt,he] at ha
      rcases List.mem_cons.mp ha with rfl | ha
      · exact Nat.le_refl _
      · have hs : (P.drop t).Pairwise (· < ·) := hr.sublist (List.drop_sublist _ _)
        rw [List.drop_eq_getElem_cons hlt,he] at hs
        exact Nat.le_of_lt (List.rel_of_pairwise_cons hs ha)
    unfold inWn
    rw [decide_eq_false (by exact Nat.not_lt_of_le (Nat.le_trans hj this) : ¬ a < j2)]; simp
  rw [this,List.append_nil]
theorem junk_mem {Y:List Int} {j:Nat} (hj:j < Y.length) : decide (Y.getD j 0 ∈ ((b2jF Y).map (·.1)).filter fun y=>!keptB y) = !keptB (Y.getD j 0) := by
  obtain ⟨_,h2,_⟩ := @b2jN_places Y Y.length
  have := h2 j hj
  rw [Bool.eq_iff_iff,decide_eq_true_eq,List.mem_filter]
  exact ⟨fun h=>h.2,fun h=>⟨this,h⟩⟩
theorem getI {vs:List Value} {xs:List Int} (hi:IntsAre vs xs) {i:Nat} (h:i < xs.length) : ∃ t,vs[i]? = some (.int (xs.getD i 0) t) :=
  ints_get' hi (by rw [List.getD_eq_getElem?_getD,List.getElem?_eq_getElem h]; rfl)
theorem eqk_of {X Y:List Int} {i j:Nat} (h:X.getD i 0 = Y.getD j 0) (hk:keptB (Y.getD j 0) = true) : eqk X Y i j = true := by
  unfold eqk; rw [decide_eq_true_eq,h]; exact ⟨rfl,hk⟩
theorem eqj_of {X Y:List Int} {i j:Nat} (h:X.getD i 0 = Y.getD j 0) (hk:keptB (Y.getD j 0) = false) : eqj X Y i j = true := by
  unfold eqj; rw [decide_eq_true_eq]; exact ⟨h,hk⟩
theorem eqj_to {X Y:List Int} {i j:Nat} (h:eqj X Y i j = true) : X.getD i 0 = Y.getD j 0 ∧ keptB (Y.getD j 0) = false := by
  unfold eqj at h; rwa [decide_eq_true_eq] at h
end
section
theorem pk30 : peek (KM w.params) ⟨(model prg w).prog,(model prg w).w.params⟩ (keeperOf (.ref 135)) = some .machine := by kernel_rfl
theorem Kp_match {A:Around} {h:Heap} (Z:Stat h.get?) : Kp A (.ref 135) h := WP_lib fun s e=>by subst e; exact (Looks.of_peek Z.inn (pk30)).here ⟨_,_,rfl,rfl⟩
theorem O_dsetN {A:Around} {K N:Pt} {n₀:Nat} {env:Env} {m:List (Str × Option Value)} {M M':List (Addr × OP)} {h:Heap} {d:Addr} {kvs:List (Int × Value)} {k:Int} {t:Tok} {v:Value} {Q:Unit → Heap → Prop} (S:St K n₀ env m N M h) (hd:(d,DO kvs) ∈ M) (hn:k ∉ kvs.map (·.1)) (hz:kvs.length ≤ sizeLine) (u:Upd d (DO (kvs ++ [(k,v)])) M M') (q:∀ h',St K n₀ env m N M' h' → Q () h') : WP A (setItem (.ref d) (.int k t) v) Q h :=
  O_dset S hd hz (stored_new hn ▸ u) q
theorem idxOk {z:Int} {n:Nat} (h:z = n) : 0 ≤ z ∧ z.toNat = n := by subst h; exact ⟨Int.natCast_nonneg _,Int.toNat_natCast _⟩
noncomputable def AhIs (X Y:List Int) (i1 j1 a b t:Nat) : Prop := t = topT (min (a - i1) (b - j1) + 1) (aheadP X Y a b)
noncomputable def BeIs (X Y:List Int) (i2 j2 a b t:Nat) : Prop := t = topT (min (i2 - a) (j2 - b) + 1) (behindP X Y a b)
namespace flm_specN
abbrev TT : Prop := ∀ {A:Around} {h:Heap} {n:Nat} {x dx a b d sj sp:Addr} {va vb:List Value} {X Y:List Int} {T:Tab} {mb oc:Value} {i1 i2 j1 j2:Nat} {ti1 ti2 tj1 tj2:Tok} {Q:Value → Heap → Prop} (Z:Stat h.get?) (R:Rm A (n + 9)) (hx:At h.get? x (XO 242 dx)) (hdx:At h.get? dx (AO (MA a b d sj sp mb oc))) (ha:At h.get? a (LO va)) (hi:IntsAre va X) (hb:At h.get? b (LO vb)) (hj:IntsAre vb Y) (hd:At h.get? d (DO (kvT T))) (hT:∀ p ∈ T,At h.get? p.2.1 (IO p.2.2)) (hpl:plT T = (b2jF Y).filter fun p=>keptB p.1) (hs:At h.get? sj (KO (((b2jF Y).map (·.1)).filter fun y=>!keptB y))) (hX:X.length ≤ 11) (hY:Y.length ≤ 11) (h1:i1 ≤ i2) (h2:i2 ≤ X.length) (h3:j1 ≤ j2) (h4:j2 ≤ Y.length) (hdm:(d == sysModules) = false) (k:∀ y h' t0 t1 t2,Bn h y (MV [.int ((blockF X Y i1 i2 j1 j2).1 : Nat) t0,.int ((blockF X Y i1 i2 j1 j2).2.1 : Nat) t1,.int ((blockF X Y i1 i2 j1 j2).2.2 : Nat) t2]) h' → Q (.ref y) h'),WP A (call (.ref 196) [.ref x,.int (i1:Nat) ti1,.int (i2:Nat) ti2,.int (j1:Nat) tj1,.int (j2:Nat) tj2]) Q h
noncomputable def PP : {p:Heap → Nat → Addr → Addr → Addr → List Int → List Int → Tab → Nat → Nat → Nat → Nat → (Value → Heap → Prop) → Addr → Env → Around → Heap → Prop // (∀ h n x dx d X Y T i1 i2 j1 j2 Q L env A' h₁,p h n x dx d X Y T i1 i2 j1 j2 Q L env A' h₁) → TT} := ⟨_,by
  intro f A h n x dx a b d sj sp va vb X Y T mb oc i1 i2 j1 j2 ti1 ti2 tj1 tj2 Q Z R hx hdx ha hi hb hj hd hT hpl hs hX hY h1 h2 h3 h4 hdm k
  have hdx' : At h.get? dx (AO [(Str.ofString "isjunk",.ref 269),(Str.ofString "a",.ref a),(Str.ofString "b",.ref b),(Str.ofString "autojunk",.bool true),(Str.ofString "matching_blocks",mb),(Str.ofString "opcodes",oc),(Str.ofString "fullbcount",.none),(Str.ofString "b2j",.ref d),(Str.ofString "bjunk",.ref sj),(Str.ofString "bpopular",.ref sp)]) := hdx
  have hva : va.length = X.length := hi.length
  have hvb : vb.length = Y.length := hj.length
  have zX : va.length ≤ sizeLine := by rw [sizeLine_eq]; exact Nat.le_of_lt (Nat.lt_of_le_of_lt (Nat.le_of_eq hva) (Nat.lt_of_le_of_lt hX (by decide)))
  have zY : vb.length ≤ sizeLine := by rw [sizeLine_eq]; lia -zetaDelta
  refine' enter2 (args := ⟨[.ref x,.int (i1:Nat) ti1,.int (i2:Nat) ti2,.int (j1:Nat) tj1,.int (j2:Nat) tj2],[]⟩) (binds := [(Str.ofString "self",.ref x),(Str.ofString "alo",.int (i1:Nat) ti1),(Str.ofString "ahi",.int (i2:Nat) ti2),(Str.ofString "blo",.int (j1:Nat) tj1),(Str.ofString "bhi",.int (j2:Nat) tj2)]) (rest := [Str.ofString "a",Str.ofString "b",Str.ofString "b2j",Str.ofString "isbjunk",Str.ofString "besti",Str.ofString "bestj",Str.ofString "bestsize",Str.ofString "j2len",Str.ofString "nothing",Str.ofString "i",Str.ofString "j2lenget",Str.ofString "newj2len",Str.ofString "j",Str.ofString "k"]) (gl := [(Str.ofString "len",.builtin "len"),(Str.ofString "range",.type "range"),(Str.ofString "Match",.ref 135)]) Z R ?k6 ?k7 ?k9 ?sc ?c1 ?c2 ?c3 ?c4 ?c5 ?hm ?_
  (case k6=>k_is); (case k7=>k_is)
  (case k9=>intro s e; exact BindsTo.of_defaults (T := 189) (o := o189_5 w.params) rfl (e ▸ Z.inn 189 (o189_5 w.params) (by k_is)) rfl rfl rfl)
  (case sc=>kernel_rfl); (case c1=>kernel_rfl); (case c2=>exact rfl); (case c3=>exact rfl); (case c4=>exact rfl); (case c5=>kernel_rfl); (case hm=>(simp only [mk0,List.map_cons,List.map_nil,List.cons_append,List.nil_append,List.append_nil]; exact rfl))
  intro L env A' h₁
  revert A a b sj sp va vb mb oc ti1 ti2 tj1 tj2 Z R hx hdx ha hi hb hj hd hT hpl hs hX hY h1 h2 h3 h4 hdm k hdx' hva hvb zX zY
  exact @f h n x dx d X Y T i1 i2 j1 j2 Q L env A' h₁⟩
noncomputable def SS := pick1 (by have := neA; exact inferInstance) (un (un (un (un (un (un (un (un (un (un (un (un (un (un (un (un PP.1))))))))))))))))
noncomputable def h := SS.1.1.1.1.1.1.1.1.1.1.1.1.1.1.1.1.1
noncomputable def n := SS.1.1.1.1.1.1.1.1.1.1.1.1.1.1.1.1.2
noncomputable def x := SS.1.1.1.1.1.1.1.1.1.1.1.1.1.1.1.2
noncomputable def dx := SS.1.1.1.1.1.1.1.1.1.1.1.1.1.1.2
noncomputable def d := SS.1.1.1.1.1.1.1.1.1.1.1.1.1.2
noncomputable def X := SS.1.1.1.1.1.1.1.1.1.1.1.1.2
noncomputable def Y := SS.1.1.1.1.1.1.1.1.1.1.1.2
noncomputable def T := SS.1.1.1.1.1.1.1.1.1.1.2
noncomputable def i1 := SS.1.1.1.1.1.1.1.1.1.2
noncomputable def i2 := SS.1.1.1.1.1.1.1.1.2
noncomputable def j1 := SS.1.1.1.1.1.1.1.2
noncomputable def j2 := SS.1.1.1.1.1.1.2
noncomputable def Q := SS.1.1.1.1.1.2
noncomputable def L := SS.1.1.1.1.2
noncomputable def env := SS.1.1.1.2
noncomputable def A' := SS.1.1.2
noncomputable def h₁ := SS.1.2
theorem main : PP.1 h n x dx d X Y T i1 i2 j1 j2 Q L env A' h₁ := by
  intro A a b sj sp va vb mb oc ti1 ti2 tj1 tj2 Z R hx hdx ha hi hb hj hd hT hpl hs hX hY h1 h2 h3 h4 hdm k hdx' hva hvb zX zY henv R' C K₁ S
  refine S.letm ?_; clear S; intro mS MS S
  wtm_at "go"
  refine' W_AssignTup ?_ ?y1 ?y2
  case y1=>rfl
  case y2=>rfl
  wtm_at "go"
  wtm_at "ga"
  wtm_at "go"
  wtm_at "ga"
  wtm_at "go"
  wtm_at "ga"
  wtm_at "go"
  wtm_at "ga"
  refine O_battr_set (S.kk hs) ?_
  intro bm g1 n1
  have S1 := S.born n1
  wtm_at "go"
  wtm_at "new"
  intro tt g2 _ _ K2 S2
  refine' W_assign_Tuple (R'.le (Nat.zero_le _)) (S2.mm (by wtm_at "mem")) rfl ?y3 ?_
  case y3=>rfl
  intro g3 K3
  have S3 := (S2.keeps K3).drop
  wtm_at "go"
  rw [show (Value.int (i2:Nat) ti2 == Value.none) = false from rfl]
  wtm_at "gb"
  rw [show (Value.int (j2:Nat) tj2 == Value.none) = false from rfl]
  wtm_at "gb"
  refine' W_AssignSwap (names := [Str.ofString "besti",Str.ofString "bestj",Str.ofString "bestsize"]) ?_ ?y1 ?y2
  case y1=>rfl
  case y2=>rw [henv]; kernel_rfl
  wtm_at "go"
  wtm_at "new"
  rename_i g4 S4 t0
  intro tu g5 _ _ K5 S5
  refine U_tuple (R'.le (by lia -zetaDelta)) (S5.mm (by wtm_at "mem")) rfl ?_
  intro g6 K6
  have S6 := (S5.keeps K6).drop
  wtm_at "rev"
  wtm_at "go"
  rename_i g7 S7 _ g8 S8 _ g9 S9
  refine W_Dict0 ?_
  intro dj g10 n10
  have S10 := S9.born n10
  wtm_at "go"
  wtm_at "new"
  intro nl g11 _ _ K11 S11
  wtm_at "go"
  rename_i g12 S12 _ g13 S13
  wtm_at "kp"
  refine O_range2 ?_
  intro rg g14 n14
  have S14 := S13.born n14
  refine iter_range (S14.mm (by wtm_at "mem")) (by lia -zetaDelta) (by lia -zetaDelta) ?_
  intro I g15 n15
  have S15 := ((S14.born n15).pick (M' := (I,RI (i1:Nat) (((i2:Nat) : Int) - (i1:Nat)).toNat 0) :: [(dj,DO []),(nl,LO []),(bm,BM "set.__contains__" sj)]) [0,3,2,4] (by decide) rfl)
  have hsz : 254 < h.objs.size := let ⟨o,ho,_⟩ := hv_at Z; Heap.lt_size ho
  have nosys : ∀ q : Addr,h.objs.size ≤ q → (q == sysModules) = false := fun q hq=>by
    rw [beq_eq_false_iff_ne]
    exact Nat.ne_of_gt (Nat.lt_of_lt_of_le (by show 1 < _; exact Nat.lt_trans (by decide) hsz) hq)
  have hdj : (dj == sysModules) = false := nosys dj (Nat.le_trans S9.newer n10.ge)
  have en : (((i2:Nat) : Int) - (i1:Nat)).toNat = i2 - i1 := by lia -zetaDelta
  have e00 : Value.int 0 t0 = Value.int (((0,i1,j1) : Nat × Nat × Nat).1 : Nat) t0 := rfl
  let MB (kv:List (Int × Value)) (dd:Addr) : List (Addr × OP) := [(dd,DO kv),(nl,LO []),(bm,BM "set.__contains__" sj)]
  let mB1 (q9:Int) (t9:Tok) (q10:Int) (t10:Tok) (q11:Int) (t11:Tok) (q12:Option Value) (q14:Option Value) (q15:Option Value) (q16:Option Value) (q17:Option Value) (q18:Option Value) : List (Str × Option Value) := [(Str.ofString "self",some (Value.ref x)),(Str.ofString "alo",some (Value.int (i1:Nat) ti1)),(Str.ofString "ahi",some (Value.int (i2:Nat) ti2)),(Str.ofString "blo",some (Value.int (j1:Nat) tj1)),(Str.ofString "bhi",some (Value.int (j2:Nat) tj2)),(Str.ofString "a",some (Value.ref a)),(Str.ofString "b",some (Value.ref b)),(Str.ofString "b2j",some (Value.ref d)),(Str.ofString "isbjunk",some (Value.ref bm)),(Str.ofString "besti",some (.int q9 t9)),(Str.ofString "bestj",some (.int q10 t10)),(Str.ofString "bestsize",some (.int q11 t11)),(Str.ofString "j2len",q12),(Str.ofString "nothing",some (Value.ref nl)),(Str.ofString "i",q14),(Str.ofString "j2lenget",q15),(Str.ofString "newj2len",q16),(Str.ofString "j",q17),(Str.ofString "k",q18)]
  let Jz1 : Inv := fun ii m N M=>E6 fun dp kvs tb0 tb1 tb2 u1=>E4 fun u2 u3 u4 u5=>C5 (m = (mB1 ((allG (bk X Y i1 j1) (fun k=>k - 1) i1 j1 (j2 - j1) ii).2.1) tb0 ((allG (bk X Y i1 j1) (fun k=>k - 1) i1 j1 (j2 - j1) ii).2.2) tb1 ((allG (bk X Y i1 j1) (fun k=>k - 1) i1 j1 (j2 - j1) ii).1) tb2 (some (Value.ref dp)) u1 u2 u3 u4 u5)) (N = (fun _=>none)) (PrevD X Y i1 j1 j2 ii kvs) ((dp == sysModules) = false) (M = (MB kvs dp))
  refine for_itr (itr_range R'.h I (i1:Nat) (((i2:Nat) : Int) - (i1:Nat)).toNat) Jz1 S15 ⟨dj,[],ti1,tj1,t0,_,_,_,_,_,rfl,rfl,⟨fun _=>rfl,fun h=>absurd h (Nat.lt_irrefl 0)⟩,hdj,rfl⟩ (fun _=>rfl) (fun i m N M h P _ S=>trivial) ?_ ?_
  · rintro ii v m N M g hii ⟨tii,rfl⟩ ⟨dp,kvs,tb0,tb1,tb2,u1,u2,u3,u4,u5,rfl,rfl,hPD,hdp,rfl⟩ S
    refine S.letm ?_; clear S; intro mS MS S
    rw [en] at hii
    rw [show ((i1:Nat) : Int) + (ii:Nat) = ((i1 + ii : Nat) : Int) by lia -zetaDelta]
    wtm_at "go"
    rename_i g1 S1
    unfold Turn
    wtm_at "go"
    refine O_battr_dict (S1.mm (by wtm_at "mem")) ?_
    intro bg g2 m2
    have S2 := S1.born m2
    wtm_at "go"
    rename_i g4 S4
    refine W_Dict0 ?_
    intro dn g3 m3
    have S3' := S4.born m3
    wtm_at "store"
    rename_i g5 S5
    have hdn : (dn == sysModules) = false := nosys dn (Nat.le_trans S4.newer m3.ge)
    let MC (kv:List (Int × Value)) : List (Addr × OP) := (dn,DO kv) :: (I,RI (i1:Nat) (((i2:Nat) : Int) - (i1:Nat)).toNat (ii + 1)) :: (bg,BM "dict.get" dp) :: MB kvs dp
    let Qz2 : Flow → Heap → Prop := fun f h'=>(f = .next) ∧ E6 fun kvn tb0 tb1 tb2 u4 u5=>(RowL X Y i1 j1 (i1 + ii) ((plk X Y (i1 + ii)).filter (inWn j1 j2)) kvn) ∧ (St h.get? h.objs.size env (mB1 ((((plk X Y (i1 + ii)).filter (inWn j1 j2)).foldl (fun b j=>upG (bk X Y i1 j1) (fun k=>k - 1) b (i1 + ii) j) (allG (bk X Y i1 j1) (fun k=>k - 1) i1 j1 (j2 - j1) ii)).2.1) tb0 ((((plk X Y (i1 + ii)).filter (inWn j1 j2)).foldl (fun b j=>upG (bk X Y i1 j1) (fun k=>k - 1) b (i1 + ii) j) (allG (bk X Y i1 j1) (fun k=>k - 1) i1 j1 (j2 - j1) ii)).2.2) tb1 ((((plk X Y (i1 + ii)).filter (inWn j1 j2)).foldl (fun b j=>upG (bk X Y i1 j1) (fun k=>k - 1) b (i1 + ii) j) (allG (bk X Y i1 j1) (fun k=>k - 1) i1 j1 (j2 - j1) ii)).1) tb2 (some (Value.ref dp)) (some (Value.int (i1 + ii : Nat) tii)) (some (Value.ref bg)) (some (Value.ref dn)) u4 u5) (fun _=>none) (MC kvn) h')
    refine W_cons (WP.mono (Q := Qz2) ?_ ?_)
    · wtm_at "go"
      refine M_dict (S5.kk hd) F.slot_dict_get F.type_dict_get ?_
      wtm_at "go"
      have hxi : X[i1 + ii]? = some (X.getD (i1 + ii) 0) := by rw [List.getD_eq_getElem?_getD,List.getElem?_eq_getElem (by lia -zetaDelta)]; rfl
      obtain ⟨txi,hvi⟩ := ints_get' hi hxi
      refine O_item (S5.kk ha) (by lia -zetaDelta) (by rw [show (((i1 + ii : Nat) : Int)).toNat = i1 + ii by lia -zetaDelta]; exact hvi) (by rw [sizeLine_eq]; lia -zetaDelta) ?_ (by with_unfolding_all rfl)
      wtm_at "go"
      wtm_at "kp"
      refine O_get (S5.kk hd) hdm ?_
      have hLst : ∃ Lst vsL,(valueAt (kvT T) (X.getD (i1 + ii) 0)).getD (.ref nl) = .ref Lst ∧ IntsAre vsL ((plk X Y (i1 + ii)).map fun j : Nat=>(j:Int)) ∧ (At h.get? Lst (LO vsL) ∨ (Lst = nl ∧ vsL = [])) := by
        rcases b2j_get (X := X) (i := i1 + ii) hpl (v := .ref nl) with ⟨p,hp,e1,e2⟩ | ⟨e1,e2⟩
        · obtain ⟨vsL,l1,l2⟩ := IO.lo (hT p hp)
          exact ⟨p.2.1,vsL,e1,e2 ▸ l2,.inl l1⟩
        · exact ⟨nl,[],e1,by rw [e2]; exact .nil,.inr ⟨rfl,rfl⟩⟩
      obtain ⟨Lst,vsL,eL,iL,oL⟩ := hLst
      rw [eL]
      have hvl : vsL.length = (plk X Y (i1 + ii)).length := by rw [iL.length,List.length_map]
      refine iter_list S5 (by
        rcases oL with h | ⟨rfl,rfl⟩
        · exact S5.kk h
        · exact S5.mm (by wtm_at "mem")) ?_
      intro I2 g6 K6 S6
      have S7 := S6.pick (M' := (I2,LI Lst 0) :: MC []) [0,1,3,2,4,5,6] (by decide) rfl
      let Jz3 : Inv := fun t m N M=>E6 fun kvn tb0 tb1 tb2 u4 u5=>C4 (m = (mB1 (((((plk X Y (i1 + ii)).take t).filter (inWn j1 j2)).foldl (fun b j=>upG (bk X Y i1 j1) (fun k=>k - 1) b (i1 + ii) j) (allG (bk X Y i1 j1) (fun k=>k - 1) i1 j1 (j2 - j1) ii)).2.1) tb0 (((((plk X Y (i1 + ii)).take t).filter (inWn j1 j2)).foldl (fun b j=>upG (bk X Y i1 j1) (fun k=>k - 1) b (i1 + ii) j) (allG (bk X Y i1 j1) (fun k=>k - 1) i1 j1 (j2 - j1) ii)).2.2) tb1 (((((plk X Y (i1 + ii)).take t).filter (inWn j1 j2)).foldl (fun b j=>upG (bk X Y i1 j1) (fun k=>k - 1) b (i1 + ii) j) (allG (bk X Y i1 j1) (fun k=>k - 1) i1 j1 (j2 - j1) ii)).1) tb2 (some (Value.ref dp)) (some (Value.int (i1 + ii : Nat) tii)) (some (Value.ref bg)) (some (Value.ref dn)) u4 u5)) (N = (fun _=>none)) (RowL X Y i1 j1 (i1 + ii) (((plk X Y (i1 + ii)).take t).filter (inWn j1 j2)) kvn) (M = MC kvn)
      refine for_itr (itr_list R'.h I2 Lst vsL) Jz3 S7 ⟨[],tb0,tb1,tb2,u4,u5,rfl,rfl,⟨rfl,fun p hp=>nomatch hp⟩,rfl⟩ (fun _=>rfl) (fun t m N M h P hJ S=>?_) ?_ ?_
      · obtain ⟨kvn,tb0,tb1,tb2,u4,u5,rfl,rfl,_,rfl⟩ := hJ
        rcases oL with h | ⟨rfl,rfl⟩
        · exact S.kk h
        · exact S.mm (by wtm_at "mem")
      · rintro t v m N M g ht hv ⟨kvn,tb0,tb1,tb2,u4,u5,rfl,rfl,hRL,rfl⟩ S
        obtain ⟨jz,tj,rfl,hjz⟩ := ints_get iL hv
        obtain ⟨j,hPt,rfl⟩ : ∃ j : Nat,(plk X Y (i1 + ii))[t]? = some j ∧ jz = (j:Int) := by
          rw [List.getElem?_map] at hjz
          cases e : (plk X Y (i1 + ii))[t]? with
          | none=>rw [e] at hjz; cases hjz
          | some j=>rw [e] at hjz; exact ⟨j,rfl,(Option.some.inj hjz).symm⟩
        have hft := filt_take (f := inWn j1 j2) hPt
        obtain ⟨hjY,hje⟩ := plk_mem.mp (List.mem_of_getElem? hPt)
        obtain ⟨js,hjs⟩ : ∃ js,js = ((plk X Y (i1 + ii)).take t).filter (inWn j1 j2) := ⟨_,rfl⟩
        rw [← hjs] at hft hRL S
        obtain ⟨bst,hbst⟩ : ∃ bst,bst = js.foldl (fun b j=>upG (bk X Y i1 j1) (fun k=>k - 1) b (i1 + ii) j) (allG (bk X Y i1 j1) (fun k=>k - 1) i1 j1 (j2 - j1) ii) := ⟨_,rfl⟩
        rw [← hbst] at S
        refine S.letm ?_; clear S; intro mS MS S
        wtm_at "go"
        rename_i g1 T1
        unfold Turn
        wtm_at "go"
        split
        · rename_i hq
          have hq : j < j1 := by simpa using hq
          have hw : inWn j1 j2 j = false := by unfold inWn; rw [decide_eq_false (by exact Nat.not_le_of_lt hq : ¬ j1 ≤ j)]; rfl
          rw [hw,if_neg Bool.false_ne_true,List.append_nil] at hft
          wtm_at "go"
          exact ⟨_,_,_,⟨kvn,tb0,tb1,tb2,_,_,by rw [hft,← hbst],rfl,by rw [hft]; exact hRL,rfl⟩,T1⟩
        rename_i hq
        have hq : j1 ≤ j := by simpa using hq
        wtm_at "go"
        split
        · rename_i hq2
          have hq2 : j2 ≤ j := by simpa using hq2
          have hst := filt_stop (j1 := j1) plk_rise hPt hq2
          rw [← hjs] at hst
          wtm_at "go"
          exact ⟨rfl,kvn,tb0,tb1,tb2,_,_,by rw [hst]; exact hRL,by rw [hst,← hbst]; exact T1.drop⟩
        rename_i hq2
        have hq2 : j < j2 := by simpa using hq2
        have hw : inWn j1 j2 j = true := by unfold inWn; rw [decide_eq_true (by exact hq:j1 ≤ j),decide_eq_true hq2]; rfl
        rw [hw,if_pos rfl] at hft
        obtain ⟨kk,hkk⟩ : ∃ kk,kk = bk X Y i1 j1 (i1 + ii) j := ⟨_,rfl⟩
        have hk1 : 0 < kk := by rw [hkk,bk_eq,if_pos hje]; exact Nat.lt_succ_of_le (Nat.zero_le _)
        have hk2 := bk_cells (X := X) (Y := Y) (i1 := i1) (j1 := j1) (kk - 1) (i1 + ii) j (Nat.le_add_right _ _) (by lia -zetaDelta) (by lia -zetaDelta)
        have hpg : ∀ t,∃ t',(valueAt kvs ((j:Int) - 1)).getD (.int 0 t) = .int ((kk - 1 : Nat)) t' := fun t=>by rw [hkk]; exact prev_get hPD hq hq2 h4 hje
        have hnk : ((j:Nat) : Int) ∉ kvn.map (·.1) := by
          rw [hRL.1]
          intro hm
          obtain ⟨j',hj',e⟩ := List.mem_map.mp hm
          have e' : j' = j := by lia -zetaDelta
          rw [hjs] at hj'
          have h1 := (List.mem_filter.mp hj').1
          obtain ⟨hlt,he⟩ := List.getElem?_eq_some_iff.mp hPt
          obtain ⟨q,hq,e2⟩ := List.getElem_of_mem h1
          rw [List.getElem_take] at e2
          have hq' : q < t := by rw [List.length_take] at hq; exact Nat.lt_of_lt_of_le hq (Nat.min_le_left _ _)
          have := List.pairwise_iff_getElem.mp (plk_rise (X := X) (Y := Y) (i := i1 + ii)) q t (Nat.lt_trans hq' hlt) hlt hq'
          rw [e2,he] at this
          exact absurd this (Nat.not_lt_of_le (Nat.le_of_eq e'.symm))
        wtm_at "go"
        refine W_Assign2 ?_ rfl rfl
        wtm_at "go"
        refine And.intro (Kp_bm (T1.mm (by wtm_at "mem"))) ?_
        refine O_bget (T1.mm (by wtm_at "mem")) (T1.mm (by wtm_at "mem")) hdp ?_
        rw [(hpg _).choose_spec]
        wtm_at "go"
        rename_i tk _ g2 T2
        have ek1 : ((kk - 1 : Nat) : Int) + 1 = (kk:Nat) := by lia -zetaDelta
        refine O_dsetN T2 (by wtm_at "mem") hnk ?_ (by wtm_at "upd") ?_
        · have := congrArg List.length hRL.1
          rw [List.length_map,List.length_map,hjs] at this
          have l1 := List.length_filter_le (inWn j1 j2) ((plk X Y (i1 + ii)).take t)
          have l2 := @plk_len X Y (i1 + ii)
          rw [List.length_take] at l1
          rw [sizeLine_eq]; exact Nat.le_of_lt (Nat.lt_of_le_of_lt (Nat.le_of_eq this) (Nat.lt_of_le_of_lt l1 (Nat.lt_of_le_of_lt (Nat.min_le_right _ _) (Nat.lt_of_le_of_lt l2 (Nat.lt_of_le_of_lt hY (by decide))))))
        intro g3 T3
        have hRL2 := hRL.push (j := j) tk
        rw [← hkk,← ek1] at hRL2
        wtm_at "go"
        split
        · rename_i hq3
          have hq3 : bst.1 < kk := by have := of_decide_eq_true hq3; lia -zetaDelta
          have hup : (js ++ [j]).foldl (fun b j=>upG (bk X Y i1 j1) (fun k=>k - 1) b (i1 + ii) j) (allG (bk X Y i1 j1) (fun k=>k - 1) i1 j1 (j2 - j1) ii) = (kk,i1 + ii - (kk - 1),j - (kk - 1)) := by
            rw [List.foldl_append,← hbst]
            rw [List.foldl_cons,List.foldl_nil]
            unfold upG
            rw [← hkk,if_pos hq3]
          wtm_at "go"
          refine' W_AssignSwap (names := [Str.ofString "besti",Str.ofString "bestj",Str.ofString "bestsize"]) ?_ ?y1 ?y2
          case y1=>rfl
          case y2=>rw [henv]; kernel_rfl
          wtm_at "go"
          wtm_at "new"
          intro tu2 g4 _ _ K4' T4
          have ei1 : ((i1 + ii : Nat) : Int) - (((kk - 1 : Nat) : Int) + 1) + 1 = ((i1 + ii - (kk - 1) : Nat) : Int) := by lia -zetaDelta
          have ej1 : ((j:Nat) : Int) - (((kk - 1 : Nat) : Int) + 1) + 1 = ((j - (kk - 1) : Nat) : Int) := by lia -zetaDelta
          refine U_tuple (R'.le (by lia -zetaDelta)) (T4.mm (by wtm_at "mem")) rfl ?_
          intro g5 K5'
          have T5 := (T4.keeps K5').drop
          wtm_at "rev"
          wtm_at "go"
          rename_i T6
          refine' ⟨_,_,_,⟨_,_,_,_,_,_,?q1,rfl,?q2,rfl⟩,T6⟩
          case q1=>rw [hft,hup]; show _ = mB1 ((i1 + ii - (kk - 1) : Nat) : Int) _ ((j - (kk - 1) : Nat) : Int) _ ((kk:Nat) : Int) _ _ _ _ _ _ _; rw [← ei1,← ej1,← ek1]; try rfl
          case q2=>rw [hft]; exact hRL2
        · rename_i hq3
          have hq3 : ¬ bst.1 < kk := fun hh=>hq3 (decide_eq_true (by lia -zetaDelta))
          have hup : (js ++ [j]).foldl (fun b j=>upG (bk X Y i1 j1) (fun k=>k - 1) b (i1 + ii) j) (allG (bk X Y i1 j1) (fun k=>k - 1) i1 j1 (j2 - j1) ii) = bst := by
            rw [List.foldl_append,← hbst]
            rw [List.foldl_cons,List.foldl_nil]
            unfold upG
            rw [← hkk,if_neg hq3]
          wtm_at "go"
          refine' ⟨_,_,_,⟨_,_,_,_,_,_,?q1,rfl,?q2,rfl⟩,T3⟩
          case q1=>rw [hft,hup]
          case q2=>rw [hft]; exact hRL2
      · rintro m N M g ⟨kvn,tb0,tb1,tb2,u4,u5,rfl,rfl,hRL,rfl⟩ S
        rw [hvl,List.take_of_length_le (Nat.le_refl _)] at hRL S
        exact ⟨rfl,kvn,tb0,tb1,tb2,u4,u5,hRL,S⟩
    · rintro f g6 ⟨rfl,kvn,tb0,tb1,tb2,u4,u5,hRL,S6⟩
      rw [row_places h4 h3] at S6
      have hac : rowG (bk X Y i1 j1) (fun k=>k - 1) j1 (allG (bk X Y i1 j1) (fun k=>k - 1) i1 j1 (j2 - j1) ii) (i1 + ii) (j2 - j1) = allG (bk X Y i1 j1) (fun k=>k - 1) i1 j1 (j2 - j1) (ii + 1) := allG_succ.symm
      rw [hac] at S6
      refine S6.letm ?_; clear S6; intro mS MS S6
      wtm_at "go"
      rename_i g7 S7
      refine' ⟨_,_,_,⟨dn,kvn,tb0,tb1,tb2,_,_,_,_,_,rfl,rfl,?q3,hdn,rfl⟩,S7.pick (M' := (I,RI (i1:Nat) (((i2:Nat) : Int) - (i1:Nat)).toNat (ii + 1)) :: (MB kvn dn)) [1,0,4,5] (by decide) rfl⟩
      case q3=>exact ⟨fun h=>absurd h (Nat.succ_ne_zero _),fun _=>by rw [show i1 + (ii + 1) - 1 = i1 + ii by lia -zetaDelta]; exact hRL⟩
  · rintro m N M g ⟨dp,kvs,tb0,tb1,tb2,u1,u2,u3,u4,u5,rfl,rfl,_,_,rfl⟩ S
    rw [en,dp_same h1 h2 h3 h4] at S
    obtain ⟨B,hB⟩ : ∃ B,B = allB X Y i1 i2 j1 j2 (i2 - i1) := ⟨_,rfl⟩
    rw [← hB] at S
    have hin := allB_in (X := X) (Y := Y) (n := i2 - i1) h2 h4 h1 h3 (by lia -zetaDelta)
    rw [← hB] at hin
    have na := no_ahead h1 h2 h3 h4 hB hin
    have nb := no_behind h1 h2 h3 h4 hB
    unfold InW at hin
    obtain ⟨Bk,Bi,Bj⟩ := B
    dsimp only at S hin na nb ⊢
    have hBX : Bi ≤ X.length := Nat.le_trans (Nat.le_trans (Nat.le_add_right _ _) hin.2.1) h2
    have hBY : Bj ≤ Y.length := Nat.le_trans (Nat.le_trans (Nat.le_add_right _ _) hin.2.2.2) h4
    have hbS : ∀ {m':List (Str × Option Value)} {N':Pt} {M':List (Addr × OP)} {g':Heap},St h.get? h.objs.size env m' N' M' g' → At g'.get? sj (KO (((b2jF Y).map (·.1)).filter fun y=>!keptB y)) := fun S=>S.kk hs
    let Qz4 : Flow → Heap → Prop := fun f h'=>(f = .next) ∧ E3 fun tb0 tb1 tb2=>St h.get? h.objs.size env (mB1 Bi tb0 Bj tb1 Bk tb2 (some (Value.ref dp)) u1 u2 u3 u4 u5) (fun _=>none) ((MB kvs dp)) h'
    let Jw1 : Nat → Heap → Prop := fun _ h'=>E3 fun tb0 tb1 tb2=>St h.get? h.objs.size env (mB1 Bi tb0 Bj tb1 Bk tb2 (some (Value.ref dp)) u1 u2 u3 u4 u5) (fun _=>none) ((MB kvs dp)) h'
    refine W_cons (WP.mono (Q := Qz4) (W_While Jw1 0 ⟨tb0,tb1,tb2,S⟩ ?_) ?_)
    · rintro _ g ⟨tb0,tb1,tb2,S⟩
      refine S.letm ?_; clear S; intro mS MS S
      wtm_at "go"
      split
      case isFalse q1=>(rw [if_neg Bool.false_ne_true]; exact ⟨rfl,tb0,tb1,tb2,S⟩)
      rename_i q1
      wtm_at "go"
      split
      case isFalse q2=>(rw [if_neg Bool.false_ne_true]; exact ⟨rfl,tb0,tb1,tb2,S⟩)
      rename_i q2
      simp only [decide_eq_true_eq] at q1 q2
      have m1 : 0 < Bi := Nat.lt_of_le_of_lt (Nat.zero_le _) (Int.ofNat_lt.mp q1)
      have m2 : 0 < Bj := Nat.lt_of_le_of_lt (Nat.zero_le _) (Int.ofNat_lt.mp q2)
      have l1 : Bi - 1 < X.length := Nat.lt_of_lt_of_le (Nat.sub_lt m1 Nat.one_pos) hBX
      have l2 : Bj - 1 < Y.length := Nat.lt_of_lt_of_le (Nat.sub_lt m2 Nat.one_pos) hBY
      obtain ⟨ty,hyv⟩ := getI hj (i := Bj - 1) l2
      obtain ⟨tx,hxv⟩ := getI hi (i := Bi - 1) l1
      have ux := idxOk (show ((Bi:Nat) : Int) - 1 = ((Bi - 1 : Nat) : Int) from (Int.ofNat_sub m1).symm)
      have uy := idxOk (show ((Bj:Nat) : Int) - 1 = ((Bj - 1 : Nat) : Int) from (Int.ofNat_sub m2).symm)
      wtm_at "go"
      refine O_item (S.kk hb) uy.1 (by rw [uy.2]; exact hyv) zY ?_ (by with_unfolding_all rfl)
      wtm_at "go"
      refine And.intro (Kp_bm (S.mm (by wtm_at "mem"))) ?_
      refine O_bcontains (S.mm (by wtm_at "mem")) (hbS S) ?_
      rw [junk_mem l2]
      wtm_at "go"
      split
      case isFalse q3=>(rw [if_neg Bool.false_ne_true]; exact ⟨rfl,tb0,tb1,tb2,S⟩)
      rename_i q3
      wtm_at "go"
      refine O_item (S.kk ha) ux.1 (by rw [ux.2]; exact hxv) zX ?_ (by with_unfolding_all rfl)
      wtm_at "go"
      refine O_item (S.kk hb) uy.1 (by rw [uy.2]; exact hyv) zY ?_ (by with_unfolding_all rfl)
      wtm_at "go"
      clear ux uy
      split
      · rename_i q4
        exfalso
        simp only [Bool.not_not,beq_iff_eq] at q3 q4
        exact na (Int.ofNat_lt.mp q1) (Int.ofNat_lt.mp q2) (eqk_of q4 q3)
      · wtm_at "go"
        rw [if_neg Bool.false_ne_true]; exact ⟨rfl,tb0,tb1,tb2,S⟩
    rintro f g1 ⟨rfl,tb0,tb1,tb2,S⟩
    refine S.letm ?_; clear S; intro mS MS S
    try dsimp only
    let Qz5 : Flow → Heap → Prop := fun f h'=>(f = .next) ∧ E3 fun tb0 tb1 tb2=>St h.get? h.objs.size env (mB1 Bi tb0 Bj tb1 Bk tb2 (some (Value.ref dp)) u1 u2 u3 u4 u5) (fun _=>none) ((MB kvs dp)) h'
    let Jw2 : Nat → Heap → Prop := fun _ h'=>E3 fun tb0 tb1 tb2=>St h.get? h.objs.size env (mB1 Bi tb0 Bj tb1 Bk tb2 (some (Value.ref dp)) u1 u2 u3 u4 u5) (fun _=>none) ((MB kvs dp)) h'
    refine W_cons (WP.mono (Q := Qz5) (W_While Jw2 0 ⟨tb0,tb1,tb2,S⟩ ?_) ?_)
    · rintro _ g ⟨tb0,tb1,tb2,S⟩
      refine S.letm ?_; clear S; intro mS MS S
      wtm_at "go"
      split
      case isFalse q1=>(rw [if_neg Bool.false_ne_true]; exact ⟨rfl,tb0,tb1,tb2,S⟩)
      rename_i q1
      wtm_at "go"
      split
      case isFalse q2=>(rw [if_neg Bool.false_ne_true]; exact ⟨rfl,tb0,tb1,tb2,S⟩)
      rename_i q2
      simp only [decide_eq_true_eq] at q1 q2
      obtain ⟨ty,hyv⟩ := getI hj (i := Bj + Bk) (by lia -zetaDelta)
      obtain ⟨tx,hxv⟩ := getI hi (i := Bi + Bk) (by lia -zetaDelta)
      have ux := idxOk (show ((Bi:Nat) : Int) + ((Bk:Nat) : Int) = ((Bi + Bk : Nat) : Int) from rfl)
      have uy := idxOk (show ((Bj:Nat) : Int) + ((Bk:Nat) : Int) = ((Bj + Bk : Nat) : Int) from rfl)
      wtm_at "go"
      refine O_item (S.kk hb) uy.1 (by rw [uy.2]; exact hyv) zY ?_ (by with_unfolding_all rfl)
      wtm_at "go"
      refine And.intro (Kp_bm (S.mm (by wtm_at "mem"))) ?_
      refine O_bcontains (S.mm (by wtm_at "mem")) (hbS S) ?_
      rw [junk_mem (by lia -zetaDelta)]
      wtm_at "go"
      split
      case isFalse q3=>(rw [if_neg Bool.false_ne_true]; exact ⟨rfl,tb0,tb1,tb2,S⟩)
      rename_i q3
      wtm_at "go"
      refine O_item (S.kk ha) ux.1 (by rw [ux.2]; exact hxv) zX ?_ (by with_unfolding_all rfl)
      wtm_at "go"
      refine O_item (S.kk hb) uy.1 (by rw [uy.2]; exact hyv) zY ?_ (by with_unfolding_all rfl)
      wtm_at "go"
      clear ux uy
      split
      · rename_i q4
        exfalso
        simp only [Bool.not_not,beq_iff_eq] at q3 q4
        exact nb (by lia -zetaDelta) (by lia -zetaDelta) (eqk_of q4 q3)
      · wtm_at "go"
        rw [if_neg Bool.false_ne_true]; exact ⟨rfl,tb0,tb1,tb2,S⟩
    rintro f g1 ⟨rfl,tb0,tb1,tb2,S⟩
    refine S.letm ?_; clear S; intro mS MS S
    try dsimp only
    obtain ⟨ah,hah⟩ : ∃ ah,AhIs X Y i1 j1 Bi Bj ah := ⟨_,rfl⟩
    obtain ⟨be,hbe⟩ : ∃ be,BeIs X Y i2 j2 (Bi + Bk) (Bj + Bk) be := ⟨_,rfl⟩
    obtain ⟨hal1,hal2⟩ : i1 + ah ≤ Bi ∧ j1 + ah ≤ Bj := by
      have h := topT_lt (n := min (Bi - i1) (Bj - j1) + 1) (p := aheadP X Y Bi Bj) (Nat.succ_pos _)
      rw [← show ah = _ from hah] at h
      obtain ⟨a,b⟩ := Nat.le_min.mp (Nat.le_of_lt_succ h)
      exact ⟨Nat.add_le_of_le_sub' hin.1 a,Nat.add_le_of_le_sub' hin.2.2.1 b⟩
    let Qz6 : Flow → Heap → Prop := fun f h'=>(f = .next) ∧ E3 fun tb0 tb1 tb2=>St h.get? h.objs.size env (mB1 ((Bi - ah : Nat) : Int) tb0 ((Bj - ah : Nat) : Int) tb1 ((Bk + ah : Nat) : Int) tb2 (some (Value.ref dp)) u1 u2 u3 u4 u5) (fun _=>none) ((MB kvs dp)) h'
    let Jw3 : Nat → Heap → Prop := fun nn h'=>E4 fun t tb0 tb1 tb2=>C5 (nn = (Bi - i1) - t) (i1 + t ≤ Bi) (j1 + t ≤ Bj) (aheadP X Y Bi Bj t = true) (St h.get? h.objs.size env (mB1 ((Bi - t : Nat) : Int) tb0 ((Bj - t : Nat) : Int) tb1 ((Bk + t : Nat) : Int) tb2 (some (Value.ref dp)) u1 u2 u3 u4 u5) (fun _=>none) ((MB kvs dp)) h')
    refine W_cons (WP.mono (Q := Qz6) (W_While Jw3 (Bi - i1) ⟨0,tb0,tb1,tb2,rfl,by lia -zetaDelta,by lia -zetaDelta,aheadP_zero,S⟩ ?_) ?_)
    · rintro nn g ⟨t,tb0,tb1,tb2,rfl,g1,g2,g3,S⟩
      refine S.letm ?_; clear S; intro mS MS S
      wtm_at "go"
      split
      case isFalse q1=>(have et := Eq.trans hah (top_ahead hBX hBY g1 g2 g3 (fun hc=>q1 (by rw [decide_eq_true_eq]; exact Int.ofNat_lt.mpr (Nat.lt_sub_of_add_lt hc.1)))); rw [if_neg Bool.false_ne_true]; show _ ∧ _; rw [et]; exact ⟨rfl,tb0,tb1,tb2,S⟩)
      rename_i q1
      wtm_at "go"
      split
      case isFalse q2=>(have et := Eq.trans hah (top_ahead hBX hBY g1 g2 g3 (fun hc=>q2 (by rw [decide_eq_true_eq]; exact Int.ofNat_lt.mpr (Nat.lt_sub_of_add_lt hc.2.1)))); rw [if_neg Bool.false_ne_true]; show _ ∧ _; rw [et]; exact ⟨rfl,tb0,tb1,tb2,S⟩)
      rename_i q2
      simp only [decide_eq_true_eq] at q1 q2
      have w1 : i1 + t < Bi := Nat.add_lt_of_lt_sub (Int.ofNat_lt.mp q1)
      have w2 : j1 + t < Bj := Nat.add_lt_of_lt_sub (Int.ofNat_lt.mp q2)
      have m1 : 0 < Bi - t := Nat.lt_of_le_of_lt (Nat.zero_le _) (Int.ofNat_lt.mp q1)
      have m2 : 0 < Bj - t := Nat.lt_of_le_of_lt (Nat.zero_le _) (Int.ofNat_lt.mp q2)
      have l1 : Bi - t - 1 < X.length := Nat.lt_of_lt_of_le (Nat.sub_lt m1 Nat.one_pos) (Nat.le_trans (Nat.sub_le _ _) hBX)
      have l2 : Bj - t - 1 < Y.length := Nat.lt_of_lt_of_le (Nat.sub_lt m2 Nat.one_pos) (Nat.le_trans (Nat.sub_le _ _) hBY)
      obtain ⟨ty,hyv⟩ := getI hj (i := Bj - t - 1) l2
      obtain ⟨tx,hxv⟩ := getI hi (i := Bi - t - 1) l1
      have ux := idxOk (show ((Bi - t : Nat) : Int) - 1 = ((Bi - t - 1 : Nat) : Int) from (Int.ofNat_sub m1).symm)
      have uy := idxOk (show ((Bj - t : Nat) : Int) - 1 = ((Bj - t - 1 : Nat) : Int) from (Int.ofNat_sub m2).symm)
      wtm_at "go"
      refine O_item (S.kk hb) uy.1 (by rw [uy.2]; exact hyv) zY ?_ (by with_unfolding_all rfl)
      wtm_at "go"
      refine And.intro (Kp_bm (S.mm (by wtm_at "mem"))) ?_
      refine O_bcontains (S.mm (by wtm_at "mem")) (hbS S) ?_
      rw [junk_mem l2]
      wtm_at "go"
      split
      case isFalse q3=>(clear ux uy; have et := Eq.trans hah (top_ahead hBX hBY g1 g2 g3 (fun hc=>q3 (by rw [(eqj_to hc.2.2).2]; rfl))); rw [if_neg Bool.false_ne_true]; show _ ∧ _; rw [et]; exact ⟨rfl,tb0,tb1,tb2,S⟩)
      rename_i q3
      wtm_at "go"
      refine O_item (S.kk ha) ux.1 (by rw [ux.2]; exact hxv) zX ?_ (by with_unfolding_all rfl)
      wtm_at "go"
      refine O_item (S.kk hb) uy.1 (by rw [uy.2]; exact hyv) zY ?_ (by with_unfolding_all rfl)
      wtm_at "go"
      clear ux uy
      split
      · rename_i q4
        simp only [Bool.not_eq_true',beq_iff_eq] at q3 q4
        wtm_at "go"
        rw [if_pos rfl]
        unfold Turn
        wtm_at "go"
        refine' W_AssignSwap (names := [Str.ofString "besti",Str.ofString "bestj",Str.ofString "bestsize"]) ?_ ?y1 ?y2
        case y1=>rfl
        case y2=>rw [henv]; kernel_rfl
        wtm_at "go"
        wtm_at "new"
        intro tu2 g4 _ _ K4' T4
        have ei1 : ((Bi - t : Nat) : Int) - 1 = ((Bi - (t + 1) : Nat) : Int) := (Int.ofNat_sub m1).symm
        have ej1 : ((Bj - t : Nat) : Int) - 1 = ((Bj - (t + 1) : Nat) : Int) := (Int.ofNat_sub m2).symm
        refine U_tuple (R'.le (by lia -zetaDelta)) (T4.mm (by wtm_at "mem")) rfl ?_
        intro g5 K5'
        have T5 := (T4.keeps K5').drop
        wtm_at "rev"
        wtm_at "go"
        rename_i T6
        exact ⟨_,(Nat.sub_succ_lt_self _ _ (Nat.lt_sub_of_add_lt (Nat.add_comm i1 t ▸ w1)) : (Bi - i1) - (t + 1) < (Bi - i1) - t),t + 1,_,_,_,rfl,w1,w2,by rw [aheadP_succ (Nat.lt_of_le_of_lt (Nat.le_add_left _ _) w1) (Nat.lt_of_le_of_lt (Nat.le_add_left _ _) w2) hBX hBY,eqj_of q4 q3,g3]; rfl,T6.eqm (by rw [← ei1,← ej1]; try rfl)⟩
      · rename_i q4
        have et := Eq.trans hah (top_ahead hBX hBY g1 g2 g3 (fun hc=>q4 (by rw [beq_iff_eq]; exact (eqj_to hc.2.2).1)))
        wtm_at "go"
        rw [if_neg Bool.false_ne_true]; show _ ∧ _; rw [et]; exact ⟨rfl,tb0,tb1,tb2,S⟩
    rintro f g1 ⟨rfl,tb0,tb1,tb2,S⟩
    refine S.letm ?_; clear S; intro mS MS S
    try dsimp only
    let Qz7 : Flow → Heap → Prop := fun f h'=>(f = .next) ∧ E3 fun tb0 tb1 tb2=>St h.get? h.objs.size env (mB1 ((Bi - ah : Nat) : Int) tb0 ((Bj - ah : Nat) : Int) tb1 ((Bk + ah + be : Nat) : Int) tb2 (some (Value.ref dp)) u1 u2 u3 u4 u5) (fun _=>none) ((MB kvs dp)) h'
    let Jw4 : Nat → Heap → Prop := fun nn h'=>E4 fun t tb0 tb1 tb2=>C5 (nn = (i2 - (Bi + Bk)) - t) (Bi + Bk + t ≤ i2) (Bj + Bk + t ≤ j2) (behindP X Y (Bi + Bk) (Bj + Bk) t = true) (St h.get? h.objs.size env (mB1 ((Bi - ah : Nat) : Int) tb0 ((Bj - ah : Nat) : Int) tb1 ((Bk + ah + t : Nat) : Int) tb2 (some (Value.ref dp)) u1 u2 u3 u4 u5) (fun _=>none) ((MB kvs dp)) h')
    refine W_cons (WP.mono (Q := Qz7) (W_While Jw4 (i2 - (Bi + Bk)) ⟨0,tb0,tb1,tb2,rfl,by lia -zetaDelta,by lia -zetaDelta,behindP_zero,S⟩ ?_) ?_)
    · rintro nn g ⟨t,tb0,tb1,tb2,rfl,g1,g2,g3,S⟩
      refine S.letm ?_; clear S; intro mS MS S
      wtm_at "go"
      split
      case isFalse q1=>(have et := Eq.trans hbe (top_behind h2 h4 g1 g2 g3 (fun hc=>q1 (by rw [decide_eq_true_eq]; lia -zetaDelta))); rw [if_neg Bool.false_ne_true]; show _ ∧ _; rw [et]; exact ⟨rfl,tb0,tb1,tb2,S⟩)
      rename_i q1
      wtm_at "go"
      split
      case isFalse q2=>(have et := Eq.trans hbe (top_behind h2 h4 g1 g2 g3 (fun hc=>q2 (by rw [decide_eq_true_eq]; lia -zetaDelta))); rw [if_neg Bool.false_ne_true]; show _ ∧ _; rw [et]; exact ⟨rfl,tb0,tb1,tb2,S⟩)
      rename_i q2
      simp only [decide_eq_true_eq] at q1 q2
      obtain ⟨ty,hyv⟩ := getI hj (i := Bj + Bk + t) (by lia -zetaDelta)
      obtain ⟨tx,hxv⟩ := getI hi (i := Bi + Bk + t) (by lia -zetaDelta)
      have ux := idxOk (show ((Bi - ah : Nat) : Int) + ((Bk + ah + t : Nat) : Int) = ((Bi + Bk + t : Nat) : Int) from by lia -zetaDelta)
      have uy := idxOk (show ((Bj - ah : Nat) : Int) + ((Bk + ah + t : Nat) : Int) = ((Bj + Bk + t : Nat) : Int) from by lia -zetaDelta)
      wtm_at "go"
      refine O_item (S.kk hb) uy.1 (by rw [uy.2]; exact hyv) zY ?_ (by with_unfolding_all rfl)
      wtm_at "go"
      refine And.intro (Kp_bm (S.mm (by wtm_at "mem"))) ?_
      refine O_bcontains (S.mm (by wtm_at "mem")) (hbS S) ?_
      rw [junk_mem (by lia -zetaDelta)]
      wtm_at "go"
      split
      case isFalse q3=>(clear ux uy; have et := Eq.trans hbe (top_behind h2 h4 g1 g2 g3 (fun hc=>q3 (by rw [(eqj_to hc.2.2).2]; rfl))); rw [if_neg Bool.false_ne_true]; show _ ∧ _; rw [et]; exact ⟨rfl,tb0,tb1,tb2,S⟩)
      rename_i q3
      wtm_at "go"
      refine O_item (S.kk ha) ux.1 (by rw [ux.2]; exact hxv) zX ?_ (by with_unfolding_all rfl)
      wtm_at "go"
      refine O_item (S.kk hb) uy.1 (by rw [uy.2]; exact hyv) zY ?_ (by with_unfolding_all rfl)
      wtm_at "go"
      clear ux uy
      split
      · rename_i q4
        simp only [Bool.not_eq_true',beq_iff_eq] at q3 q4
        wtm_at "go"
        rw [if_pos rfl]
        unfold Turn
        wtm_at "go"
        rename_i T6
        exact ⟨_,(by lia -zetaDelta : (i2 - (Bi + Bk)) - (t + 1) < (i2 - (Bi + Bk)) - t),t + 1,_,_,_,rfl,by lia -zetaDelta,by lia -zetaDelta,by rw [behindP_succ (by lia -zetaDelta) (by lia -zetaDelta),eqj_of q4 q3,g3]; rfl,T6⟩
      · rename_i q4
        have et := Eq.trans hbe (top_behind h2 h4 g1 g2 g3 (fun hc=>q4 (by rw [beq_iff_eq]; exact (eqj_to hc.2.2).1)))
        wtm_at "go"
        rw [if_neg Bool.false_ne_true]; show _ ∧ _; rw [et]; exact ⟨rfl,tb0,tb1,tb2,S⟩
    rintro f g1 ⟨rfl,tb0,tb1,tb2,S⟩
    rw [show Bk + ah + be = ah + Bk + be by lia -zetaDelta] at S
    refine S.letm ?_; clear S; intro mS MS S
    try dsimp only
    have eb : blockF X Y i1 i2 j1 j2 = (Bi - ah,Bj - ah,ah + Bk + be) := by
      unfold blockF
      rw [← hB]
      try dsimp only
      rw [← show ah = _ from hah,← show be = _ from hbe]
    rw [eb] at k
    wtm_at "go"
    refine And.intro (Kp_match (Z.up S.keep)) ?_
    refine O_match (n := n) (Z.up S.keep) (R'.le (Nat.le_of_lt (Nat.add_lt_add_left (by decide) _))) ?_
    intro y h' hbn
    wtm_at "f"
    exact k y h' _ _ _ (hbn.after S.keep)
end flm_specN
theorem flm_spec : flm_specN.TT := flm_specN.PP.2 fun h n x dx d X Y T i1 i2 j1 j2 Q L env A' h₁=>flm_specN.SS.2 flm_specN.main ((((((((((((((((h,n),x),dx),d),X),Y),T),i1),i2),j1),j2),Q),L),env),A'),h₁)
end
section
theorem pk22 : peek (KM w.params) ⟨(model prg w).prog,(model prg w).w.params⟩ (typeLookup (.ref 135) (Str.ofString "__len__")) = some (some (.builtin "tuple.__len__")) := by kernel_rfl
section
variable {A:Around} {h:Heap} {n:Nat}
theorem O_lenM {x:Addr} {vs:List Value} {Q:Value → Heap → Prop} (Z:Stat h.get?) (hx:At h.get? x (MV vs)) (hz:vs.length ≤ 100) (q:∀ t,Q (.int (vs.length : Nat) t) h) : WP A (call (.builtin "len") [.ref x]) Q h :=
  WP_lib fun s e=>by
    subst e
    have X := Z.inn
    refine call_function_entry kind_len plain_len entry_len (args_len1 _) ?_
    unfold Builtin.«len»
    refine wpAny_bind (m := oneArg "len" _) (wpAny_pure ?_)
    have hsp : Looks (model prg w) s.heap (specialOf (.ref x) (Str.ofString "__len__")) (some (.builtin "tuple.__len__")) := (MV.looks hx).andThen (Looks.of_peek X (pk22))
    refine wpAny_bind (m := callSpecial? (.ref x) (Str.ofString "__len__")) ?_
    simp only [callSpecial?]
    refine wpAny_bind (hsp.here ?_)
    simp only [F.slot_tuple_len.bind]
    refine wpAny_holding (wpAny_bind (wpAny_pure (wpAny_bind ?_)))
    show wpAny _ _ (call (.builtin "tuple.__len__") [.ref x]) _ _ _
    refine callM X hx F.slot_tuple_len (by decide +kernel) (by decide +kernel) F.entry_tuple_len (F.args_tuple_len_1 _) ?_
    obtain ⟨o,ho,d,hP⟩ := hx
    show wpAny _ _ (do retInt (← Builtin.Tuple.tupleItemsOf (.ref x)).size) _ _ s
    refine wpAny_bind (wpAny_tupleItemsOf ho (by rw [hP]) ?_)
    refine wpAny_bind (wpAny_mkInt (wpAny_pure ?_))
    refine wpAny_pure ?_
    refine wpAny_bind (wpAny_holding (wpAny_pure ?_))
    refine wpAny_bind (wpAny_letGo ?_)
    rw [List.size_toArray]
    show wpAny _ _ (if ((vs.length : Nat) : Int) < 0 then _ else _) _ _ _
    rw [if_neg (by lia)]
    show wpAny _ _ (if ((vs.length : Nat) : Int) ≥ 2 ^ 63 then _ else _) _ _ _
    rw [if_neg (by lia)]
    exact wpAny_bind (wpAny_mkInt (wpAny_pure ⟨_,rfl,_,_,rfl,q _⟩))
theorem enterCC {name qual:Str} {params:Arguments} {body:List Stmt} {scope:Scope} {dV kV doc pm cdv ct oc:Value} {an od:Option Addr} {osl:Array (Option Value)} {f:Addr} {args:Args} {binds:List (Str × Value)} {rest:List Str} {gl:List (Str × Value)} {m:List (Str × Option Value)} {Q:Value → Heap → Prop}
    (Z:Stat h.get?) (R:Rm A (n + 1))
    (ho:(KM w.params).lookup f = some ⟨oc,od,.func (fnOf name qual params body scope dV kV doc pm an cdv ct),osl⟩) (hcd:codeIn (KM w.params) cdv qual = true)
    (hbind:∀ s : Shared,s.heap = h → BindsTo s (fnOf name qual params body scope dV kV doc pm an cdv ct) args binds)
    (hsc:okScope scope (binds.map (·.1)) rest = true) (hgl:okGl scope gl = true)
    (hco:scope.isCoroutine = false) (hgen:scope.isGenerator = false) (hk:scope.kind = .function) (hcell:(scope.names.all fun x=>x.2 != .cell) = true)
    (hm:mk0 binds rest = m)
    (k:∀ L env A' h₁,env = envOf qual scope L f cdv → Rm A' n → Sc h.get? env [] gl → Keep h h₁ → St h.get? h.objs.size env m (fun _=>none) [] h₁ →
      WP A' (execs body env) (RetQ Q) h₁) : CallWP A (.ref f) args Q h := by
  intro s tk
  have hsc' := hsc
  simp only [okScope,Bool.and_eq_true,List.all_eq_true,beq_iff_eq,decide_eq_true_eq] at hsc
  obtain ⟨⟨hl,hnd⟩,hdb⟩ := hsc
  have hdb : scope.names.lookup ("__debug__" : Str) = none := by simpa using hdb
  have hlb : ∀ y ∈ binds,scope.names.lookup y.1 = some .local := fun y hy=>hl y.1 (List.mem_append_left _ (List.mem_map_of_mem hy))
  have Z0 := Z
  refine codeAny_call_def (fd := fnOf name qual params body scope dV kV doc pm an cdv ct) (body := body) (binds := binds) R.room (Z0.inn _ _ ho) rfl Z0.nolimit (codeRec_of Z0.inn hcd) rfl (hbind _ rfl) (fun x hx=>by simpa using List.all_eq_true.mp hcell x hx) hlb (fun h₁ hns hk₁=>?_) hco hgen hk
  have S : St h.get? h.objs.size (envOf qual scope h.objs.size f cdv) (mk0 binds rest) (fun _=>none) [] h₁ := by
    refine ⟨hk,?_,?_,⟨_,hns,?_⟩,hk₁,(fun _ _ e=>nomatch e),(fun _ hp=>nomatch hp),Nat.le_refl _,(fun _ _ e=>nomatch e),get?_size_none h,rfl,(fun _ hp=>nomatch hp),(fun _ hp=>nomatch hp),by simp⟩
    · intro p hp
      refine hl p.1 ?_
      rw [← mk0_keys]; exact List.mem_map_of_mem hp
    · rw [mk0_keys]; exact hnd
    · intro p hp v hv
      unfold mk0 at hp
      rcases List.mem_append.mp hp with hp | hp
      · obtain ⟨q,hq,rfl⟩ := List.mem_map.mp hp
        cases hv
        exact lookup_reverse_of_nodup (List.nodup_append.mp hnd).1 hq
      · obtain ⟨x,_,rfl⟩ := List.mem_map.mp hp
        cases hv
  refine wpAny_mono (k h.objs.size (envOf qual scope h.objs.size f cdv) _ h₁ rfl R.deeper ⟨hdb,rfl,rfl,(fun _ hp=>nomatch hp),okGl.sc Z hgl⟩ hk₁ ((hm ▸ S)) s _) (fun fl s' ⟨h',tk',e,q⟩=>?_) fun _ _ x=>x.elim
  cases fl <;> exact ⟨h',tk',e,q⟩
theorem make_spec {t:Addr} {a b c:Value} {Q:Value → Heap → Prop} (Z:Stat h.get?) (R:Rm A (n + 3)) (ht:At h.get? t (TO [a,b,c])) (k:∀ x h',Bn h x (MV [a,b,c]) h' → Q (.ref x) h') : CallWP A (.ref 89) ⟨[.ref 135,.ref t],[]⟩ Q h := by
  apply enterCC (args := ⟨[.ref 135,.ref t],[]⟩) (binds := [(Str.ofString "cls",.ref 135),(Str.ofString "iterable",.ref t)]) (rest := [Str.ofString "result"]) (gl := [(Str.ofString "tuple",.type "tuple"),(Str.ofString "len",.builtin "len")]) Z R
  wtm_at "ent"
  intro L env A' h₁ henv R' C K₁ S
  refine S.letm ?_; clear S; intro mS MS S
  wtm_at "go"
  with_reducible refine M_tuplenew (Z.up S.keep) ?_
  wtm_at "go"
  wtm_at "kp"
  show WP _ (call (.builtin "tuple.__new__") [.ref 135,.ref _]) _ _
  with_reducible refine O_tnew (Z.up S.keep) (S.kk ht) (by simp) ?_
  intro x h3 b3
  have S3 := S.bornB b3
  have b4 := b3.after S.keep
  clear S
  wtm_at "go"
  wtm_at "kp"
  rename_i S4
  refine O_lenM (Z.up S4.keep) (S4.mm (by wtm_at "mem")) (by simp) ?_
  intro tl
  wtm_at "go"
  rw [show ((([a,b,c] : List Value).length : Int) != 3) = false from rfl]
  wtm_at "gb"
  wtm_at "f"
  exact k x _ ⟨S4.keep,b4.above,S4.mm (by wtm_at "mem")⟩
end
noncomputable def MB (f C:Addr) : OP := fun o=>o = methodObj (.ref f) (.ref C)
section
variable {A:Around} {h:Heap} {n:Nat}
theorem rc91' (P:Params) : (match recIn (KM P) 91 "classmethod" with | some (v :: _)=>v == .ref 89 | _=>false) = true := by kernel_rfl
theorem rc91 (P:Params) : ∃ rest,recIn (KM P) 91 "classmethod" = some (.ref 89 :: rest) := by
  have e := rc91' P
  revert e
  cases recIn (KM P) 91 "classmethod" with
  | none=>intro e; cases e
  | some l =>
    cases l with
    | nil=>intro e; cases e
    | cons v r=>intro e; exact ⟨r,by rw [show v = .ref 89 from beq_iff_eq.mp e]⟩
theorem O_make89 {expr:Bool} {Q:Value → Heap → Prop} (Z:Stat h.get?) (q:∀ x h',New h x (MB 89 135) h' → Q (.ref x) h') : WP A (getAttr (.ref 135) (Str.ofString "_make") expr) Q h :=
  WP_lib fun s e=>by
    subst e
    have X := Z.inn
    obtain ⟨rest,hr⟩ := rc91 w.params
    exact cls_bind X (rd135 _) (fc2 _) (wpAny_call (cm_get (s := { s with toks := s.toks + 1 }) X hr (handed_on rfl ⟨_,_,rfl,q _ _ (New.push _ rfl rfl)⟩)))
end
end
section
section
theorem entry_map_new : entryFor table "map.__new__" = some Builtin.«map.__new__» := entryFor_of_tree (by kernel_rfl)
theorem entry_map_next : entryFor table "map.__next__" = some Builtin.«map.__next__» := entryFor_of_tree (by kernel_rfl)
theorem sub_map : isSubtype (.type "map") (.type "map") = pure true := by rw [isSubtype_type]; kernel_rfl
theorem mro_map : mroOf (.type "map") = pure [.type "map",.type "object"] := by rw [mroOf_type]; kernel_rfl
theorem lookup_map_new : typeLookup (.type "map") "__new__" = pure (some (.builtin "map.__new__")) := by rw [typeLookup_type,builtinLookup_eq_fast]; kernel_rfl
theorem map_no_len : typeLookup (.type "map") (Str.ofString "__len__") = pure none := by rw [typeLookup_type,builtinLookup_eq_fast]; kernel_rfl
theorem map_no_hint : typeLookup (.type "map") (Str.ofString "__length_hint__") = pure none := by rw [typeLookup_type,builtinLookup_eq_fast]; kernel_rfl
theorem typeCall_map_2 (a b:Value) : checkTypeCall "map" ⟨[a,b],[]⟩ = pure () := by kernel_rfl
theorem newCall_map_2 (a b:Value) : checkBuiltinCall "map.__new__" ⟨[.type "map",a,b],[]⟩ = pure () := by kernel_rfl
theorem slot_map_init : Slot "map" "__init__" "object.__init__" :=
  .of (owner := "object") (n := "__init__") (by rw [typeLookup_type,builtinLookup_eq_fast]; kernel_rfl) (by decide +kernel) (by decide +kernel) (by decide +kernel)
    (by first | exact .inl (by decide +kernel) | exact .inr (by decide +kernel)) (by rw [isSubtype_type]; kernel_rfl)
theorem slot_map_iter : Slot "map" "__iter__" "map.__iter__" :=
  .of (owner := "map") (n := "__iter__") (by rw [typeLookup_type,builtinLookup_eq_fast]; kernel_rfl) (by decide +kernel) (by decide +kernel) (by decide +kernel)
    (by first | exact .inl (by decide +kernel) | exact .inr (by decide +kernel)) (by rw [isSubtype_type]; kernel_rfl)
theorem slot_map_next : Slot "map" "__next__" "map.__next__" :=
  .of (owner := "map") (n := "__next__") (by rw [typeLookup_type,builtinLookup_eq_fast]; kernel_rfl) (by decide +kernel) (by decide +kernel) (by decide +kernel)
    (by first | exact .inl (by decide +kernel) | exact .inr (by decide +kernel)) (by rw [isSubtype_type]; kernel_rfl)
theorem called_map : TypeCalled "map" "map.__new__" "object.__init__" :=
  ⟨by decide +kernel,by decide +kernel,⟨_,_,mro_map⟩,madeBy_type mro_map lookup_map_new (by decide +kernel),by decide +kernel,sub_map,slot_map_init⟩
theorem meets_map_new (f l:Addr) (items:Array Value) (n:Nat) :
    Meets (Builtin.«map.__new__» ⟨[.type "map",.ref f,.ref l],[]⟩) (fun _ R s=>s.heap.get? l = some { cls := .type "list",dict := none,data := .seq items n,slots := #[] } ∧
      R (.ok (.ret (.ref (s.heap.objs.size + 1 + 1)))) { s with heap := ((s.heap.push { cls := .type "list_iterator",data := .fields #[.ref l,.int 0 0] }).push { cls := .type "tuple",data := .seq #[.ref s.heap.objs.size] 0 }).push { cls := .type "map",data := .fields #[.ref (s.heap.objs.size + 1),.ref f] } }) := by
  refine .of_wp fun prog w A R s h=>?_
  obtain ⟨hp,g,d,tk,os⟩ := s; obtain ⟨hl,h⟩ := h
  have hsub := sub_map
  have hL : Heap.IsList (Shared.heap ⟨hp,g,d,tk,os⟩) l items := ⟨_,hl,rfl,n,rfl⟩
  wp_walk using AutoSeq1.wpAny_loadPart' hl,wpAny_pyIter_list hL
  refine ⟨_,rfl,?_⟩
  simp only [size_push']
  exact h
noncomputable def MP (f tt:Addr) : OP := fun o=>o = { cls := .type "map",data := .fields #[.ref tt,.ref f] }
end
section
variable {A:Around} {h:Heap}
theorem O_map {f l:Addr} {vs:List Value} {Q:Value → Heap → Prop} (hl:At h.get? l (LO vs)) (q:∀ mp tt it h',Keep h h' → h.objs.size ≤ it → it < tt → tt < mp → At h'.get? it (LI l 0) → At h'.get? tt (TO [.ref it]) → At h'.get? mp (MP f tt) → Q (.ref mp) h') : WP A (call (.type "map") [.ref f,.ref l]) Q h :=
  WP_lib fun s e=>by
    subst e
    obtain ⟨o,ho,n,rfl⟩ := hl
    refine callType_new called_map (by decide) (typeCall_map_2 _ _) (newCall_map_2 _ _) (fun obj=>F.args_object_init_3 obj _ _) entry_map_new (meets_map_new f l vs.toArray n) ⟨ho,?_⟩
    have z1 : (s.heap.push { cls := .type "list_iterator",data := .fields #[.ref l,.int 0 0] }).objs.size = s.heap.objs.size + 1 := Heap.size_push ..
    have z2 : ((s.heap.push { cls := .type "list_iterator",data := .fields #[.ref l,.int 0 0] }).push { cls := .type "tuple",data := .seq #[.ref s.heap.objs.size] 0 }).objs.size = s.heap.objs.size + 1 + 1 := by rw [Heap.size_push,z1]
    have g1 := Heap.get?_push_size s.heap (o := { cls := .type "list_iterator",data := .fields #[.ref l,.int 0 0] }) rfl
    have g2 := Heap.get?_push_size (s.heap.push { cls := .type "list_iterator",data := .fields #[.ref l,.int 0 0] }) (o := { cls := .type "tuple",data := .seq #[.ref s.heap.objs.size] 0 }) rfl
    have g3 := Heap.get?_push_size ((s.heap.push { cls := .type "list_iterator",data := .fields #[.ref l,.int 0 0] }).push { cls := .type "tuple",data := .seq #[.ref s.heap.objs.size] 0 }) (o := { cls := .type "map",data := .fields #[.ref (s.heap.objs.size + 1),.ref f] }) rfl
    rw [z1] at g2
    rw [z2] at g3
    refine ⟨⟨_,g3,rfl⟩,_,_,rfl,q _ (s.heap.objs.size + 1) s.heap.objs.size _ (fun b o e=>Heap.get?_push_of_some _ (Heap.get?_push_of_some _ (Heap.get?_push_of_some _ e))) (Nat.le_refl _) (Nat.lt_succ_self _) (Nat.lt_succ_self _) ?_ ?_ ⟨_,g3,rfl⟩⟩
    · exact ⟨_,Heap.get?_push_of_some _ (Heap.get?_push_of_some _ g1),rfl,rfl⟩
    · exact ⟨_,Heap.get?_push_of_some _ g2,0,rfl⟩
end
end
section
theorem owner_map' : Manifest.owners.lookup (String.ofList ['p','a','m'].reverse) = some Manifest.sig_map := by kernel_rfl
theorem args_map_next_1 (a:Value) : argsOk "map.__next__" ⟨[a],[]⟩ := by
  unfold argsOk; rw [signature?_of (id := "map.__next__") (n := ['_','_','t','x','e','n','_','_']) (o := ['p','a','m']) (by kernel_rfl) owner_map']; kernel_rfl
theorem map_next_item {A:Around} {s:Shared} {n:Nat} {mp tt it l t:Addr} {vs:List Value} {i:Nat} {a b c:Value} {Q:Option Value → Shared → Prop} {mb:Addr} (Z:Stat s.heap.get?) (R:Rm A (n + 6)) (hne:l ≠ it) (hmb:mb ≠ it) (htt:tt ≠ it) (hmp:mp ≠ it)
    (hP:At s.heap.get? mp (MP mb tt)) (hT:At s.heap.get? tt (TO [.ref it])) (hB:At s.heap.get? mb (MB 89 135)) (hI:At s.heap.get? it (LI l i)) (hl:At s.heap.get? l (LO vs)) (hv:vs[i]? = some (.ref t)) (ht:At s.heap.get? t (TO [a,b,c])) (hti:t ≠ it) (Z':∀ h',Heap.SameBut it s.heap h' → Stat h'.get?)
    (k:∀ x h1 h2 tk,Heap.SameBut it s.heap h1 → At h1.get? it (LI l (i + 1)) → Bn h1 x (MV [a,b,c]) h2 → Q (some (.ref x)) { s with heap := h2,toks := tk }) :
    wpAny (model prg w) A (pyNext (.ref mp)) Q (fun _ _=>False) s := by
  obtain ⟨o,ho,rfl⟩ := hP
  have hTy : s.TypeIs (.ref mp) "map" := ⟨_,ho,rfl⟩
  unfold pyNext
  refine wpAny_bind (wpAny_attempt (wpAny_callSpecial?_slot (name := Str.ofString "__next__") hTy slot_map_next
    (wpAny_call_entry slot_map_next hTy entry_map_next ?_ (args_map_next_1 _))))
  show wpAny _ _ (field (.ref mp) 0 >>= _) _ _ _
  refine wpAny_bind (wpAny_field ho rfl (x := .ref tt) rfl ?_)
  obtain ⟨ot,hot,nt,rfl⟩ := hT
  refine wpAny_bind (wpAny_seqItems hot rfl ?_)
  show wpAny _ _ (forIn #[Value.ref it] (#[] : Array Value) _ >>= _) _ _ _
  refine wpAny_bind ?_
  rw [← Array.forIn_toList]
  show wpAny _ _ (forIn [Value.ref it] (#[] : Array Value) _) _ _ _
  rw [List.forIn_cons]
  have hlt : i < vs.toArray.size := by simpa using (List.getElem?_eq_some_iff.mp hv).1
  refine wpAny_bind (wpAny_bind (wpAny_holding ((Draws.list (prog := prg) (w := w) (A := A.in1) R.h it l hne vs.toArray).item i _ _ _ hlt ⟨hI,LO.isList hl⟩ fun v h1 tk hvi hst hsb=>?_)))
  obtain rfl : v = .ref t := by have e := hvi; simp [hv] at e; exact e.symm
  refine wpAny_pure ?_
  dsimp only
  rw [List.forIn_nil]
  refine wpAny_pure ?_
  have up : ∀ {b:Addr} {P:OP},At s.heap.get? b P → b ≠ it → At h1.get? b P := fun {b P} x hb=>let ⟨o,ho,hP⟩ := x; ⟨o,(hsb.2 b hb).trans ho,hP⟩
  refine wpAny_bind (wpAny_field ((hsb.2 mp hmp).trans ho) rfl (x := .ref mb) rfl ?_)
  obtain ⟨om,hom,rfl⟩ := up hB hmb
  refine wpAny_bind (wpAny_holding (wpAny_call (method_call (f := .ref 89) (self := .ref 135) hom ?_)))
  have ms : CallWP A.in1 (.ref 89) ⟨[.ref 135,.ref t],[]⟩ (fun v h2=>∃ x,v = .ref x ∧ Bn h1 x (MV [a,b,c]) h2) h1 := make_spec (n := n) (Z' h1 hsb) (R.in1.le (by lia)) (up ht hti) fun x h2 bn=>⟨x,rfl,bn⟩
  refine codeAny_mono (ms s tk) fun r s' hr=>?_
  cases r with
  | error e=>exact hr.elim
  | ok f =>
    cases f with
    | ret v =>
      obtain ⟨h2,tk2,rfl,x,rfl,bn⟩ := hr
      refine wpAny_bind (wpAny_letGo (wpAny_pure ⟨_,rfl,wpAny_pure (k x h1 h2 tk2 hsb hst.1 bn)⟩))
    | next=>exact hr.elim
    | cont=>exact hr.elim
    | brk=>exact hr.elim
theorem map_next_end {A:Around} {s:Shared} {mp tt it l:Addr} {vs:List Value} {Q:Option Value → Shared → Prop} {mb:Addr} (R:Rm A 1) (hne:l ≠ it)
    (hP:At s.heap.get? mp (MP mb tt)) (hT:At s.heap.get? tt (TO [.ref it])) (hI:At s.heap.get? it (LI l vs.length)) (hl:At s.heap.get? l (LO vs))
    (k:∀ h',Heap.ExtBut it s.heap h' → Q none { s with heap := h' }) :
    wpAny (model prg w) A (pyNext (.ref mp)) Q (fun _ _=>False) s := by
  obtain ⟨o,ho,rfl⟩ := hP
  have hTy : s.TypeIs (.ref mp) "map" := ⟨_,ho,rfl⟩
  unfold pyNext
  refine wpAny_bind (wpAny_attempt (wpAny_callSpecial?_slot (name := Str.ofString "__next__") hTy slot_map_next
    (wpAny_call_entry slot_map_next hTy entry_map_next ?_ (args_map_next_1 _))))
  show wpAny _ _ (field (.ref mp) 0 >>= _) _ _ _
  refine wpAny_bind (wpAny_field ho rfl (x := .ref tt) rfl ?_)
  obtain ⟨ot,hot,nt,rfl⟩ := hT
  refine wpAny_bind (wpAny_seqItems hot rfl ?_)
  show wpAny _ _ (forIn #[Value.ref it] (#[] : Array Value) _ >>= _) _ _ _
  refine wpAny_bind ?_
  rw [← Array.forIn_toList]
  show wpAny _ _ (forIn [Value.ref it] (#[] : Array Value) _) _ _ _
  rw [List.forIn_cons]
  refine wpAny_bind (wpAny_bind (wpAny_holding ((Draws.list (prog := prg) (w := w) (A := A.in1) R.h it l hne vs.toArray).done _ _ _ ⟨by rw [List.size_toArray]; exact hI,LO.isList hl⟩ fun h' e he' hx'=>?_)))
  obtain ⟨o',ho',hc'⟩ := hx'
  refine wpAny_bind (wpAny_isInstance (T := "StopIteration") (b := true) ⟨o',ho',hc'⟩ isSubtype_stop ?_)
  exact wpAny_pure (k _ he')
end
section
theorem Tups.ext {α:Type} {n:Nat} {P:α → OP} {G G':Pt} {vs:List Value} {xs:List α} (p:Tups n P G vs xs) (e:∀ b o,n ≤ b → G b = some o → G' b = some o) : Tups n P G' vs xs := by
  induction p with
  | nil=>exact .nil
  | cons ha hx _ ih=>exact .cons ha (let ⟨o,ho,hP⟩ := hx; ⟨o,e _ o ha ho,hP⟩) ih
section
variable {A:Around} {n:Nat} {S mp tt it l mb:Addr} {res:Value} {vs:List Value} {bs:List (Nat × Nat × Nat)} {h0:Heap} {R:Result → Shared → Prop} {k0:Nat}
noncomputable def EB (S it:Addr) (h0 h:Heap) : Prop := ∀ b o,b ≠ S → b ≠ it → h0.get? b = some o → h.get? b = some o
theorem ext_loop (Rr:Rm A (n + 8)) (Zs:∀ h,EB S it h0 h → Stat h.get?) (hP:At h0.get? mp (MP mb tt)) (hT:At h0.get? tt (TO [.ref it])) (hB:At h0.get? mb (MB 89 135)) (hl:At h0.get? l (LO vs)) (hv:Tups k0 BO h0.get? vs bs)
    (hvn:∀ t,Value.ref t ∈ vs → t ≠ S ∧ t ≠ it) (hSi:S ≠ it) (d1:l ≠ S ∧ l ≠ it) (d2:mb ≠ S ∧ mb ≠ it) (d3:tt ≠ S ∧ tt ≠ it) (d4:mp ≠ S ∧ mp ≠ it) (hz:bs.length ≤ 1000) :
    ∀ (k i:Nat) (s:Shared) (acc:List Value),i + k = bs.length → EB S it h0 s.heap → At s.heap.get? S (LO acc) → At s.heap.get? it (LI l i) → Tups (max S it + 1) MO s.heap.get? acc (bs.take i) →
    (∀ h' tk acc',EB S it h0 h' → At h'.get? S (LO acc') → Tups (max S it + 1) MO h'.get? acc' bs → R (.ok (.ret res)) { s with heap := h',toks := tk }) →
    codeAny (model prg w) A (.builtin "list.extend.loop" ⟨[.ref S,.ref mp,res],[]⟩) R s := by
  intro k
  induction k with
  | zero =>
    intro i s acc hk hE hS hI hA hR
    obtain rfl : i = bs.length := by lia
    have up : ∀ {b:Addr} {P:OP},At h0.get? b P → b ≠ S ∧ b ≠ it → At s.heap.get? b P := fun {b P} x hb=>let ⟨o,ho,hP⟩ := x; ⟨o,hE b o hb.1 hb.2 ho,hP⟩
    refine codeAny_builtin F.entry_extend_loop ?_
    rw [Around.under_plainId F.plain_extend_loop _]
    show wpAny _ A.in1 (pyNext (.ref mp) >>= _) _ _ s
    refine wpAny_bind (wpAny_mono (map_next_end (vs := vs) (l := l) (tt := tt) (mb := mb) (Q := fun r s'=>r = none ∧ ∃ h',Heap.ExtBut it s.heap h' ∧ s' = { s with heap := h' }) ((show Rm A (n + 7 + 1) from Rr).in1.le (by lia)) d1.2 (up hP d4) (up hT d3) (by rw [hv.length]; exact hI) (up hl d1) fun h' he=>⟨rfl,h',he,rfl⟩) (fun r s' q=>?_) fun _ _ f=>f.elim)
    obtain ⟨rfl,h',he,rfl⟩ := q
    rw [List.take_length] at hA
    refine wpAny_pure (hR h' s.toks acc (fun b o h1 h2 e=>he b o h2 (hE b o h1 h2 e)) (let ⟨o,ho,hP⟩ := hS; ⟨o,he S o hSi ho,hP⟩) (hA.ext fun b o hb e=>he b o (Nat.ne_of_gt (Nat.lt_of_lt_of_le (Nat.lt_succ_of_le (Nat.le_max_right S it)) hb)) e))
  | succ k ih =>
    intro i s acc hk hE hS hI hA hR
    have up : ∀ {b:Addr} {P:OP},At h0.get? b P → b ≠ S ∧ b ≠ it → At s.heap.get? b P := fun {b P} x hb=>let ⟨o,ho,hP⟩ := x; ⟨o,hE b o hb.1 hb.2 ho,hP⟩
    obtain ⟨b,hbe⟩ : ∃ b,bs[i]? = some b := ⟨_,List.getElem?_eq_getElem (by lia)⟩
    obtain ⟨t,hvt,hkt,hBt⟩ := hv.get hbe
    have htm : Value.ref t ∈ vs := List.mem_of_getElem? hvt
    obtain ⟨ot,hot,t0,t1,t2,hTO⟩ := up hBt (hvn t htm)
    refine codeAny_builtin F.entry_extend_loop ?_
    rw [Around.under_plainId F.plain_extend_loop _]
    show wpAny _ A.in1 (pyNext (.ref mp) >>= _) _ _ s
    refine wpAny_bind (wpAny_mono (map_next_item (n := n) (i := i) (vs := vs) (l := l) (it := it) (tt := tt) (mb := mb) (t := t) (Q := fun r s'=>∃ x h1 h2 tk,r = some (.ref x) ∧ Heap.SameBut it s.heap h1 ∧ At h1.get? it (LI l (i + 1)) ∧ Bn h1 x (MO b) h2 ∧ s' = { s with heap := h2,toks := tk })
      (Zs _ hE) ((show Rm A (n + 7 + 1) from Rr).in1.le (by lia)) d1.2 d2.2 d3.2 d4.2 (up hP d4) (up hT d3) (up hB d2) hI (up hl d1) hvt ⟨ot,hot,hTO⟩ (hvn t htm).2
      (fun h' e=>Zs h' fun b o h1 h2 q=>e.extBut b o h2 (hE b o h1 h2 q)) fun x h1 h2 tk q1 q2 q3=>⟨x,h1,h2,tk,rfl,q1,q2,⟨q3.keep,q3.above,let ⟨o,ho,hP⟩ := q3.at_; ⟨o,ho,_,_,_,hP⟩⟩,rfl⟩) (fun r s' q=>?_) fun _ _ f=>f.elim)
    obtain ⟨x,h1,h2,tk,rfl,q1,q2,q3,rfl⟩ := q
    have hS1 : At h1.get? S (LO acc) := let ⟨o,ho,hP⟩ := hS; ⟨o,q1.extBut S o hSi ho,hP⟩
    have hS2 : At h2.get? S (LO acc) := let ⟨o,ho,hP⟩ := hS1; ⟨o,q3.keep S o ho,hP⟩
    have xS : S < x := let ⟨o,ho,_⟩ := hS1; q3.above S o ho
    have xI : it < x := let ⟨o,ho,_⟩ := q2; q3.above it o ho
    have hlen : acc.length = i := by rw [hA.length,List.length_take]; lia
    obtain ⟨oS,hoS,nS,rfl⟩ := hS2
    show wpAny _ A.in1 (updateSeq S (·.push (.ref x)) >>= _) _ _ _
    refine wpAny_bind ?_
    refine wpAny_updateSeq hoS rfl (wpAny_pure ⟨plainId_quiet F.plain_extend_loop _,ih (i + 1) _ (acc ++ [.ref x]) (by lia) ?_ ?_ ?_ ?_ fun h' tk' acc' e1 e2 e3=>hR h' tk' acc' e1 e2 e3⟩) (by rw [List.size_toArray,sizeLine_eq]; lia) (by rw [Array.size_push,List.size_toArray,sizeLine_eq]; lia)
    · intro c o hc1 hc2 e
      show (h2.update S _).get? c = some o
      rw [Heap.get?_update_ne _ _ _ _ hc1]
      exact q3.keep c o (q1.extBut c o hc2 (hE c o hc1 hc2 e))
    · exact ⟨_,get?_update_seq hoS fun xs=>xs.push (.ref x),_,by simp; rfl⟩
    · obtain ⟨o,ho,hP⟩ := q2
      refine ⟨o,?_,hP⟩
      show (h2.update S _).get? it = some o
      rw [Heap.get?_update_ne _ _ _ _ (Ne.symm hSi)]
      exact q3.keep it o ho
    · rw [List.take_add_one,hbe,Option.toList_some]
      refine (hA.ext fun c o hc e=>?_).snoc (Nat.succ_le_of_lt (Nat.max_lt.mpr ⟨xS,xI⟩)) ?_
      · show (h2.update S _).get? c = some o
        rw [Heap.get?_update_ne _ _ _ _ (Nat.ne_of_gt (Nat.lt_of_lt_of_le (Nat.lt_succ_of_le (Nat.le_max_left S it)) hc))]
        exact q3.keep c o (q1.extBut c o (Nat.ne_of_gt (Nat.lt_of_lt_of_le (Nat.lt_succ_of_le (Nat.le_max_right S it)) hc)) e)
      · obtain ⟨o,ho,hP⟩ := q3.at_
        refine ⟨o,?_,hP⟩
        show (h2.update S _).get? x = some o
        rw [Heap.get?_update_ne _ _ _ _ (Nat.ne_of_gt xS)]
        exact ho
end
end
section
section
variable {A:Around} {n:Nat} {h:Heap}
theorem entry_map_iter : entryFor table "map.__iter__" = some Builtin.«dict_keyiterator.__iter__» :=
  entryFor_alias (id' := "dict_keyiterator.__iter__") (by kernel_rfl) (by first | rfl | decide +kernel | (unfold String.splitOn; simp +decide [String.splitOnAux])) (by decide +kernel) (by kernel_rfl)
theorem iter_map {A:Around} {E:Value → Shared → Prop} {s:Shared} {mp tt mb:Addr} {Q:Value → Shared → Prop} (hP:At s.heap.get? mp (MP mb tt)) (k:Q (.ref mp) s) : wpAny (model prg w) A (pyIter (.ref mp)) Q E s := by
  obtain ⟨o,ho,rfl⟩ := hP
  have hT : s.TypeIs (.ref mp) "map" := ⟨_,ho,rfl⟩
  refine wpAny_pyIter_slot hT slot_map_iter (wpAny_call_entry slot_map_iter hT entry_map_iter ?_ ?_)
  · show wpAny _ _ (ret (.ref mp)) _ _ s
    exact wpAny_pure ⟨_,rfl,"map",_,hT,slot_map_next.lookup,k⟩
  · unfold argsOk; rw [signature?_of (id := "map.__iter__") (n := ['_','_','r','e','t','i','_','_']) (o := ['p','a','m']) (by kernel_rfl) owner_map']; kernel_rfl
theorem O_listmap {mp tt it l mb:Addr} {vs:List Value} {bs:List (Nat × Nat × Nat)} {k0:Nat} {Q:Value → Heap → Prop} (Rr:Rm A (n + 10)) (Z:Stat h.get?) (hP:At h.get? mp (MP mb tt)) (hT:At h.get? tt (TO [.ref it])) (hB:At h.get? mb (MB 89 135)) (hI:At h.get? it (LI l 0)) (hl:At h.get? l (LO vs)) (hv:Tups k0 BO h.get? vs bs)
    (hvn:∀ t,Value.ref t ∈ vs → t ≠ it) (d1:l ≠ it) (d2:mb ≠ it) (d3:tt ≠ it) (d4:mp ≠ it) (hz:bs.length ≤ 1000) (Zs:∀ h',Heap.ExtBut it h h' → Stat h'.get?)
    (q:∀ y h' us,Heap.ExtBut it h h' → h.objs.size ≤ y → At h'.get? y (LO us) → Tups (h.objs.size + 1) MO h'.get? us bs → Q (.ref y) h') : WP A (call (.type "list") [.ref mp]) Q h :=
  WP_lib fun s e=>by
    subst e
    refine callType_codes (Q₁ := fun obj s₁=>obj = .ref s.heap.objs.size ∧ s₁ = { s with heap := s.heap.push { cls := .type "list",data := .seq #[] } }) F.called_list (F.typeCall_list_1 _) F.entry_list_init
      (code_list_new _ ⟨rfl,rfl⟩) fun obj s₁ h₁=>?_
    obtain ⟨rfl,rfl⟩ := h₁
    have hS : (s.heap.push { cls := .type "list",data := .seq #[] }).get? s.heap.objs.size = some { cls := .type "list",data := .seq #[] } := Heap.get?_push_size _ rfl
    refine ⟨⟨_,hS,rfl⟩,F.args_list_init_2 _ _,?_⟩
    show wpAny _ _ (do let old ← Builtin.List.listItems (.ref s.heap.objs.size); Builtin.List.listUpdate (.ref s.heap.objs.size) (fun _=>#[]); letGo old.toList.reverse; Builtin.List.listExtendWith (.ref s.heap.objs.size) (.ref mp) .none) _ _ _
    refine wpAny_bind (listItems_at hS rfl ?_)
    refine wpAny_bind (listUpdate_at hS rfl ?_)
    refine wpAny_bind (wpAny_letGo ?_)
    have hlt : it < s.heap.objs.size := let ⟨o,ho,_⟩ := hI; Heap.lt_size ho
    have keepS : ∀ b o,s.heap.get? b = some o → (s.heap.push { cls := .type "list",data := .seq #[] }).get? b = some o := fun b o e=>Heap.get?_push_of_some _ e
    have hS1 := get?_update_seq hS fun _=>(#[] : Array Value)
    have up : ∀ {h':Heap},(∀ b o,b ≠ s.heap.objs.size → (s.heap.push { cls := .type "list",data := .seq #[] }).get? b = some o → h'.get? b = some o) → ∀ {b:Addr} {P:OP},At s.heap.get? b P → At h'.get? b P := fun e _ _ x=>let ⟨o,ho,hP⟩ := x; ⟨o,e _ o (Nat.ne_of_lt (Heap.lt_size ho)) (keepS _ o ho),hP⟩
    have e1 : ∀ b o,b ≠ s.heap.objs.size → (s.heap.push { cls := .type "list",data := .seq #[] }).get? b = some o → ((s.heap.push { cls := .type "list",data := .seq #[] }).update s.heap.objs.size (Obj.mapSeq fun _=>#[])).get? b = some o := fun b o hb e=>by rw [Heap.get?_update_ne _ _ _ _ hb]; exact e
    generalize ((s.heap.push { cls := .type "list",data := .seq #[] }).update s.heap.objs.size (Obj.mapSeq fun _=>#[])) = g1 at hS1 e1 ⊢
    unfold Builtin.List.listExtendWith
    obtain ⟨om,hom,hom2⟩ := up e1 hP
    have hTy : ({ s with heap := g1 } : Shared).TypeIs (.ref mp) "map" := ⟨om,hom,by rw [hom2]⟩
    refine wpAny_bind (wpAny_typeOf hTy ?_)
    have hmS : s.heap.objs.size ≠ mp := let ⟨o,ho,_⟩ := hP; Nat.ne_of_gt (Heap.lt_size ho)
    have h1 : Builtin.List.listSameRef (.ref s.heap.objs.size) (.ref mp) = false := by simp [Builtin.List.listSameRef,hmS]
    have h2 : (Value.type "map" == Value.type "list") = false := by decide
    have h3 : (Value.type "map" == Value.type "tuple") = false := by decide
    simp only [h1,h2,h3,Bool.or_false,Bool.false_eq_true,if_false]
    refine wpAny_bind (iter_map (up e1 hP) ?_)
    refine wpAny_bind (wpAny_holding ?_)
    unfold Builtin.List.listLengthHint
    refine wpAny_bind (wpAny_specialOf hTy map_no_len ?_)
    show wpAny _ _ (specialOf (Value.ref mp) (Str.ofString "__length_hint__") >>= _) _ _ _
    refine wpAny_bind (wpAny_specialOf hTy map_no_hint ?_)
    refine wpAny_pure ?_
    rw [Bool.true_or,if_pos rfl]
    refine wpAny_bind (wpAny_rule ?_)
    refine wpAny_bind ?_
    show wpAny _ _ (updateSeq s.heap.objs.size (·.push .none) >>= fun _=>updateSeq s.heap.objs.size (·.pop)) _ _ _
    refine wpAny_bind (wpAny_updateSeq hS1 rfl ?_)
    have hS2 := get?_update_seq hS1 fun xs=>xs.push Value.none
    refine wpAny_updateSeq hS2 rfl ?_
    have hS3 := get?_update_seq hS2 fun xs=>xs.pop
    have e3 : ∀ b o,b ≠ s.heap.objs.size → (s.heap.push { cls := .type "list",data := .seq #[] }).get? b = some o → ((g1.update s.heap.objs.size (Obj.mapSeq fun xs=>xs.push Value.none)).update s.heap.objs.size (Obj.mapSeq fun xs=>xs.pop)).get? b = some o := fun b o hb e=>by
      rw [Heap.get?_update_ne _ _ _ _ hb,Heap.get?_update_ne _ _ _ _ hb]; exact e1 b o hb e
    generalize ((g1.update s.heap.objs.size (Obj.mapSeq fun xs=>xs.push Value.none)).update s.heap.objs.size (Obj.mapSeq fun xs=>xs.pop)) = g3 at hS3 e3 ⊢
    have ne : ∀ {b:Addr} {P:OP},At s.heap.get? b P → b ≠ s.heap.objs.size := fun x=>let ⟨o,ho,_⟩ := x; Nat.ne_of_lt (Heap.lt_size ho)
    have back : ∀ h',EB s.heap.objs.size it g3 h' → Heap.ExtBut it s.heap h' := fun h' e b o hb ho=>e b o (Nat.ne_of_lt (Heap.lt_size ho)) hb (e3 b o (Nat.ne_of_lt (Heap.lt_size ho)) (keepS b o ho))
    have r1 : Rm A.in1 (n + 9) := Rm.in1 (n := n + 9) Rr
    have r2 : Rm A.in1 (n + 8) := r1.le (by lia)
    refine wpAny_pure ⟨plainId_quiet F.plain_extend_loop _,ext_loop (n := n) (h0 := g3) (it := it) (tt := tt) (mb := mb) (l := l) (vs := vs) (bs := bs) (k0 := k0) r2 (fun h' e=>Zs h' (back h' e)) (up e3 hP) (up e3 hT) (up e3 hB) (up e3 hl) (hv.ext fun b o hb e=>e3 b o (Nat.ne_of_lt (Heap.lt_size e)) (keepS b o e))
      (fun t ht=>⟨?_,hvn t ht⟩) (Nat.ne_of_gt hlt) ⟨ne hl,d1⟩ ⟨ne hB,d2⟩ ⟨ne hT,d3⟩ ⟨ne hP,d4⟩ hz bs.length 0 { s with heap := g3 } [] (by lia) (fun b o _ _ e=>e) ⟨_,hS3,_,rfl⟩ (up e3 hI) .nil fun h' tk acc' q1 q2 q3=>⟨rfl,h',tk,rfl,q _ h' acc' (back h' q1) (Nat.le_refl _) q2 ?_⟩⟩
    · obtain ⟨i,hi⟩ := List.getElem?_of_mem ht
      have hi' : i < vs.length := (List.getElem?_eq_some_iff.mp hi).1
      obtain ⟨t',ht',_,hB'⟩ := hv.get (i := i) (List.getElem?_eq_getElem (by rw [← hv.length]; exact hi'))
      rw [hi] at ht'
      obtain rfl := Value.ref.inj (Option.some.inj ht')
      exact ne hB'
    · rw [Nat.max_eq_left (Nat.le_of_lt hlt)] at q3; exact q3
end
end
section
namespace gmb_specN
abbrev TT : Prop := ∀ {A:Around} {h:Heap} {n:Nat} {x dx a b d sj sp:Addr} {va vb:List Value} {X Y:List Int} {T:Tab} {oc:Value} {Q:Value → Heap → Prop} (Z:Stat (minus h.get? dx)) (R:Rm A (n + 12)) (hx:At h.get? x (XO 242 dx)) (hdx:At h.get? dx (AO (MA a b d sj sp .none oc))) (ha:At h.get? a (LO va)) (hi:IntsAre va X) (hb:At h.get? b (LO vb)) (hj:IntsAre vb Y) (hd:At h.get? d (DO (kvT T))) (hT:∀ p ∈ T,At h.get? p.2.1 (IO p.2.2)) (hpl:plT T = (b2jF Y).filter fun p=>keptB p.1) (hs:At h.get? sj (KO (((b2jF Y).map (·.1)).filter fun y=>!keptB y))) (hX:X.length ≤ 11) (hY:Y.length ≤ 11) (hdm:(d == sysModules) = false) (n1:d ≠ dx) (n2:sj ≠ dx) (n3:∀ p ∈ T,p.2.1 ≠ dx) (k:∀ y h' vs,Heap.ExtBut dx h h' → h.objs.size ≤ y → At h'.get? dx (AO (MA a b d sj sp (.ref y) oc)) → At h'.get? y (LO vs) → Tups h.objs.size MO h'.get? vs (matchF (blks X Y 0 X.length 0 Y.length) X.length Y.length) → Q (.ref y) h'),WP A (call (.ref 203) [.ref x]) Q h
noncomputable def PP : {p:Heap → Nat → Addr → Addr → Addr → Addr → Addr → List Value → List Value → List Int → List Int → Tab → (Value → Heap → Prop) → Addr → Env → Around → Heap → Prop // (∀ h n x dx a b d va vb X Y T Q L env A' h₁,p h n x dx a b d va vb X Y T Q L env A' h₁) → TT} := ⟨_,by
  intro f A h n x dx a b d sj sp va vb X Y T oc Q Z R hx hdx ha hi hb hj hd hT hpl hs hX hY hdm n1 n2 n3 k
  have hx' := minus_at hx (x_ne hx hdx)
  have lne : ∀ {l:Addr} {vs:List Value},At h.get? l (LO vs) → l ≠ dx := by
    rintro l vs hl rfl
    obtain ⟨o,ho,n1,rfl⟩ := hl
    obtain ⟨o',ho',es,n2,rfl,_⟩ := hdx
    rw [ho] at ho'
    simp at ho'
  have ha' := minus_at ha (lne ha)
  have hb' := minus_at hb (lne hb)
  have hd' := minus_at hd n1
  have hT' : ∀ p ∈ T,At (minus h.get? dx) p.2.1 (IO p.2.2) := fun p hp=>minus_at (hT p hp) (n3 p hp)
  have hs' := minus_at hs n2
  have hva : va.length = X.length := hi.length
  have hvb : vb.length = Y.length := hj.length
  apply enterM (args := ⟨[.ref x],[]⟩) (binds := [(Str.ofString "self",.ref x)]) (rest := [Str.ofString "la",Str.ofString "lb",Str.ofString "queue",Str.ofString "matching_blocks",Str.ofString "alo",Str.ofString "ahi",Str.ofString "blo",Str.ofString "bhi",Str.ofString "x",Str.ofString "i",Str.ofString "j",Str.ofString "k",Str.ofString "i1",Str.ofString "j1",Str.ofString "k1",Str.ofString "non_adjacent",Str.ofString "i2",Str.ofString "j2",Str.ofString "k2"]) (gl := [(Str.ofString "len",.builtin "len"),(Str.ofString "list",.type "list"),(Str.ofString "map",.type "map"),(Str.ofString "Match",.ref 135)]) Z R hdx
  wtm_at "ent"
  intro L env A' h₁
  revert A sj sp oc Z R hx hdx ha hi hb hj hd hT hpl hs hX hY hdm n1 n2 n3 k hx' lne ha' hb' hd' hT' hs' hva hvb
  exact @f h n x dx a b d va vb X Y T Q L env A' h₁⟩
noncomputable def SS := pick1 (by have := neA; exact inferInstance) (un (un (un (un (un (un (un (un (un (un (un (un (un (un (un (un PP.1))))))))))))))))
noncomputable def h := SS.1.1.1.1.1.1.1.1.1.1.1.1.1.1.1.1.1
noncomputable def n := SS.1.1.1.1.1.1.1.1.1.1.1.1.1.1.1.1.2
noncomputable def x := SS.1.1.1.1.1.1.1.1.1.1.1.1.1.1.1.2
noncomputable def dx := SS.1.1.1.1.1.1.1.1.1.1.1.1.1.1.2
noncomputable def a := SS.1.1.1.1.1.1.1.1.1.1.1.1.1.2
noncomputable def b := SS.1.1.1.1.1.1.1.1.1.1.1.1.2
noncomputable def d := SS.1.1.1.1.1.1.1.1.1.1.1.2
noncomputable def va := SS.1.1.1.1.1.1.1.1.1.1.2
noncomputable def vb := SS.1.1.1.1.1.1.1.1.1.2
noncomputable def X := SS.1.1.1.1.1.1.1.1.2
noncomputable def Y := SS.1.1.1.1.1.1.1.2
noncomputable def T := SS.1.1.1.1.1.1.2
noncomputable def Q := SS.1.1.1.1.1.2
noncomputable def L := SS.1.1.1.1.2
noncomputable def env := SS.1.1.1.2
noncomputable def A' := SS.1.1.2
noncomputable def h₁ := SS.1.2
theorem main : PP.1 h n x dx a b d va vb X Y T Q L env A' h₁ := by
  intro A sj sp oc Z R hx hdx ha hi hb hj hd hT hpl hs hX hY hdm n1 n2 n3 k hx' lne ha' hb' hd' hT' hs' hva hvb henv R' C K₁ S
  refine S.letm ?_; clear S; intro mS MS S
  wtm_at "go"
  wtm_at "ga"
  wtm_at "gb"
  rw [show (!(Value.none == Value.none)) = false from rfl]
  wtm_at "gb"
  refine' W_AssignSwap (names := [Str.ofString "la",Str.ofString "lb"]) ?_ ?y1 ?y2
  case y1=>rfl
  case y2=>rw [henv]; kernel_rfl
  wtm_at "go"
  wtm_at "ga"
  wtm_at "go"
  wtm_at "kp"
  refine O_len (S.kk ha') (by rw [sizeLine_eq]; lia -zetaDelta) ?_
  intro tl1
  wtm_at "go"
  wtm_at "ga"
  wtm_at "go"
  wtm_at "kp"
  refine O_len (S.kk hb') (by rw [sizeLine_eq]; lia -zetaDelta) ?_
  intro tl2
  rw [hva,hvb]
  wtm_at "go"
  wtm_at "new"
  intro tu g1 _ _ K1 S1
  refine U_tuple (R'.le (by lia -zetaDelta)) (S1.mm (by wtm_at "mem")) rfl ?_
  intro g2 K2
  have S2 := (S1.keeps K2).drop
  wtm_at "rev"
  wtm_at "go"
  wtm_at "new"
  intro tq g5 hq1 hq2 K5 S5
  obtain ⟨N1,_,at1,S5'⟩ := S5.seal hq1
  clear S5
  wtm_at "go"
  wtm_at "new"
  intro qa g6 hqa1 hqa2 K6 S6
  wtm_at "go"
  wtm_at "new"
  intro ml g8 hml1 hml2 K8 S8
  wtm_at "go"
  rename_i g9 S9
  have q0 : Tups h.objs.size WO N1 [.ref tq] [(0,X.length,0,Y.length)] := .cons hq1 (let ⟨o,ho,hP⟩ := at1; ⟨o,ho,_,_,_,_,hP⟩) .nil
  let aD : List (Str × Value) := [(Str.ofString "isjunk",.ref 269),(Str.ofString "a",.ref a),(Str.ofString "b",.ref b),(Str.ofString "autojunk",.bool true),(Str.ofString "matching_blocks",Value.none),(Str.ofString "opcodes",oc),(Str.ofString "fullbcount",.none),(Str.ofString "b2j",.ref d),(Str.ofString "bjunk",.ref sj),(Str.ofString "bpopular",.ref sp)]
  let mB1 (q5:Option Value) (q6:Option Value) (q7:Option Value) (q8:Option Value) (q9:Option Value) (q10:Option Value) (q11:Option Value) (q12:Option Value) (q13:Option Value) (q14:Option Value) (q15:Option Value) (q16:Option Value) (q17:Option Value) (q18:Option Value) (q19:Option Value) : List (Str × Option Value) := [(Str.ofString "self",some (Value.ref x)),(Str.ofString "la",some (Value.int (X.length : Nat) tl1)),(Str.ofString "lb",some (Value.int (Y.length : Nat) tl2)),(Str.ofString "queue",some (Value.ref qa)),(Str.ofString "matching_blocks",some (Value.ref ml)),(Str.ofString "alo",q5),(Str.ofString "ahi",q6),(Str.ofString "blo",q7),(Str.ofString "bhi",q8),(Str.ofString "x",q9),(Str.ofString "i",q10),(Str.ofString "j",q11),(Str.ofString "k",q12),(Str.ofString "i1",q13),(Str.ofString "j1",q14),(Str.ofString "k1",q15),(Str.ofString "non_adjacent",q16),(Str.ofString "i2",q17),(Str.ofString "j2",q18),(Str.ofString "k2",q19)]
  let Qz1 : Flow → Heap → Prop := fun f g=>(f = .next) ∧ E6 fun bs vm N u0 u1 u2=>E5 fun u3 u4 u5 u6 u7=>C3 (QInv X Y [] bs) (Tups h.objs.size MO N vm bs) (St (minus h.get? dx) h.objs.size env (mB1 u0 u1 u2 u3 u4 u5 u6 u7 none none none none none none none) N ((ml,LO vm) :: (qa,LO []) :: (dx,AO aD) :: []) g)
  let Jw : Nat → Heap → Prop := fun nn g=>E6 fun qs bs vq vm N u0=>E6 fun u1 u2 u3 u4 u5 u6=>∃ u7,C5 (nn = wgts qs) (wgts qs ≤ 2 * X.length + 1) (QInv X Y qs bs) (Tups h.objs.size WO N vq qs) ((Tups h.objs.size MO N vm bs) ∧ (St (minus h.get? dx) h.objs.size env (mB1 u0 u1 u2 u3 u4 u5 u6 u7 none none none none none none none) N ((ml,LO vm) :: (qa,LO vq) :: (dx,AO aD) :: []) g))
  refine WP.mono (Q := Qz1) (W_While Jw (wgts [(0,X.length,0,Y.length)]) ⟨[(0,X.length,0,Y.length)],[],_,_,N1,_,_,_,_,_,_,_,_,rfl,by simp [wgts,wgt],⟨fun q hq=>by rw [List.mem_singleton] at hq; subst hq; exact ⟨Nat.zero_le _,Nat.le_refl _,Nat.zero_le _,Nat.le_refl _⟩,by simp [winB]⟩,q0,.nil,S9⟩ ?_) ?_
  · rintro nn g ⟨qs,bs,vq,vm,N,u0,u1,u2,u3,u4,u5,u6,u7,rfl,hw,hI,hvq,hvm,S⟩
    refine S.letm ?_; clear S; intro mS MS S
    have hql : qs.length ≤ wgts qs := wgts_len
    have hbl : bs.length ≤ X.length := by
      have := hI.perm.length_eq
      rw [List.length_append] at this
      have := (blks_whole (X := X) (Y := Y)).len
      lia -zetaDelta
    have hlq := hvq.length
    have hlm := hvm.length
    wtm_at "go"
    refine O_truthy_list (S.mm (by wtm_at "mem")) (by rw [sizeLine_eq]; lia -zetaDelta) ?_
    rcases List.eq_nil_or_concat qs with rfl | ⟨qs',⟨i1,i2,j1,j2⟩,rfl⟩
    · cases hvq
      rw [show (!([] : List Value).isEmpty) = false from rfl,if_neg Bool.false_ne_true]
      exact ⟨rfl,bs,vm,N,_,_,_,_,_,_,_,_,hI,hvm,S⟩
    · rw [List.concat_eq_append] at hvq hI hw hlq hql ⊢
      obtain ⟨vq',tw,rfl,hw1,hw2,hvq'⟩ := hvq.unsnoc
      obtain ⟨ow,how,ta,tb,tc,td,hwP⟩ := hw2
      have hwt : At N tw (TO [.int (i1:Nat) ta,.int (i2:Nat) tb,.int (j1:Nat) tc,.int (j2:Nat) td]) := ⟨ow,how,hwP⟩
      rw [show (!(vq' ++ [Value.ref tw]).isEmpty) = true by simp,if_pos rfl]
      have ho : okW X Y (i1,i2,j1,j2) := hI.ok _ (by simp)
      obtain ⟨o1,o2,o3,o4⟩ : i1 ≤ i2 ∧ i2 ≤ X.length ∧ j1 ≤ j2 ∧ j2 ≤ Y.length := ho
      have hlq2 := hvq'.length
      rw [List.length_append] at hql
      simp only [List.length_cons,List.length_nil] at hql
      unfold Turn
      wtm_at "go"
      refine' W_AssignTup ?_ ?y1 ?y2
      case y1=>rfl
      case y2=>rfl
      wtm_at "go"
      refine M_list (S.mm (by wtm_at "mem")) F.slot_list_pop F.type_list_pop ?_
      wtm_at "go"
      wtm_at "kp"
      refine O_pop S (by wtm_at "mem") (by rw [sizeLine_eq]; lia -zetaDelta) (by wtm_at "upd") ?_
      intro g1 S1
      clear S
      wtm_at "go"
      refine' W_assign_Tuple (R'.le (by lia -zetaDelta)) (S1.nn hwt) rfl ?y3 ?_
      case y3=>rfl
      intro g2 K2
      have S2 := S1.keeps K2
      clear S1
      wtm_at "go"
      rename_i S3
      refine W_Assign2 ?_ rfl rfl
      wtm_at "go"
      refine O_methS (by assumption) (by assumption) (by assumption) (by wtm_at "mem") (m196 _) (by kernel_rfl) ?_
      wtm_at "go"
      wtm_at "kp"
      obtain ⟨Bi,Bj,Bk,eB⟩ : ∃ Bi Bj Bk,blockF X Y i1 i2 j1 j2 = (Bi,Bj,Bk) := ⟨_,_,_,rfl⟩
      refine flm_spec (n := n) (va := va) (vb := vb) (X := X) (Y := Y) (T := T) (Z.up S3.keep) (R'.le (by lia -zetaDelta)) (S3.kk hx') (S3.mm (by wtm_at "mem")) (S3.kk ha') hi (S3.kk hb') hj (S3.kk hd') (fun p hp=>S3.kk (hT' p hp)) hpl (S3.kk hs') hX hY o1 o2 o3 o4 hdm ?_
      intro y g3 tm0 tm1 tm2 bn
      rw [eB] at bn
      dsimp only at bn
      have S4 := S3.bornB bn
      have hy0 := S3.bornB_ge bn
      clear S3
      refine' W_assign_match (R'.le (by lia -zetaDelta)) (Z.up S4.keep) (S4.mm (by wtm_at "mem")) rfl ?y3 ?_
      case y3=>rfl
      intro g4 K4
      have S5 := S4.keeps K4
      clear S4
      wtm_at "go"
      obtain ⟨N2,sN2,hN2,S6⟩ := St.seal (by assumption) hy0
      have bb := blockF_in (X := X) (Y := Y) o1 o2 o3 o4
      have nI := fun hk=>hI.none (i1 := i1) (i2 := i2) (j1 := j1) (j2 := j2) hk
      have sI := fun hk=>hI.some (i1 := i1) (i2 := i2) (j1 := j1) (j2 := j2) hk
      obtain ⟨WA,ewA⟩ : ∃ W,W = wA X Y i1 i2 j1 j2 := ⟨_,rfl⟩
      obtain ⟨WB,ewB⟩ : ∃ W,W = wB X Y i1 i2 j1 j2 := ⟨_,rfl⟩
      rw [← ewA,← ewB] at sI
      unfold wA at ewA
      unfold wB at ewB
      rw [eB] at bb nI sI ewA ewB
      dsimp only at bb nI sI ewA ewB
      refine O_truthy_int ?_
      by_cases hk : Bk = 0
      · rw [show (((Bk:Nat) : Int) != 0) = false by rw [hk]; rfl,if_neg Bool.false_ne_true]
        wtm_at "go"
        refine ⟨_,?_,qs',bs,_,_,N2,_,_,_,_,_,_,_,_,rfl,?_,nI hk,hvq'.up sN2 (Nat.le_refl _),hvm.up sN2 (Nat.le_refl _),S6⟩
        · rw [wgts_snoc]; unfold wgt; lia -zetaDelta
        · rw [wgts_snoc] at hw; lia -zetaDelta
      · rw [show (((Bk:Nat) : Int) != 0) = true by simp [hk],if_pos rfl]
        obtain ⟨sI1,sI2⟩ := sI hk
        wtm_at "go"
        refine M_list (S6.mm (by wtm_at "mem")) F.slot_list_append F.type_list_append ?_
        wtm_at "go"
        wtm_at "kp"
        refine O_append S6 (by wtm_at "mem") (by rw [sizeLine_eq]; lia -zetaDelta) (by wtm_at "upd") ?_
        intro g5 S7
        clear S6
        wtm_at "nr"
        have hvm' : Tups h.objs.size MO N2 (vm ++ [Value.ref y]) (bs ++ [(Bi,Bj,Bk)]) := (hvm.up sN2 (Nat.le_refl _)).snoc hy0 (let ⟨o,ho,hP⟩ := hN2; ⟨o,ho,_,_,_,hP⟩)
        have hvq2 := hvq'.up sN2 (Nat.le_refl _)
        let Qz2 : Flow → Heap → Prop := fun f g=>(f = .next) ∧ E2 fun vq2 N3=>C3 (Tups h.objs.size WO N3 vq2 (qs' ++ WA)) (Tups h.objs.size MO N3 (vm ++ [Value.ref y]) (bs ++ [(Bi,Bj,Bk)])) (St (minus h.get? dx) h.objs.size env (mB1 (some (Value.int (i1:Nat) ta)) (some (Value.int (i2:Nat) tb)) (some (Value.int (j1:Nat) tc)) (some (Value.int (j2:Nat) td)) (some (Value.ref y)) (some (Value.int (Bi:Nat) tm0)) (some (Value.int (Bj:Nat) tm1)) (some (Value.int (Bk:Nat) tm2)) none none none none none none none) N3 ((ml,LO (vm ++ [Value.ref y])) :: (qa,LO vq2) :: (dx,AO aD) :: []) g)
        refine W_cons (WP.mono (Q := Qz2) ?_ ?_)
        · by_cases c1 : i1 < Bi ∧ j1 < Bj
          · wtm_at "gb"
            refine M_list (S7.mm (by wtm_at "mem")) F.slot_list_append F.type_list_append ?_
            wtm_at "go"
            wtm_at "new"
            intro tw2 g6 hn1 hn2 K6 S8
            wtm_at "go"
            wtm_at "kp"
            refine O_append S8 (by wtm_at "mem") (by rw [sizeLine_eq]; lia -zetaDelta) (by wtm_at "upd") ?_
            intro g7 S9
            obtain ⟨N3,sN3,hN3,S10⟩ := S9.seal hn1
            wtm_at "nr"
            wtm_at "go"
            show _ ∧ _
            rw [ewA,if_pos c1]
            exact ⟨rfl,_,N3,(hvq2.up sN3 (Nat.le_refl _)).snoc hn1 (let ⟨o,ho,hP⟩ := hN3; ⟨o,ho,_,_,_,_,hP⟩),hvm'.up sN3 (Nat.le_refl _),S10⟩
          · by_cases c2 : i1 < Bi
            · wtm_at "gb"
              show _ ∧ _
              rw [ewA,if_neg c1,List.append_nil]
              exact ⟨rfl,_,N2,hvq2,hvm',S7⟩
            · wtm_at "gb"
              show _ ∧ _
              rw [ewA,if_neg c1,List.append_nil]
              exact ⟨rfl,_,N2,hvq2,hvm',S7⟩
        · rintro _ g6 ⟨rfl,vq2,N3,hvq3,hvm3,S8⟩
          refine S8.letm ?_; clear S8; intro mS MS S8
          clear S7
          try dsimp only
          have hlq3 := hvq3.length
          have hlA : WA.length ≤ 1 := by rw [ewA]; split <;> simp
          rw [List.length_append] at hlq3
          by_cases c1 : Bi + Bk < i2 ∧ Bj + Bk < j2
          · wtm_at "gb"
            refine M_list (S8.mm (by wtm_at "mem")) F.slot_list_append F.type_list_append ?_
            wtm_at "go"
            wtm_at "new"
            intro tw2 g6 hn1 hn2 K6 S9
            wtm_at "go"
            wtm_at "kp"
            refine O_append S9 (by wtm_at "mem") (by rw [sizeLine_eq]; lia -zetaDelta) (by wtm_at "upd") ?_
            intro g7 S10
            obtain ⟨N4,sN4,hN4,S11⟩ := S10.seal hn1
            wtm_at "nr"
            wtm_at "go"
            rw [ewB,if_pos c1] at sI1 sI2
            exact ⟨_,sI2,_,_,_,_,_,_,_,_,_,_,_,_,_,rfl,by lia -zetaDelta,sI1,(hvq3.up sN4 (Nat.le_refl _)).snoc hn1 (let ⟨o,ho,hP⟩ := hN4; ⟨o,ho,_,_,_,_,hP⟩),hvm3.up sN4 (Nat.le_refl _),S11⟩
          · rw [ewB,if_neg c1,List.append_nil] at sI1 sI2
            by_cases c2 : Bi + Bk < i2
            · wtm_at "gb"
              exact ⟨_,sI2,_,_,_,_,_,_,_,_,_,_,_,_,_,rfl,by lia -zetaDelta,sI1,hvq3,hvm3,S8⟩
            · wtm_at "gb"
              exact ⟨_,sI2,_,_,_,_,_,_,_,_,_,_,_,_,_,rfl,by lia -zetaDelta,sI1,hvq3,hvm3,S8⟩
  · rintro _ g ⟨rfl,bs,vm,N0,u0,u1,u2,u3,u4,u5,u6,u7,hI,hvm,S⟩
    refine S.letm ?_; clear S; intro mS MS S
    clear S9
    try dsimp only
    wtm_at "go"
    have hrise := (blks_whole (X := X) (Y := Y)).rise.2
    have hbp : bs.Perm (blks X Y 0 X.length 0 Y.length) := by have := hI.perm; simpa using this
    have hbl : (blks X Y 0 X.length 0 Y.length).length ≤ X.length := by have := (blks_whole (X := X) (Y := Y)).len; lia -zetaDelta
    refine M_list (S.mm (by wtm_at "mem")) F.slot_list_sort F.type_list_sort ?_
    wtm_at "go"
    wtm_at "kp"
    refine O_sort (M' := fun vs'=>(ml,LO vs') :: (qa,LO []) :: (dx,AO aD) :: []) S Z (R'.le (by lia -zetaDelta)) (by wtm_at "mem") hvm (by have := hbp.length_eq; lia -zetaDelta) ?_ (fun vs'=>.head) ?_
    · refine (hbp.map (·.1)).nodup_iff.mpr ?_
      exact (List.pairwise_map.mpr (hrise.imp fun h=>Nat.ne_of_lt h))
    intro g1 vs bs' hp1 hp2 hvs S1
    obtain rfl : bs' = (blks X Y 0 X.length 0 Y.length) := sorted_same (hp1.trans hbp) hp2 hrise
    clear S
    wtm_at "nr"
    refine W_cons ?_
    refine W_Assign3 ?_ rfl rfl
    wtm_at "go"
    wtm_at "new"
    intro na g2 hna1 hna2 K2 S2
    wtm_at "go"
    rename_i S3
    clear S2 S1
    refine iter_list S3 (S3.mm (by wtm_at "mem")) ?_
    intro I g4 K4 S4
    clear S3
    have hvl := hvs.length
    let MB3 (q1:OP) : List (Addr × OP) := [(ml,LO vs),(na,q1),(dx,AO aD)]
    have S5 := S4.pick (M' := (I,LI ml 0) :: MB3 (LO [])) [0,2,1,4] (by decide) rfl
    let Jz3 : Inv := fun i m N M=>E6 fun us ci cj ck te1 te2=>E4 fun te3 x1 x2 x3=>C5 (m = (mB1 u0 u1 u2 u3 u4 u5 u6 u7 (some (Value.int (ci:Nat) te1)) (some (Value.int (cj:Nat) te2)) (some (Value.int (ck:Nat) te3)) (some (Value.ref na)) x1 x2 x3)) (Sub N0 N) (Tups h.objs.size BO N us (((blks X Y 0 X.length 0 Y.length).take i).foldl mergeS ([],0,0,0)).1) ((ci,cj,ck) = (((blks X Y 0 X.length 0 Y.length).take i).foldl mergeS ([],0,0,0)).2) (M = (MB3 (LO us)))
    refine for_itrT (itr_list R'.h I ml vs) Jz3 S5 ⟨_,0,0,0,_,_,_,_,_,_,rfl,Sub.rfl,.nil,rfl,rfl⟩ (fun i v h Q hv hi q=>?_) (fun i m N M h P hJ S=>by obtain ⟨us,ci,cj,ck,te1,te2,te3,x1,x2,x3,rfl,_,_,_,rfl⟩ := hJ; exact S.mm (by wtm_at "mem")) ?_ ?_
    · have hlt : i < (blks X Y 0 X.length 0 Y.length).length := by rw [← hvl]; exact (List.getElem?_eq_some_iff.mp hv).1
      obtain ⟨t,e,_⟩ := hvs.get (i := i) (List.getElem?_eq_getElem hlt)
      rw [e] at hv
      obtain rfl := Option.some.inj hv
      exact own_list hi q
    · rintro i v m N M g5 hilt hv ⟨us,ci,cj,ck,te1,te2,te3,x1,x2,x3,rfl,sN,hO,hst,rfl⟩ S
      refine S.letm ?_; clear S; intro mS MS S
      have hlt : i < (blks X Y 0 X.length 0 Y.length).length := by rw [← hvl]; exact hilt
      obtain ⟨⟨bi,bj,bk⟩,hbe⟩ : ∃ b,(blks X Y 0 X.length 0 Y.length)[i]? = some b := ⟨_,List.getElem?_eq_getElem hlt⟩
      obtain ⟨t,e,hnt,hMO⟩ := hvs.get hbe
      rw [e] at hv
      obtain rfl := Option.some.inj hv
      obtain ⟨ot,hot,t0,t1,t2,hMV⟩ := S.nn (hMO.up sN)
      obtain ⟨st,est⟩ : ∃ st,st = (((blks X Y 0 X.length 0 Y.length).take i).foldl mergeS ([],0,0,0)) := ⟨_,rfl⟩
      have hst2 : ((blks X Y 0 X.length 0 Y.length).take (i + 1)).foldl mergeS ([],0,0,0) = mergeS st (bi,bj,bk) := by rw [List.take_add_one,hbe,Option.toList_some,List.foldl_append,← est]; rfl
      have hlen : st.1.length ≤ i := by rw [est]; exact merge_len (by lia -zetaDelta)
      rw [← est] at hO hst
      obtain ⟨sl,si,sj',sk⟩ := st
      simp only [Prod.mk.injEq] at hst
      obtain ⟨rfl,rfl,rfl⟩ := hst
      dsimp only at hO hlen
      have hlu := hO.length
      refine' W_assign_match (R'.le (by lia -zetaDelta)) (Z.up S.keep) ⟨ot,hot,hMV⟩ rfl ?y3 ?_
      case y3=>rfl
      intro g6 K6
      have S6 := S.keeps K6
      clear S
      wtm_at "go"
      rename_i g7 S7
      unfold Turn
      by_cases c1 : ci + ck = bi ∧ cj + ck = bj
      · obtain ⟨c1a,c1b⟩ := c1
        have hm : mergeS (sl,ci,cj,ck) (bi,bj,bk) = (sl,ci,cj,ck + bk) := by unfold mergeS; rw [if_pos ⟨c1a,c1b⟩]
        wtm_at "go"
        rw [if_pos (by rw [beq_iff_eq]; lia -zetaDelta)]
        wtm_at "gb"
        rw [if_pos (by rw [beq_iff_eq]; lia -zetaDelta)]
        wtm_at "gb"
        rename_i S8
        clear S7 S6
        refine ⟨_,_,_,⟨_,ci,cj,ck + bk,_,_,_,_,_,_,rfl,sN,?_,?_,rfl⟩,S8⟩
        · rw [hst2,hm]; exact hO
        · rw [hst2,hm]
      · have hm : mergeS (sl,ci,cj,ck) (bi,bj,bk) = (if ck = 0 then sl else sl ++ [(ci,cj,ck)],bi,bj,bk) := by unfold mergeS; rw [if_neg c1]
        clear S6
        wtm_at "st"
        wtm_at "st"
        refine WP.mono (Q := fun b g=>b = false ∧ g = g7) ?_ ?_
        · by_cases c2 : ci + ck = bi
          · wtm_at "go"
            rw [if_pos (by rw [beq_iff_eq]; lia -zetaDelta)]
            wtm_at "gb"
            rw [if_neg (by rw [beq_iff_eq]; lia -zetaDelta)]
            exact ⟨rfl,rfl⟩
          · wtm_at "go"
            rw [if_neg (by rw [beq_iff_eq]; lia -zetaDelta)]
            exact ⟨rfl,rfl⟩
        rintro _ _ ⟨rfl,rfl⟩
        rw [if_neg Bool.false_ne_true]
        let Qz5 : Flow → Heap → Prop := fun f g=>(f = .next) ∧ E2 fun us2 N2=>C3 (Sub N N2) (Tups h.objs.size BO N2 us2 (if ck = 0 then sl else sl ++ [(ci,cj,ck)])) (St (minus h.get? dx) h.objs.size env (mB1 u0 u1 u2 u3 u4 u5 u6 u7 (some (Value.int (ci:Nat) te1)) (some (Value.int (cj:Nat) te2)) (some (Value.int (ck:Nat) te3)) (some (Value.ref na)) (some (Value.int (bi:Nat) t0)) (some (Value.int (bj:Nat) t1)) (some (Value.int (bk:Nat) t2))) N2 ((I,LI ml (i + 1)) :: MB3 (LO us2)) g)
        refine W_cons (WP.mono (Q := Qz5) ?_ ?_)
        · wtm_at "go"
          refine O_truthy_int ?_
          by_cases c3 : ck = 0
          · rw [show (((ck:Nat) : Int) != 0) = false by rw [c3]; rfl,if_neg Bool.false_ne_true]
            wtm_at "go"
            exact ⟨rfl,us,N,Sub.rfl,by rw [if_pos c3]; exact hO,S7⟩
          · rw [show (((ck:Nat) : Int) != 0) = true by simp [c3],if_pos rfl]
            wtm_at "go"
            refine M_list (S7.mm (by wtm_at "mem")) F.slot_list_append F.type_list_append ?_
            wtm_at "go"
            wtm_at "new"
            intro ct g8 hct _ K8 S8
            obtain ⟨N2,sN2,hN2,S9⟩ := S8.seal hct
            clear S8 S7
            wtm_at "go"
            wtm_at "kp"
            refine O_append S9 (by wtm_at "mem") (by rw [sizeLine_eq]; lia -zetaDelta) (by wtm_at "upd") ?_
            intro g9 S10
            clear S9
            wtm_at "nr"
            wtm_at "go"
            refine ⟨rfl,_,N2,sN2,?_,S10⟩
            rw [if_neg c3]
            exact (hO.up sN2 (Nat.le_refl _)).snoc hct (let ⟨o,ho,hP⟩ := hN2; ⟨o,ho,_,_,_,hP⟩)
        · rintro _ g8 ⟨rfl,us2,N2,sN2,hO2,S8⟩
          refine S8.letm ?_; clear S8; intro mS MS S8
          clear S7
          wtm_at "go"
          refine' W_AssignSwap (names := [Str.ofString "i1",Str.ofString "j1",Str.ofString "k1"]) ?_ ?y1 ?y2
          case y1=>rfl
          case y2=>rw [henv]; kernel_rfl
          wtm_at "go"
          wtm_at "new"
          intro cT g8 _ _ K8 T1
          refine U_tuple (R'.le (by lia -zetaDelta)) (T1.mm (by wtm_at "mem")) rfl ?_
          intro g9 K9
          have T2 := (T1.keeps K9).drop
          clear T1
          wtm_at "rev"
          wtm_at "go"
          rename_i T3
          refine ⟨_,_,_,⟨_,bi,bj,bk,_,_,_,_,_,_,rfl,sN.trans sN2,?_,?_,rfl⟩,T3⟩
          · rw [hst2,hm]; exact hO2
          · rw [hst2,hm]
    · rintro m N M g5 ⟨us,ci,cj,ck,te1,te2,te3,x1,x2,x3,rfl,sN,hO,hst,rfl⟩ S
      refine S.letm ?_; clear S; intro mS MS S
      try dsimp only
      rw [List.take_of_length_le (by lia -zetaDelta)] at hO hst
      have hlen : ((blks X Y 0 X.length 0 Y.length).foldl mergeS ([],0,0,0)).1.length ≤ (blks X Y 0 X.length 0 Y.length).length := by
        have := merge_len (bs := (blks X Y 0 X.length 0 Y.length)) (Nat.le_refl _)
        rw [List.take_of_length_le (Nat.le_refl _)] at this
        exact this
      have hmf : matchF (blks X Y 0 X.length 0 Y.length) X.length Y.length = flushS ((blks X Y 0 X.length 0 Y.length).foldl mergeS ([],0,0,0)) ++ [(X.length,Y.length,0)] := rfl
      generalize (blks X Y 0 X.length 0 Y.length).foldl mergeS ([],0,0,0) = st at hO hst hlen hmf
      obtain ⟨sl,si,sj',sk⟩ := st
      simp only [Prod.mk.injEq] at hst
      obtain ⟨rfl,rfl,rfl⟩ := hst
      dsimp only at hO hlen
      have hlu := hO.length
      let Qz4 : Flow → Heap → Prop := fun f g=>(f = .next) ∧ E2 fun us2 N2=>(Tups h.objs.size BO N2 us2 (flushS (sl,ci,cj,ck))) ∧ (St (minus h.get? dx) h.objs.size env (mB1 u0 u1 u2 u3 u4 u5 u6 u7 (some (Value.int (ci:Nat) te1)) (some (Value.int (cj:Nat) te2)) (some (Value.int (ck:Nat) te3)) (some (Value.ref na)) x1 x2 x3) N2 (MB3 (LO us2)) g)
      refine W_cons (WP.mono (Q := Qz4) ?_ ?_)
      · wtm_at "go"
        refine O_truthy_int ?_
        by_cases c3 : ck = 0
        · rw [show (((ck:Nat) : Int) != 0) = false by rw [c3]; rfl,if_neg Bool.false_ne_true]
          wtm_at "go"
          refine ⟨rfl,us,N,?_,S⟩
          rw [show flushS (sl,ci,cj,ck) = sl by unfold flushS; rw [if_pos c3]]
          exact hO
        · rw [show (((ck:Nat) : Int) != 0) = true by simp [c3],if_pos rfl]
          wtm_at "go"
          refine M_list (S.mm (by wtm_at "mem")) F.slot_list_append F.type_list_append ?_
          wtm_at "go"
          wtm_at "new"
          intro ct g8 hct _ K8 S8
          obtain ⟨N2,sN2,hN2,S9⟩ := S8.seal hct
          clear S8 S
          wtm_at "go"
          wtm_at "kp"
          refine O_append S9 (by wtm_at "mem") (by rw [sizeLine_eq]; lia -zetaDelta) (by wtm_at "upd") ?_
          intro g9 S10
          clear S9
          wtm_at "nr"
          wtm_at "go"
          refine ⟨rfl,_,N2,?_,S10⟩
          rw [show flushS (sl,ci,cj,ck) = sl ++ [(ci,cj,ck)] by unfold flushS; rw [if_neg c3]]
          exact (hO.up sN2 (Nat.le_refl _)).snoc hct (let ⟨o,ho,hP⟩ := hN2; ⟨o,ho,_,_,_,hP⟩)
      · rintro _ g6 ⟨rfl,us2,N2,hO2,S2⟩
        refine S2.letm ?_; clear S2; intro mS MS S2
        clear S
        try dsimp only
        have hl2 : (flushS (sl,ci,cj,ck)).length ≤ sl.length + 1 := by unfold flushS; split <;> simp
        have hlu2 := hO2.length
        wtm_at "go"
        refine M_list (S2.mm (by wtm_at "mem")) F.slot_list_append F.type_list_append ?_
        wtm_at "go"
        wtm_at "new"
        intro ct g8 hct _ K8 S8
        obtain ⟨N3,sN3,hN3,S9⟩ := S8.seal hct
        clear S8 S2
        wtm_at "go"
        wtm_at "kp"
        refine O_append S9 (by wtm_at "mem") (by rw [sizeLine_eq]; lia -zetaDelta) (by wtm_at "upd") ?_
        intro g9 S10
        clear S9
        wtm_at "nr"
        have hM : Tups h.objs.size BO N3 (us2 ++ [.ref ct]) (matchF (blks X Y 0 X.length 0 Y.length) X.length Y.length) := by
          rw [hmf]
          exact (hO2.up sN3 (Nat.le_refl _)).snoc hct (let ⟨o,ho,hP⟩ := hN3; ⟨o,ho,_,_,_,hP⟩)
        wtm_at "go"
        refine O_make89 (Z.up S10.keep) ?_
        intro mk g10 n10
        have S11 := S10.born n10
        clear S10
        wtm_at "go"
        wtm_at "kp"
        refine O_map (S11.mm (by wtm_at "mem")) ?_
        intro mp tt it g11 K11 l1 l2 l3 hit htt hmp
        have S12 := S11.new K11 (Heap.get?_none_of_le l1) hit
        clear S11
        try dsimp +zetaDelta only [setAt] at S12
        have nd12 := (List.nodup_cons.mp S12.nd).2
        simp only [List.map_cons,List.map_nil,List.nodup_cons,List.mem_cons,not_or,List.not_mem_nil,not_false_eq_true,List.nodup_nil,and_true,or_false] at nd12
        have hMN : N3 it = none := S12.offMN _ List.mem_cons_self
        have hMK : minus h.get? dx it = none := S12.offMK _ List.mem_cons_self
        have hml : (matchF (blks X Y 0 X.length 0 Y.length) X.length Y.length).length ≤ 1000 := by rw [hmf,List.length_append]; simp only [List.length_cons,List.length_nil]; lia -zetaDelta
        wtm_at "go"
        wtm_at "kp"
        refine O_listmap (n := n) (mb := mk) (tt := tt) (it := it) (l := na) (R'.le (by lia -zetaDelta)) (Z.up S12.keep) hmp htt (S12.mm (by wtm_at "mem")) hit (S12.mm (by wtm_at "mem")) (hM.up S12.per (Nat.le_refl _)) ?_ (fun e=>nd12.1.2.2.1 e.symm) (fun e=>nd12.1.1 e.symm) (Nat.ne_of_gt l2) (Nat.ne_of_gt (Nat.lt_trans l2 l3)) hml ?_ ?_
        · intro t ht e
          subst e
          obtain ⟨i,hi⟩ := List.getElem?_of_mem ht
          have hi' := (List.getElem?_eq_some_iff.mp hi).1
          obtain ⟨t',ht',_,o,ho,_⟩ := hM.get (i := i) (List.getElem?_eq_getElem (by rw [← hM.length]; exact hi'))
          rw [hi] at ht'
          obtain rfl := Value.ref.inj (Option.some.inj ht')
          rw [hMN] at ho; cases ho
        · intro h' e
          exact Z.up fun b o hb=>e b o (by rintro rfl; rw [hMK] at hb; cases hb) (S12.keep b o hb)
        · intro y g12 us hE hy hyl hT
          have S13 := S12.off hE
          have S14 := S12.growTo S13 (fun p hp=>by rw [List.map_cons]; exact List.mem_cons_of_mem _ (List.mem_map_of_mem hp))
          have hyN : At (above g11.objs.size N3 g12) y (LO us) := above_at hy hyl
          have hTN := hT.above (N := N3) (Nat.le_succ g11.objs.size)
          have hn0 := S12.newer
          clear S12 S13
          wtm_at "go"
          wtm_at "sa"
          wtm_at "go"
          wtm_at "ga"
          wtm_at "go"
          wtm_at "f"
          rename_i hfin
          refine k y _ us (minus_ext hfin.keep) (Nat.le_trans hn0 hy) (hfin.mm (by wtm_at "mem")) (hfin.nn hyN) ?_
          exact hTN.up hfin.per hn0
end gmb_specN
theorem gmb_spec : gmb_specN.TT := gmb_specN.PP.2 fun h n x dx a b d va vb X Y T Q L env A' h₁=>gmb_specN.SS.2 gmb_specN.main ((((((((((((((((h,n),x),dx),a),b),d),va),vb),X),Y),T),Q),L),env),A'),h₁)
end
section
noncomputable def tagL (i j x y:Nat) : Str := if i < x ∧ j < y then Str.ofString "replace" else if i < x then Str.ofString "delete" else if j < y then Str.ofString "insert" else Str.ofString ""
theorem O_truthy_str {A:Around} {h:Heap} {x:Str} {t:Tok} {Q:Bool → Heap → Prop} (hf:x.length < 1000) (q:Q ((x.length : Int) != 0) h) : WP A (truthy (.str x t)) Q h :=
  WP_lib fun s e=>by subst e; exact P.truthy_str (by lia -zetaDelta) ⟨_,_,rfl,q⟩
theorem tagL_some {i j x y:Nat} (c:i < x ∨ j < y) : tagL i j x y = tagOf i j x y ∧ (tagL i j x y).length < 1000 ∧ (((tagL i j x y).length : Int) != 0) = true := by
  unfold tagL tagOf
  split
  · exact ⟨rfl,by decide +kernel,by decide +kernel⟩
  · split
    · exact ⟨rfl,by decide +kernel,by decide +kernel⟩
    · rw [if_pos (by lia -zetaDelta)]; exact ⟨rfl,by decide +kernel,by decide +kernel⟩
theorem tagL_none {i j x y:Nat} (c:¬ (i < x ∨ j < y)) : tagL i j x y = Str.ofString "" := by
  unfold tagL
  rw [if_neg (by lia -zetaDelta),if_neg (by lia -zetaDelta),if_neg (by lia -zetaDelta)]
theorem opS_len {s:List Op × Nat × Nat} {b:Blk} : (opS s b).1.length ≤ s.1.length + 2 := by
  unfold opS
  have := @gapF_len s.1 s.2.1 s.2.2 b.1 b.2.1
  try dsimp only
  split
  · lia -zetaDelta
  · rw [List.length_append]; simp only [List.length_cons,List.length_nil]; lia -zetaDelta
theorem opFold_len {bs:List Blk} : ∀ {s:List Op × Nat × Nat},(bs.foldl opS s).1.length ≤ s.1.length + 2 * bs.length := by
  induction bs with
  | nil=>intro s; simp
  | cons b bs ih=>intro s; rw [List.foldl_cons]; have := @ih (opS s b); have := @opS_len s b; simp only [List.length_cons]; lia -zetaDelta
theorem matchF_len {bs:List Blk} {p q:Nat} : (matchF bs p q).length ≤ bs.length + 2 := by
  unfold matchF flushS
  have := @merge_len1 bs ([],0,0,0)
  simp only [List.length_nil] at this
  split <;> simp only [List.length_append,List.length_cons,List.length_nil] <;> lia -zetaDelta
namespace gop_specN
abbrev TT : Prop := ∀ {A:Around} {h:Heap} {n:Nat} {x dx a b d sj sp:Addr} {va vb:List Value} {X Y:List Int} {T:Tab} {Q:Value → Heap → Prop} (Z:Stat (minus h.get? dx)) (R:Rm A (n + 13)) (hx:At h.get? x (XO 242 dx)) (hdx:At h.get? dx (AO (MA a b d sj sp .none .none))) (ha:At h.get? a (LO va)) (hi:IntsAre va X) (hb:At h.get? b (LO vb)) (hj:IntsAre vb Y) (hd:At h.get? d (DO (kvT T))) (hT:∀ p ∈ T,At h.get? p.2.1 (IO p.2.2)) (hpl:plT T = (b2jF Y).filter fun p=>keptB p.1) (hs:At h.get? sj (KO (((b2jF Y).map (·.1)).filter fun y=>!keptB y))) (hX:X.length ≤ 11) (hY:Y.length ≤ 11) (hdm:(d == sysModules) = false) (n1:d ≠ dx) (n2:sj ≠ dx) (n3:∀ p ∈ T,p.2.1 ≠ dx) (k:∀ y h' vs mb,Heap.ExtBut dx h h' → h.objs.size ≤ y → At h'.get? dx (AO (MA a b d sj sp (.ref mb) (.ref y))) → At h'.get? y (LO vs) → Ops h.objs.size h'.get? vs (opF (matchF (blks X Y 0 X.length 0 Y.length) X.length Y.length)) → Q (.ref y) h'),WP A (call (.ref 210) [.ref x]) Q h
noncomputable def PP : {p:Heap → Nat → Addr → Addr → List Int → List Int → (Value → Heap → Prop) → Addr → Env → Around → Heap → Prop // (∀ h n x dx X Y Q L env A' h₁,p h n x dx X Y Q L env A' h₁) → TT} := ⟨_,by
  intro f A h n x dx a b d sj sp va vb X Y T Q Z R hx hdx ha hi hb hj hd hT hpl hs hX hY hdm n1 n2 n3 k
  have hx' := minus_at hx (x_ne hx hdx)
  have lne : ∀ {l:Addr} {vs:List Value},At h.get? l (LO vs) → l ≠ dx := by
    rintro l vs hl rfl
    obtain ⟨o,ho,n1,rfl⟩ := hl
    obtain ⟨o',ho',es,n2,rfl,_⟩ := hdx
    rw [ho] at ho'
    simp at ho'
  have ha' := minus_at ha (lne ha)
  have hb' := minus_at hb (lne hb)
  have hd' := minus_at hd n1
  have hT' : ∀ p ∈ T,At (minus h.get? dx) p.2.1 (IO p.2.2) := fun p hp=>minus_at (hT p hp) (n3 p hp)
  have hs' := minus_at hs n2
  apply enterM (args := ⟨[.ref x],[]⟩) (binds := [(Str.ofString "self",.ref x)]) (rest := [Str.ofString "i",Str.ofString "j",Str.ofString "answer",Str.ofString "ai",Str.ofString "bj",Str.ofString "size",Str.ofString "tag"]) (gl := []) Z R hdx
  wtm_at "ent"
  intro L env A' h₁
  revert A a b d sj sp va vb T Z R hx hdx ha hi hb hj hd hT hpl hs hX hY hdm n1 n2 n3 k hx' lne ha' hb' hd' hT' hs'
  exact @f h n x dx X Y Q L env A' h₁⟩
noncomputable def SS := pick1 (by have := neA; exact inferInstance) (un (un (un (un (un (un (un (un (un (un PP.1))))))))))
noncomputable def h := SS.1.1.1.1.1.1.1.1.1.1.1
noncomputable def n := SS.1.1.1.1.1.1.1.1.1.1.2
noncomputable def x := SS.1.1.1.1.1.1.1.1.1.2
noncomputable def dx := SS.1.1.1.1.1.1.1.1.2
noncomputable def X := SS.1.1.1.1.1.1.1.2
noncomputable def Y := SS.1.1.1.1.1.1.2
noncomputable def Q := SS.1.1.1.1.1.2
noncomputable def L := SS.1.1.1.1.2
noncomputable def env := SS.1.1.1.2
noncomputable def A' := SS.1.1.2
noncomputable def h₁ := SS.1.2
theorem main : PP.1 h n x dx X Y Q L env A' h₁ := by
  intro A a b d sj sp va vb T Z R hx hdx ha hi hb hj hd hT hpl hs hX hY hdm n1 n2 n3 k hx' lne ha' hb' hd' hT' hs' henv R' C K₁ S
  refine S.letm ?_; clear S; intro mS MS S
  wtm_at "go"
  wtm_at "ga"
  wtm_at "gb"
  rw [show (!(Value.none == Value.none)) = false from rfl]
  wtm_at "gb"
  refine W_Assign2 ?_ rfl rfl
  wtm_at "go"
  rename_i ti0 _ g0 S0 _ g1 S1
  clear S0 S
  refine W_Assign2 ?_ rfl rfl
  wtm_at "go"
  wtm_at "new"
  intro an g2 ha1 ha2 K2 S2
  wtm_at "go"
  wtm_at "sa"
  wtm_at "go"
  rename_i gA SA _ g3 S3
  clear SA S2 S1
  refine O_methS (by assumption) (by assumption) (by assumption) (by wtm_at "mem") (m203 _) (by kernel_rfl) ?_
  wtm_at "go"
  wtm_at "kp"
  refine gmb_spec (n := n) (va := va) (vb := vb) (X := X) (Y := Y) (T := T) (Z.up (minus_mono S3.keep)) (R'.le (by lia -zetaDelta)) (S3.kk hx') (S3.mm (by wtm_at "mem")) (S3.kk ha') hi (S3.kk hb') hj (S3.kk hd') (fun p hp=>S3.kk (hT' p hp)) hpl (S3.kk hs') hX hY hdm n1 n2 n3 ?_
  intro y g4 vs e1 hy hD hL hTu
  let aD : List (Str × Value) := [(Str.ofString "isjunk",.ref 269),(Str.ofString "a",.ref a),(Str.ofString "b",.ref b),(Str.ofString "autojunk",.bool true),(Str.ofString "matching_blocks",.ref y),(Str.ofString "opcodes",.ref an),(Str.ofString "fullbcount",.none),(Str.ofString "b2j",.ref d),(Str.ofString "bjunk",.ref sj),(Str.ofString "bpopular",.ref sp)]
  let MB1 (q0:OP) : List (Addr × OP) := [(an,q0),(dx,AO aD)]
  let mB2 (q1:Nat) (t1:Tok) (q2:Nat) (t2:Tok) (q4:Option Value) (q5:Option Value) (q6:Option Value) (q7:Option Value) : List (Str × Option Value) := [(Str.ofString "self",some (Value.ref x)),(Str.ofString "i",some (.int q1 t1)),(Str.ofString "j",some (.int q2 t2)),(Str.ofString "answer",some (Value.ref an)),(Str.ofString "ai",q4),(Str.ofString "bj",q5),(Str.ofString "size",q6),(Str.ofString "tag",q7)]
  have S4 := (fun (u:Upd dx (AO aD) _ (MB1 (LO [])))=>S3.growTo (S3.upd u e1 hD) (fun p hp=>u.keys ▸ List.mem_map_of_mem (f := (·.1)) hp)) (by wtm_at "upd")
  clear S3
  have hyN : At (above g3.objs.size (fun _=>none) g4) y (LO vs) := above_at hy hL
  have hTN := hTu.above (N := fun _=>none) (Nat.le_refl _)
  generalize eN0 : above g3.objs.size (fun _=>none) g4 = N0 at *
  have hvl := hTN.length
  have hml : (matchF (blks X Y 0 X.length 0 Y.length) X.length Y.length).length ≤ 13 := by
    have := @matchF_len (blks X Y 0 X.length 0 Y.length) X.length Y.length
    have := (blks_whole (X := X) (Y := Y)).len
    lia -zetaDelta
  refine iter_list S4 (S4.nn hyN) ?_
  intro I g5 K5 S5
  let Jz1 : Inv := fun i m N M=>E6 fun us ci cj ti tj u1=>E3 fun u2 u3 u4=>C5 (m = (mB2 ci ti cj tj u1 u2 u3 u4)) (Sub N0 N) (Ops h.objs.size N us (((matchF (blks X Y 0 X.length 0 Y.length) X.length Y.length).take i).foldl opS ([],0,0)).1) ((ci,cj) = (((matchF (blks X Y 0 X.length 0 Y.length) X.length Y.length).take i).foldl opS ([],0,0)).2) (M = (MB1 (LO us)))
  refine for_itrT (itr_list R'.h I y vs) Jz1 S5 ⟨_,0,0,_,_,_,_,_,_,rfl,Sub.rfl,.nil,rfl,rfl⟩ (fun i v h Q hv hi q=>?_) (fun i m N M h P hJ S=>by obtain ⟨us,ci,cj,ti,tj,u1,u2,u3,u4,rfl,sN,_,_,rfl⟩ := hJ; exact S.nn (hyN.up sN)) ?_ ?_
  · have hlt : i < (matchF (blks X Y 0 X.length 0 Y.length) X.length Y.length).length := by rw [← hvl]; exact (List.getElem?_eq_some_iff.mp hv).1
    obtain ⟨t,e,_⟩ := hTN.get (i := i) (List.getElem?_eq_getElem hlt)
    rw [e] at hv
    obtain rfl := Option.some.inj hv
    exact own_list hi q
  · rintro i v m N M g5 hilt hv ⟨us,ci,cj,ti,tj,u1,u2,u3,u4,rfl,sN,hO,hst,rfl⟩ S
    refine S.letm ?_; clear S; intro mS MS S
    have hlt : i < (matchF (blks X Y 0 X.length 0 Y.length) X.length Y.length).length := by rw [← hvl]; exact hilt
    obtain ⟨⟨bi,bj,bk⟩,hbe⟩ : ∃ b,(matchF (blks X Y 0 X.length 0 Y.length) X.length Y.length)[i]? = some b := ⟨_,List.getElem?_eq_getElem hlt⟩
    obtain ⟨t,e,hnt,hMO⟩ := hTN.get hbe
    rw [e] at hv
    obtain rfl := Option.some.inj hv
    obtain ⟨ot,hot,t0,t1,t2,hMV⟩ := S.nn (hMO.up sN)
    obtain ⟨st,est⟩ : ∃ st,st = (((matchF (blks X Y 0 X.length 0 Y.length) X.length Y.length).take i).foldl opS ([],0,0)) := ⟨_,rfl⟩
    have hst2 : ((matchF (blks X Y 0 X.length 0 Y.length) X.length Y.length).take (i + 1)).foldl opS ([],0,0) = opS st (bi,bj,bk) := by rw [List.take_add_one,hbe,Option.toList_some,List.foldl_append,← est]; rfl
    have hlen : st.1.length ≤ 2 * i := by
      rw [est]
      refine Nat.le_trans opFold_len ?_
      rw [List.length_take]
      simp only [List.length_nil]
      lia -zetaDelta
    rw [← est] at hO hst
    obtain ⟨sl,si,sj'⟩ := st
    simp only [Prod.mk.injEq] at hst
    obtain ⟨rfl,rfl⟩ := hst
    dsimp only at hO hlen
    have hlu := hO.length
    refine' W_assign_match (R'.le (by lia -zetaDelta)) (Z.up S.keep) ⟨ot,hot,hMV⟩ rfl ?y3 ?_
    case y3=>rfl
    intro g6 K6
    have S6 := S.keeps K6
    clear S
    wtm_at "go"
    rename_i S7
    clear S6
    unfold Turn
    let Qz2 : Flow → Heap → Prop := fun f g=>(f = .next) ∧ ∃ tt,St (minus h.get? dx) h.objs.size env (mB2 ci ti cj tj (some (Value.int (bi:Nat) t0)) (some (Value.int (bj:Nat) t1)) (some (Value.int (bk:Nat) t2)) (some (Value.str (Str.ofString "") tt))) N ((I,(LI y (i + 1))) :: MB1 (LO us)) g
    refine W_cons (WP.mono (Q := Qz2) ?_ ?_)
    · wtm_at "go"
      rename_i S8
      exact ⟨rfl,_,S8⟩
    rintro _ g8 ⟨rfl,tt0,S8⟩
    refine S8.letm ?_; clear S8; intro mS MS S8
    clear S7
    try dsimp only
    let Qz3 : Flow → Heap → Prop := fun f g=>(f = .next) ∧ ∃ tt,St (minus h.get? dx) h.objs.size env (mB2 ci ti cj tj (some (Value.int (bi:Nat) t0)) (some (Value.int (bj:Nat) t1)) (some (Value.int (bk:Nat) t2)) (some (Value.str (tagL ci cj bi bj) tt))) N ((I,(LI y (i + 1))) :: MB1 (LO us)) g
    refine W_cons (WP.mono (Q := Qz3) ?_ ?_)
    · by_cases c1 : ci < bi ∧ cj < bj
      · wtm_at "gb"
        rename_i S9
        show _ ∧ _
        rw [show tagL ci cj bi bj = _ from if_pos c1]
        exact ⟨rfl,_,S9⟩
      · by_cases c2 : ci < bi
        · wtm_at "gb"
          rename_i S9
          show _ ∧ _
          rw [show tagL ci cj bi bj = _ from (if_neg c1).trans (if_pos c2)]
          exact ⟨rfl,_,S9⟩
        · by_cases c3 : cj < bj
          · wtm_at "gb"
            rename_i S9
            show _ ∧ _
            rw [show tagL ci cj bi bj = _ from (if_neg c1).trans ((if_neg c2).trans (if_pos c3))]
            exact ⟨rfl,_,S9⟩
          · wtm_at "gb"
            show _ ∧ _
            rw [show tagL ci cj bi bj = _ from (if_neg c1).trans ((if_neg c2).trans (if_neg c3))]
            exact ⟨rfl,_,S8⟩
    rintro _ g9 ⟨rfl,tt1,S9⟩
    refine S9.letm ?_; clear S9; intro mS MS S9
    clear S8
    try dsimp only
    let Qz4 : Flow → Heap → Prop := fun f g=>(f = .next) ∧ E3 fun tt us2 N2=>C3 (Sub N N2) (Ops h.objs.size N2 us2 (gapF sl ci cj bi bj)) (St (minus h.get? dx) h.objs.size env (mB2 ci ti cj tj (some (Value.int (bi:Nat) t0)) (some (Value.int (bj:Nat) t1)) (some (Value.int (bk:Nat) t2)) (some (Value.str (tagL ci cj bi bj) tt))) N2 ((I,(LI y (i + 1))) :: MB1 (LO us2)) g)
    refine W_cons (WP.mono (Q := Qz4) ?_ ?_)
    · wtm_at "go"
      by_cases c : ci < bi ∨ cj < bj
      · obtain ⟨e1,e2,e3⟩ := tagL_some c
        refine O_truthy_str e2 ?_
        rw [e3,if_pos rfl]
        wtm_at "go"
        refine M_list (S9.mm (by wtm_at "mem")) F.slot_list_append F.type_list_append ?_
        wtm_at "go"
        wtm_at "new"
        intro ct g5 hct _ K5 S5
        obtain ⟨N',sN',hN',S6⟩ := S5.seal hct
        clear S5 S9
        wtm_at "go"
        wtm_at "kp"
        refine O_append S6 (by wtm_at "mem") (by rw [sizeLine_eq]; lia -zetaDelta) (by wtm_at "upd") ?_
        intro g7 S7
        wtm_at "nr"
        wtm_at "go"
        refine ⟨rfl,tt1,_,N',sN',?_,S7⟩
        unfold gapF
        rw [if_pos c,← e1]
        exact (hO.up sN' (Nat.le_refl _)).append (.cons hct (let ⟨o,ho,hP⟩ := hN'; ⟨o,ho,_,_,_,_,_,hP⟩) .nil)
      · have et := tagL_none c
        refine O_truthy_str (by rw [et]; decide +kernel) ?_
        rw [show (((tagL ci cj bi bj).length : Int) != 0) = false by rw [et]; decide +kernel,if_neg Bool.false_ne_true]
        wtm_at "go"
        refine ⟨rfl,tt1,_,N,Sub.rfl,?_,S9⟩
        unfold gapF
        rw [if_neg c]; exact hO
    rintro _ g10 ⟨rfl,tt2,us2,N2,sN2,hO2,S10⟩
    refine S10.letm ?_; clear S10; intro mS MS S10
    clear S9
    try dsimp only
    have hg2 := @gapF_len sl ci cj bi bj
    have hlu2 := hO2.length
    wtm_at "go"
    refine' W_AssignSwap (names := [Str.ofString "i",Str.ofString "j"]) ?_ ?y1 ?y2
    case y1=>rfl
    case y2=>rw [henv]; kernel_rfl
    wtm_at "go"
    wtm_at "new"
    intro cT g11 _ _ K11 T1
    refine U_tuple (R'.le (by lia -zetaDelta)) (T1.mm (by wtm_at "mem")) rfl ?_
    intro g12 K12
    have T2 := (T1.keeps K12).drop
    clear T1 S10
    wtm_at "rev"
    wtm_at "go"
    rename_i T3
    clear T2
    refine O_truthy_int ?_
    by_cases c3 : bk = 0
    · rw [show (((bk:Nat) : Int) != 0) = false by rw [c3]; rfl,if_neg Bool.false_ne_true]
      wtm_at "go"
      refine ⟨_,_,_,⟨_,bi + bk,bj + bk,_,_,_,_,_,_,rfl,sN.trans sN2,?_,?_,rfl⟩,T3⟩
      · rw [hst2]; unfold opS; dsimp only; rw [if_pos c3]; exact hO2
      · rw [hst2]; unfold opS; rfl
    · rw [show (((bk:Nat) : Int) != 0) = true by simp [c3],if_pos rfl]
      wtm_at "go"
      refine M_list (T3.mm (by wtm_at "mem")) F.slot_list_append F.type_list_append ?_
      wtm_at "go"
      wtm_at "new"
      intro ct g8 hct _ K8 S8
      obtain ⟨N3,sN3,hN3,S9⟩ := S8.seal hct
      clear S8 T3
      wtm_at "go"
      wtm_at "kp"
      refine O_append S9 (by wtm_at "mem") (by rw [sizeLine_eq]; lia -zetaDelta) (by wtm_at "upd") ?_
      intro g9 S10
      clear S9
      wtm_at "nr"
      wtm_at "go"
      refine ⟨_,_,_,⟨_,bi + bk,bj + bk,_,_,_,_,_,_,rfl,(sN.trans sN2).trans sN3,?_,?_,rfl⟩,S10⟩
      · rw [hst2]; unfold opS; dsimp only; rw [if_neg c3]
        exact (hO2.up sN3 (Nat.le_refl _)).append (.cons hct (let ⟨o,ho,hP⟩ := hN3; ⟨o,ho,_,_,_,_,_,hP⟩) .nil)
      · rw [hst2]; unfold opS; rfl
  · rintro m N M g ⟨us,ci,cj,ti,tj,u1,u2,u3,u4,rfl,sN,hO,hst,rfl⟩ S
    refine S.letm ?_; clear S; intro mS MS S
    try dsimp only
    wtm_at "go"
    wtm_at "f"
    rw [hvl,List.take_length] at hO
    refine k an _ us y (minus_ext S.keep) ?_ (S.mm (by wtm_at "mem")) (S.mm (by wtm_at "mem")) (hO.up S.per (Nat.le_refl _))
    exact ha1
end gop_specN
theorem gop_spec : gop_specN.TT := gop_specN.PP.2 fun h n x dx X Y Q L env A' h₁=>gop_specN.SS.2 gop_specN.main ((((((((((h,n),x),dx),X),Y),Q),L),env),A'),h₁)
end
section
section
variable {A:Around} {K N:Pt} {n₀:Nat} {env:Env} {m m':List (Str × Option Value)} {M M':List (Addr × OP)} {h h':Heap} {cs:List (Str × Addr)} {gl:List (Str × Value)}
theorem O_dictSet {d:Addr} {kvs:List (Int × Value)} {k:Int} {t:Tok} {v:Value} {Q:Unit → Heap → Prop} (S:St K n₀ env m N M h) (hd:(d,DO kvs) ∈ M) (hz:kvs.length ≤ sizeLine) (u:Upd d (DO (stored kvs k v)) M M') (q:∀ h',St K n₀ env m N M' h' → Q () h') : WP A (dictSet d (.int k t) v) Q h :=
  WP_lib fun s e=>by
    subst e
    exact wpAny_dictSet_pairs (hsz := hz) (isInt_self k t) (DO.of (S.mm hd)) fun h' hD' hs=>⟨_,_,rfl,q h' (S.upd u hs.extBut (DO.to hD'))⟩
theorem compLoop_dict {kx vx iter:PySem.Expr} {x:Str} {px:Pos} {ifs:List PySem.Expr} {scope:Scope} {pos:Pos} {I D:Addr} {n:Nat} {V:Nat → Value → Prop} {ent:Nat → OP} {need:Heap → Prop} {R:Heap → Prop} {E:Result → Shared → Prop}
    {mL:Option Value → List (Str × Option Value)} {RL:Option Value → List (Addr × OP)}
    (T:Itr2 A I n V ent need) (J:Nat → List (Int × Value) → Pt → Prop) (hz:n ≤ sizeLine)
    (S:St K n₀ env (mL none) N ((I,ent 0) :: (D,DO []) :: RL none) h) (hJ:J 0 [] N)
    (store:∀ u v N' e1 e2 h (Q:Unit → Heap → Prop),St K n₀ env (mL u) N' (e1 :: e2 :: RL u) h → (∀ h',St K n₀ env (mL (some v)) N' (e1 :: e2 :: RL (some v)) h' → Q () h') → WP A (storeName env x v) Q h)
    (hneed:∀ u N' h P Q,St K n₀ env (mL u) N' ((I,P) :: (D,Q) :: RL u) h → Sub N N' → need h)
    (turn:∀ i v ys N' P h3,i < n → V i v → J i ys N' → Sub N N' → St K n₀ env (mL (some v)) N' ((I,P) :: (D,DO ys) :: RL (some v)) h3 →
      TestsWP A env ifs (fun ok h4=>if ok then WP A (eval kx env) (fun kv h5=>WP A (eval vx env) (fun y h6=>E3 fun k t N''=>C4 (kv = .int k t) (Sub N' N'') (J (i + 1) (stored ys k y) N'') (St K n₀ env (mL (some v)) N'' ((I,P) :: (D,DO ys) :: RL (some v)) h6)) h5) h4
        else ∃ N'',C3 (Sub N' N'') (J (i + 1) ys N'') (St K n₀ env (mL (some v)) N'' ((I,P) :: (D,DO ys) :: RL (some v)) h4)) h3)
    (fin:∀ ys N' u h',Sub N N' → J n ys N' → St K n₀ env (mL u) N' ((D,DO ys) :: RL u) h' → R h') (s:Shared) (tk:Nat) :
    codeAny (model prg w) A (.compLoop (.DictComp kx vx [⟨.Name x px,iter,ifs,0⟩] scope pos) 0 (.ref I) (.ref D) env) (fun r s'=>(∃ h' tk',r = .ok .next ∧ s' = { s with heap := h',toks := tk' } ∧ R h') ∨ E r s') { s with heap := h,toks := tk } := by
  refine codeAny_compLoop_testsD (fun k s'=>E6 fun i ys N' u h tk=>C5 (i ≤ n ∧ k = n - i) (ys.length ≤ i ∧ Sub N N') (J i ys N') (St K n₀ env (mL u) N' ((I,ent i) :: (D,DO ys) :: RL u) h) (s' = { s with heap := h,toks := tk })) ?_ n ⟨0,[],N,none,h,tk,⟨Nat.zero_le _,rfl⟩,⟨Nat.le_refl _,Sub.rfl⟩,hJ,S,rfl⟩
  rintro k s' ⟨i,ys,N',u,h,tk,⟨hi,rfl⟩,⟨hy,hN⟩,hJ,S,rfl⟩
  have hn := hneed u N' h _ _ S hN
  by_cases hlt : i < n
  · refine (T.item i h (fun r h1=>∃ v,r = some v ∧ V i v ∧ St K n₀ env (mL u) N' ((I,ent (i + 1)) :: (D,DO ys) :: RL u) h1) hlt (S.mm List.mem_cons_self) hn fun v h1 hV ha hk=>⟨v,rfl,hV,S.upd .head hk ha⟩).go ?_
    rintro r h1 t1 ⟨v,rfl,hV,S1⟩
    dsimp only
    refine (W_assign_Name (store u v N' _ _ h1 (fun _ h2=>St K n₀ env (mL (some v)) N' ((I,ent (i + 1)) :: (D,DO ys) :: RL (some v)) h2) S1 fun h2 S2=>S2)).go (s := s) fun _ h2 t2 S2=>?_
    refine (TestsWP.run (turn i v ys N' _ h2 hlt hV hJ hN S2)).go (s := s) fun ok h3 t3 q=>?_
    cases ok with
    | false =>
      simp only [Bool.false_eq_true,if_false] at q ⊢
      obtain ⟨N'',hN2,hJ2,S3⟩ := q
      exact ⟨n - (i + 1),by lia,i + 1,ys,N'',some v,h3,t3,⟨hlt,rfl⟩,⟨by lia,hN.trans hN2⟩,hJ2,S3,rfl⟩
    | true =>
      simp only [if_true] at q ⊢
      refine q.go (s := s) fun kv h4 t4 q4=>?_
      refine q4.go (s := s) fun y h5 t5 q5=>?_
      obtain ⟨kk,kt,N'',rfl,hN2,hJ2,S4⟩ := q5
      have hl := stored_length_le ys kk y
      refine (O_dictSet (v := y) (Q := fun _ h5=>St K n₀ env (mL (some v)) N'' ((I,ent (i + 1)) :: (D,DO (stored ys kk y)) :: RL (some v)) h5) S4 (List.mem_cons_of_mem _ List.mem_cons_self) (by lia) (.tail .head) fun h5 S5=>S5).go (s := s) fun _ h5 t5 S5=>?_
      exact ⟨n - (i + 1),by lia,i + 1,stored ys kk y,N'',some v,h5,t5,⟨hlt,rfl⟩,⟨by lia,hN.trans hN2⟩,hJ2,S5,rfl⟩
  · have e : i = n := by lia
    subst e
    refine (T.done h (fun r h1=>r = none ∧ St K n₀ env (mL u) N' ((D,DO ys) :: RL u) h1) (S.mm List.mem_cons_self) hn fun h1 hk=>⟨rfl,S.off hk⟩).go ?_
    rintro r h1 t1 ⟨rfl,S1⟩
    exact .inl ⟨h1,t1,rfl,rfl,fin ys N' u h1 hN hJ S1⟩
theorem dictNew (h:Heap) : New h h.objs.size (DO []) (h.push { cls := .type "dict",dict := none,data := .dict #[] }) :=
  New.push _ rfl (by
    have hn : (h.push { cls := .type "dict",data := .dict #[] }).DictOf (intKind prg w) h.objs.size [] := Heap.DictOf.new h
    obtain ⟨o,ho,hP⟩ := DO.to hn
    rw [Heap.get?_push_size _ rfl] at ho
    cases ho
    exact hP)
noncomputable def DCGo (A:Around) (K:Pt) (n₀:Nat) (env:Env) (cs':List (Str × Addr)) (gl':List (Str × Value)) (x:Str) (ifs:List PySem.Expr) (kx vx:PySem.Expr) (Q:Value → Heap → Prop) : Value → Heap → Prop :=
  fun it h2=>E6 fun (I:Addr) (n:Nat) (V:Nat → Value → Prop) (ent:Nat → OP) (need:Heap → Prop) (J:Nat → List (Int × Value) → Pt → Prop)=>E3 fun (m:List (Str × Option Value)) (N:Pt) (M:List (Addr × OP))=>C5 (it = .ref I) (Itr2 A I n V ent need) (n ≤ sizeLine) (St K n₀ env m N ((I,ent 0) :: M) h2) (C4 (J 0 [] N) ((∀ envc u N' h (e1 e2 e3:Addr × OP),St K n₀ envc [(x,u)] N' (e1 :: e2 :: e3 :: M) h → Sub N N' → need h)) ((∀ envc i v ys N' (e1 e2 e3:Addr × OP) h3,Sc K envc cs' gl' → i < n → V i v → J i ys N' → Sub N N' → St K n₀ envc [(x,some v)] N' (e1 :: e2 :: e3 :: M) h3 → TestsWP A envc ifs (fun ok h4=>if ok then WP A (eval kx envc) (fun kv h5=>WP A (eval vx envc) (fun y h6=>E3 fun k t N''=>C4 (kv = .int k t) (Sub N' N'') (J (i + 1) (stored ys k y) N'') (St K n₀ envc [(x,some v)] N'' (e1 :: e2 :: e3 :: M) h6)) h5) h4 else ∃ N'',C3 (Sub N' N'') (J (i + 1) ys N'') (St K n₀ envc [(x,some v)] N'' (e1 :: e2 :: e3 :: M) h4)) h3)) ((∀ D ys N' h',n₀ ≤ D → Sub N N' → J n ys N' → St K n₀ env m N' ((D,DO ys) :: M) h' → Q (.ref D) h')))
theorem W_DictComp {kx vx iter:PySem.Expr} {x:Str} {px:Pos} {ifs:List PySem.Expr} {scope:Scope} {cl cs':List (Str × Addr)} {gl':List (Str × Value)} {pos:Pos} {Q:Value → Heap → Prop}
    (Z:Stat K) (Cs:Sc K env cs gl) (hok:okC (relabel scope env) (cs'.map (·.1)) gl' x = true) (hcs:∀ p ∈ cs',cl.lookup p.1 = some p.2)
    (hclos:closureFor scope env = pure cl) (hcell:(scope.names.all fun y=>y.2 != .cell) = true) (hkind:scope.kind = .function)
    (hnames:(scope.names.all fun y=>y.2 != .local || scope.names.lookup y.1 == some .local) = true)
    (hs:∀ x,foldedSetIterable iter env x = pure x)
    (hh:WP A (eval iter env) (fun xv h1=>WP A (pyIter xv) (DCGo A K n₀ env cs' gl' x ifs kx vx Q) h1) h) :
    WP A (eval (.DictComp kx vx [⟨.Name x px,iter,ifs,0⟩] scope pos) env) Q h := by
  have hok' := hok
  simp only [okC,Bool.and_eq_true,beq_iff_eq] at hok'
  intro s tk
  rw [arm_eval_DictComp]
  refine wpAny_comprehension_free (use := none) rfl hs hclos hkind (fun y hy e=>?_) (hh.go fun xv h1 t1 y=>y.go fun it h2 t2 z=>?_)
  · have := List.all_eq_true.mp hnames y hy
    rw [e] at this
    simpa using this
  obtain ⟨I,n,V,ent,need,J,m,N,M,rfl,T,hz,S,hJ,hneed,turn,fin⟩ := z
  refine wpAny_newObj_type (wpAny_newFunctionEnv (fun y hy=>by simpa using List.all_eq_true.mp hcell y hy) (by intro y hy; simp at hy) (fun h3 hns hsb=>?_) hkind)
  dsimp only at hns hsb ⊢
  have n1 : New h2 h2.objs.size (DO []) (h2.push { cls := .type "dict",dict := none,data := .dict #[] }) := dictNew h2
  have S1 := (S.born n1).swap
  generalize hH2 : h2.push { cls := .type "dict",dict := none,data := .dict #[] } = H2 at *
  have hkeep : Keep H2 h3 := fun b o e=>hsb.extBut b o (Nat.ne_of_lt (Heap.lt_size e)) (Heap.get?_push_of_some _ e)
  obtain ⟨mm,hmm,S2⟩ := S1.into (envc := compEnvC scope cl H2.objs.size env) (m' := [(x,none)]) hkeep (get?_size_none _) (Nat.le_refl _) hns hkind (fun p hp=>by rw [List.mem_singleton.mp hp]; simpa [Env.kindOf,compEnvC] using hok'.1.2) (by simp) (fun p hp=>by rw [List.mem_singleton.mp hp])
  have hD : n₀ ≤ h2.objs.size := S.newer
  have S3 : St K n₀ (compEnvC scope cl H2.objs.size env) [(x,none)] N ((I,ent 0) :: (h2.objs.size,DO []) :: (env.locals,NO mm) :: M) h3 :=
    S2.perm ((List.perm_append_comm (l₁ := [_]) (l₂ := [_,_])).append_right M)
  have Cc : Sc K (compEnvC scope cl H2.objs.size env) cs' gl' := okC.sc Z Cs hok hcs
  have loop : ∀ (s:Shared) (tk:Nat),codeAny (model prg w) A (.compLoop (.DictComp kx vx [⟨.Name x px,iter,ifs,0⟩] scope pos) 0 (.ref I) (.ref h2.objs.size) (compEnvC scope cl H2.objs.size env))
      (compPost (model prg w) A (fun _ _=>False) none (fun a s'=>∃ h' tk',s' = { s with heap := h',toks := tk' } ∧ Q a h') (.ref h2.objs.size) H2.objs.size) { s with heap := h3,toks := tk } := by
    intro s tk
    refine codeAny_mono (compLoop_dict (E := fun _ _=>False) (mL := fun u=>[(x,u)]) (RL := fun _=>(env.locals,NO mm) :: M) (R := fun h'=>∃ mc,h'.Ns H2.objs.size mc ∧ ∀ h'',Heap.SameBut H2.objs.size h' h'' → Q (.ref h2.objs.size) h'') T J hz S3 hJ
      (fun u v N' e1 e2 h Q S q=>store_local S .head q)
      (fun u N' h P Q S' hN=>hneed _ u N' h _ _ _ S' hN) (fun i v ys N' P h3 hi hV hJ hN S'=>turn _ i v ys N' _ _ _ h3 Cc hi hV hJ hN S') (fun ys N' u h' hN hJ S'=>?_) s tk) fun r s' hr=>?_
    · obtain ⟨mc,hmc,_⟩ := S'.ns
      refine ⟨mc,hmc,fun h'' hs''=>fin h2.objs.size ys N' h'' hD hN hJ ?_⟩
      have nd' := S'.nd
      simp only [List.map_cons,List.nodup_cons,List.mem_cons,not_or] at nd'
      have Sb : St K n₀ env m N' ((h2.objs.size,DO ys) :: M) h' := S.back hmm S' (List.mem_cons_of_mem _ List.mem_cons_self) (fun p hp=>by
        rcases List.mem_cons.mp hp with rfl | hp
        · exact List.mem_cons_self
        · exact List.mem_cons_of_mem _ (List.mem_cons_of_mem _ hp)) (by
          simp only [List.map_cons,List.nodup_cons,List.mem_cons,not_or]
          exact ⟨⟨fun e=>nd'.2.1.1 e.symm,nd'.2.2.1⟩,nd'.2.1.2,nd'.2.2.2⟩)
      refine Sb.butI (I := H2.objs.size) ?_ ?_ ?_ ?_ fun b o hb e=>hs''.extBut b o (by simpa using hb) e
      · exact S'.offK
      · exact S'.offN
      · intro p hp e
        rcases List.mem_cons.mp hp with rfl | hp
        · exact nd'.1.1 e.symm
        · exact nd'.1.2.2 (e ▸ List.mem_map_of_mem hp)
      · exact fun e=>nd'.1.2.1 e.symm
    · rcases hr with ⟨h',tk',rfl,rfl,mc,hmc,hq⟩ | hr
      · exact ⟨mc,hmc,fun h'' hs''=>⟨h'',tk',rfl,hq h'' hs''⟩⟩
      · exact hr.elim
  refine codeAny_compStart_dict (loop _ _) ?_
  exact (T.self h3 (fun it h'=>it = .ref I ∧ h' = h3) (S3.mm List.mem_cons_self) ⟨rfl,rfl⟩).go fun it h' tk' e=>by
    obtain ⟨rfl,rfl⟩ := e
    exact loop s tk'
theorem newFunctionEnv_cell1 {Mo:Model} {E:Value → Shared → Prop} {s:Shared} {scope:Scope} {globals:Addr} {closure:List (Str × Addr)} {qual x:Str} {func:Option Addr} {code:Value} {builtins:Addr} {outer:Env} {Q:Env → Shared → Prop}
    (hc:∀ n,cellsFrom n scope.names closure = (x,n) :: closure) (hp:∀ h,pushCells h scope.names = h.push { cls := .type "cell",data := .cell none })
    (q:Q (newEnv scope s.heap.objs.size globals ((x,s.heap.objs.size + 1) :: closure) qual func code (some outer) builtins) { s with heap := (s.heap.push { cls := .type "dict",data := .dict #[] }).push { cls := .type "cell",data := .cell none } }) :
    wpAny Mo A (newFunctionEnv scope globals closure [] qual func code (some outer) builtins) Q E s := by
  simp only [newFunctionEnv,Option.isSome_some,if_true]
  refine wpAny_bind (wpAny_alloc ?_)
  refine wpAny_bind (wpAny_layCells _ (fun name kind cells=>by cases hkc : kind == NameKind.cell <;> simp [hkc]) _ _ _ _ ?_)
  rw [hp,hc,show ({ s with heap := s.heap.push { cls := .type "dict",data := .dict #[] } } : Shared).heap.objs.size = s.heap.objs.size + 1 from Heap.size_push ..]
  simp only [List.forIn_nil]
  exact wpAny_bind (wpAny_pure (wpAny_pure q))
noncomputable def okD (sc:Scope) (cn:List Str) (gl:List (Str × Value)) : Bool := cn.all (fun y=>sc.names.lookup y == some .cell) && okGl sc gl && (sc.names.lookup ("__debug__" : Str)).isNone
theorem okD.sc {scope:Scope} {cl cs':List (Str × Addr)} {gl':List (Str × Value)} {C:Addr} (Z:Stat K) (Cs:Sc K env cs gl) (hok:okD (relabel scope env) (cs'.map (·.1)) gl' = true) (hcs:∀ p ∈ cs',cl.lookup p.1 = some p.2) :
    Sc K (compEnvC scope cl C env) cs' gl' := by
  simp only [okD,Bool.and_eq_true] at hok
  obtain ⟨⟨h1,h2⟩,h4⟩ := hok
  exact ⟨by simpa [Env.kindOf,compEnvC] using h4,Cs.g,Cs.b,fun p hp=>⟨by simpa [Env.kindOf,compEnvC] using List.all_eq_true.mp h1 p.1 (List.mem_map_of_mem hp),hcs p hp⟩,okGl.sc Z h2⟩
theorem St.back2 {envc:Env} {mc:List (Str × Option Value)} {mm:Str → Option Value} {N':Pt} {M1:List (Addr × OP)} (S:St K n₀ env m N M h) (hmm:∀ p ∈ m,∀ v,p.2 = some v → mm p.1 = some v) (S':St K n₀ envc mc N' M1 h') (hL:(env.locals,NO mm) ∈ M1) (hs:∀ p ∈ M',p ∈ M1) (nd:((env.locals :: envc.locals :: M'.map (·.1))).Nodup) :
    ∃ m2,St K n₀ env m N' ((envc.locals,NO m2) :: M') h' := by
  obtain ⟨m2,hn,_⟩ := S'.ns
  exact ⟨m2,{ S with
    ns := ⟨mm,NO.iff.mp (S'.led _ hL),hmm⟩
    keep := S'.keep
    per := S'.per
    led := fun p hp=>by
      rcases List.mem_cons.mp hp with rfl | hp
      · exact NO.iff.mpr hn
      · exact S'.led p (hs p hp)
    newN := S'.newN
    offN := S'.offMN _ hL
    offMK := fun p hp=>by
      rcases List.mem_cons.mp hp with rfl | hp
      · exact S'.offK
      · exact S'.offMK p (hs p hp)
    offMN := fun p hp=>by
      rcases List.mem_cons.mp hp with rfl | hp
      · exact S'.offN
      · exact S'.offMN p (hs p hp)
    nd := nd }⟩
noncomputable def DAGo (A:Around) (K:Pt) (n₀:Nat) (env:Env) (cl cs':List (Str × Addr)) (gl':List (Str × Value)) (scope:Scope) (x y:Str) (ifs:List PySem.Expr) (kx vx:PySem.Expr) (Q:Flow → Heap → Prop) : Value → Heap → Prop :=
  fun it h2=>E6 fun (I:Addr) (n:Nat) (V:Nat → Value → Prop) (ent:Nat → OP) (need:Heap → Prop) (J:Nat → List (Int × Value) → Pt → Prop)=>E4 fun (m:List (Str × Option Value)) (N:Pt) (M:List (Addr × OP)) (mo:Addr → List (Str × Option Value))=>C5 ((∀ D,Put y (.ref D) m (mo D))) (it = .ref I) (Itr2 A I n V ent need) (n ≤ sizeLine) (C5 (St K n₀ env m N ((I,ent 0) :: M) h2) (J 0 [] N) ((∀ envc C u N' h (e1 e2 e3:Addr × OP),St K n₀ envc [] N' (e1 :: e2 :: (C,CO u) :: e3 :: M) h → Sub N N' → need h)) ((∀ L C i v ys N' (e1 e2 e3:Addr × OP) h3,Sc K (compEnvC scope ((x,C) :: cl) L env) ((x,C) :: cs') gl' → i < n → V i v → J i ys N' → Sub N N' → St K n₀ (compEnvC scope ((x,C) :: cl) L env) [] N' (e1 :: e2 :: (C,CO (some v)) :: e3 :: M) h3 → TestsWP A (compEnvC scope ((x,C) :: cl) L env) ifs (fun ok h4=>if ok then WP A (eval kx (compEnvC scope ((x,C) :: cl) L env)) (fun kv h5=>WP A (eval vx (compEnvC scope ((x,C) :: cl) L env)) (fun y h6=>E3 fun k t N''=>C4 (kv = .int k t) (Sub N' N'') (J (i + 1) (stored ys k y) N'') (St K n₀ (compEnvC scope ((x,C) :: cl) L env) [] N'' (e1 :: e2 :: (C,CO (some v)) :: e3 :: M) h6)) h5) h4 else ∃ N'',C3 (Sub N' N'') (J (i + 1) ys N'') (St K n₀ (compEnvC scope ((x,C) :: cl) L env) [] N'' (e1 :: e2 :: (C,CO (some v)) :: e3 :: M) h4)) h3)) ((∀ D ys N' h',n₀ ≤ D → Sub N N' → J n ys N' → St K n₀ env (mo D) N' ((D,DO ys) :: M) h' → Q .next h')))
theorem W_AssignDictC {kx vx iter:PySem.Expr} {x y:Str} {px py:Pos} {ifs:List PySem.Expr} {scope:Scope} {cl cs':List (Str × Addr)} {gl':List (Str × Value)} {pos spos:Pos} {Q:Flow → Heap → Prop}
    (hsw:swapsWith (.DictComp kx vx [⟨.Name x px,iter,ifs,0⟩] scope pos) (some (.Name y py)) spos.line env = pure true)
    (Z:Stat K) (Cs:Sc K env cs gl) (hok:okD (relabel scope env) (x :: cs'.map (·.1)) gl' = true) (hcs:∀ C,∀ p ∈ (x,C) :: cs',((x,C) :: cl).lookup p.1 = some p.2)
    (hclos:closureFor scope env = pure cl) (hc1:∀ n,cellsFrom n scope.names cl = (x,n) :: cl) (hp1:∀ h,pushCells h scope.names = h.push { cls := .type "cell",data := .cell none }) (hkind:scope.kind = .function)
    (hnames:(scope.names.all fun y=>y.2 != .local || scope.names.lookup y.1 == some .local) = true)
    (hs:∀ x,foldedSetIterable iter env x = pure x)
    (hh:WP A (eval iter env) (fun xv h1=>WP A (pyIter xv) (DAGo A K n₀ env cl cs' gl' scope x y ifs kx vx Q) h1) h) :
    WP A (exec (.Assign [.Name y py] (.DictComp kx vx [⟨.Name x px,iter,ifs,0⟩] scope pos) spos) env) Q h := by
  intro s tk
  rw [exec_Assign_Name_used _ _ _ _ hsw]
  refine wpAny_bind (wpAny_standAt (wpAny_bind ?_))
  show wpAny _ A (do let _ ← comprehension (.DictComp kx vx [⟨.Name x px,iter,ifs,0⟩] scope pos) scope env _ newDict false (eval iter env) (some (assign (.Name y py) env))) _ _ _
  refine wpAny_bind (wpAny_mono (wpAny_comprehension_free (use := some (assign (.Name y py) env)) (Q := fun _ s'=>∃ h' tk',s' = { s with heap := h',toks := tk' } ∧ Q .next h') rfl hs hclos hkind (fun y' hy e=>?_) (hh.go fun xv h1 t1 z1=>z1.go fun it h2 t2 z=>?_)) (fun _ s' ⟨h',tk',e,q⟩=>wpAny_pure (wpAny_pure ⟨h',tk',e,q⟩)) fun _ _ e=>e)
  · have := List.all_eq_true.mp hnames y' hy
    rw [e] at this
    simpa using this
  obtain ⟨I,n,V,ent,need,J,m,N,M,mo,hput,rfl,T,hz,S,hJ,hneed,turn,fin⟩ := z
  refine wpAny_newObj_type (newFunctionEnv_cell1 hc1 hp1 ?_)
  dsimp only
  have n1 : New h2 h2.objs.size (DO []) (h2.push { cls := .type "dict",dict := none,data := .dict #[] }) := dictNew h2
  have S1 := (S.born n1).swap
  generalize hH2 : h2.push { cls := .type "dict",dict := none,data := .dict #[] } = H2 at *
  obtain ⟨C,eC⟩ : ∃ C,C = H2.objs.size + 1 := ⟨_,rfl⟩
  rw [← eC]
  have hszC : (H2.push { cls := .type "dict",data := .dict #[] }).objs.size = C := by rw [Heap.size_push,eC]
  have hkeep : Keep H2 (H2.push { cls := .type "dict",data := .dict #[] }) := fun b o e=>Heap.get?_push_of_some _ e
  obtain ⟨mm,hmm,S2⟩ := S1.into (envc := compEnvC scope ((x,C) :: cl) H2.objs.size env) (m' := []) hkeep (get?_size_none _) (Nat.le_refl _) (Heap.Ns.new H2 (.type "dict")) hkind (fun p hp=>nomatch hp) (by simp) (fun p hp=>nomatch hp)
  have nC : New (H2.push { cls := .type "dict",data := .dict #[] }) C (CO none) ((H2.push { cls := .type "dict",data := .dict #[] }).push { cls := .type "cell",data := .cell none }) := by
    have := New.push (P := CO none) (H2.push { cls := .type "dict",data := .dict #[] }) (o := { cls := .type "cell",data := .cell none }) rfl rfl
    rw [hszC] at this
    exact this
  have S2' := S2.born nC
  generalize (H2.push { cls := .type "dict",data := .dict #[] }).push { cls := .type "cell",data := .cell none } = h3 at *
  have hD : n₀ ≤ h2.objs.size := S.newer
  have S3 : St K n₀ (compEnvC scope ((x,C) :: cl) H2.objs.size env) [] N ((I,ent 0) :: (h2.objs.size,DO []) :: (C,CO none) :: (env.locals,NO mm) :: M) h3 :=
    S2'.perm ((List.perm_append_comm (l₁ := [_,_]) (l₂ := [_,_])).append_right M)
  have Cc : Sc K (compEnvC scope ((x,C) :: cl) H2.objs.size env) ((x,C) :: cs') gl' := okD.sc Z Cs hok (hcs C)
  have loop : ∀ (s:Shared) (tk:Nat),codeAny (model prg w) A (.compLoop (.DictComp kx vx [⟨.Name x px,iter,ifs,0⟩] scope pos) 0 (.ref I) (.ref h2.objs.size) (compEnvC scope ((x,C) :: cl) H2.objs.size env))
      (compPost (model prg w) A (fun _ _=>False) (some (assign (.Name y py) env)) (fun _ s'=>∃ h' tk',s' = { s with heap := h',toks := tk' } ∧ Q .next h') (.ref h2.objs.size) H2.objs.size) { s with heap := h3,toks := tk } := by
    intro s tk
    refine codeAny_mono (compLoop_dict (E := fun _ _=>False) (mL := fun u=>[]) (RL := fun u=>(C,CO u) :: (env.locals,NO mm) :: M) (R := fun h'=>WP A (assign (.Name y py) env (.ref h2.objs.size)) (fun _ h2=>∃ mc,h2.Ns H2.objs.size mc ∧ ∀ h'',Heap.SameBut H2.objs.size h2 h'' → Q .next h'') h') T J hz S3 hJ
      (fun u v N' e1 e2 h Q S q=>store_cell' S Cc List.mem_cons_self (List.mem_cons_of_mem _ (List.mem_cons_of_mem _ List.mem_cons_self)) (.tail (.tail .head)) q)
      (fun u N' h P Q S' hN=>hneed _ C u N' h _ _ _ S' hN) (fun i v ys N' P h3 hi hV hJ hN S'=>turn _ C i v ys N' _ _ _ h3 Cc hi hV hJ hN S') (fun ys N' u h' hN hJ S'=>?_) s tk) fun r s' hr=>?_
    · have nd' := S'.nd
      simp only [List.map_cons,List.nodup_cons,List.mem_cons,not_or] at nd'
      obtain ⟨⟨a1,a2,a3,a4⟩,⟨b1,b2,b3⟩,⟨c1,c2⟩,d1,d2⟩ := nd'
      obtain ⟨m2,Sb⟩ := S.back2 (M' := (h2.objs.size,DO ys) :: M) hmm S' (List.mem_cons_of_mem _ (List.mem_cons_of_mem _ List.mem_cons_self)) (fun p hp=>by
        rcases List.mem_cons.mp hp with rfl | hp
        · exact List.mem_cons_self
        · exact List.mem_cons_of_mem _ (List.mem_cons_of_mem _ (List.mem_cons_of_mem _ hp))) (by
          simp only [List.map_cons,List.nodup_cons,List.mem_cons,not_or]
          exact ⟨⟨fun e=>a3 e.symm,fun e=>b2 e.symm,d1⟩,⟨a1,a4⟩,b3,d2⟩)
      refine W_assign_Name (store_local Sb (hput h2.objs.size) fun h5 S5=>⟨m2,NO.iff.mp (S5.mm List.mem_cons_self),fun h6 hs6=>?_⟩)
      exact fin h2.objs.size ys N' h6 hD hN hJ (S5.off hs6.extBut)
    · rcases hr with ⟨h',tk',rfl,rfl,hq⟩ | hr
      · exact hq.go fun _ h5 t5 ⟨mc,hmc,q⟩=>⟨mc,hmc,fun h6 hs6=>⟨h6,t5,rfl,q h6 hs6⟩⟩
      · exact hr.elim
  refine codeAny_compStart_dict (loop _ _) ?_
  exact (T.self h3 (fun it h'=>it = .ref I ∧ h' = h3) (S3.mm List.mem_cons_self) ⟨rfl,rfl⟩).go fun it h' tk' e=>by
    obtain ⟨rfl,rfl⟩ := e
    exact loop s tk'
end
end
section
section
variable {A:Around} {K N:Pt} {n₀:Nat} {env:Env} {m m':List (Str × Option Value)} {M M':List (Addr × OP)} {h h':Heap} {E:Value → Shared → Prop} {s:Shared}
noncomputable def opD (o:Op) : PyData := .tuple [.str o.1,.int (o.2.1 : Nat),.int (o.2.2.1 : Nat),.int (o.2.2.2.1 : Nat),.int (o.2.2.2.2 : Nat)]
theorem Ops.reads {n:Nat} {vs:List Value} {ops:List Op} (p:Ops n h.get? vs ops) : ∃ as,ReadsAll h vs (ops.map opD) as := by
  induction p with
  | nil=>exact ⟨_,.nil⟩
  | cons ha hx _ ih =>
    obtain ⟨as,r⟩ := ih
    obtain ⟨o',ho,t0,t1,t2,t3,t4,k,rfl⟩ := hx
    exact ⟨_,.cons (.tuple ho rfl rfl (.cons (.str _ _) (.cons (.int _ _) (.cons (.int _ _) (.cons (.int _ _) (.cons (.int _ _) .nil)))))) r⟩
theorem ops_shaped {ops:List Op} (ht:∀ o ∈ ops,PyData.strOk o.1 = true) : SeqAt.shaped (.list (ops.map opD)) = true := by
  have h1 : PyData.canLayAll0 (ops.map opD) = true := by
    induction ops with
    | nil=>simp [PyData.canLayAll0]
    | cons o r ih =>
      have := ht o List.mem_cons_self
      simp only [List.map_cons,PyData.canLayAll0,Bool.and_eq_true]
      exact ⟨by simpa [opD,PyData.canLay0,PyData.canLayAll0] using this,ih fun o' ho=>ht o' (List.mem_cons_of_mem _ ho)⟩
  have h2 : PyData.depthAll (ops.map opD) ≤ 1 := by
    clear ht h1
    induction ops with
    | nil=>simp [PyData.depthAll]
    | cons o r ih=>simp only [List.map_cons,PyData.depthAll,PyData.depth]; refine Nat.max_le.mpr ⟨?_,ih⟩; simp [opD,PyData.depth,PyData.depthAll]
  unfold SeqAt.shaped
  rw [Bool.and_eq_true]
  refine ⟨by simpa only [PyData.canLay0] using h1,decide_eq_true ?_⟩
  simp only [PyData.depth]
  lia
theorem O_ne_ops {a b:Addr} {vs us:List Value} {ops:List Op} {n k l:Nat} {Q:Value → Heap → Prop} (R:Rm A n) (ht:∀ o ∈ ops,PyData.strOk o.1 = true) (ha:At h.get? a (LO vs)) (hi:Ops k h.get? vs ops) (hb:At h.get? b (LO us)) (hj:Ops l h.get? us ops) (q:Q (.bool false) h) : WP A (compareOp .NotEq (.ref a) (.ref b)) Q h :=
  WP_lib fun s e=>by
    subst e
    obtain ⟨as,ra⟩ := hi.reads
    obtain ⟨bs,rb⟩ := hj.reads
    obtain ⟨oa,hoa,na,rfl⟩ := ha
    obtain ⟨ob,hob,nb,rfl⟩ := hb
    have hs := ops_shaped ht
    refine ne_dataH (da := .list (ops.map opD)) (db := .list (ops.map opD)) (Reads.list hoa rfl rfl (by simpa using ra)) (Reads.list hob rfl rfl (by simpa using rb)) hs hs R.line ?_
    rw [SeqAt.eqv_refl _ (SeqAt.canLay_of_shaped hs)]
    exact ⟨_,_,rfl,q⟩
theorem O_ne_dict {a b:Addr} {ka kb:List (Int × Value)} {n:Nat} {Q:Value → Heap → Prop} (R:Rm A n) (la:(a == sysModules) = false) (lb:(b == sysModules) = false) (ha:At h.get? a (DO ka)) (hb:At h.get? b (DO kb)) (hlen:ka.length = kb.length)
    (hall:∀ p ∈ ka,∃ x y vs us ns,p.2 = .ref x ∧ valueAt kb p.1 = some (.ref y) ∧ At h.get? x (LO vs) ∧ At h.get? y (LO us) ∧ IntsAre vs ns ∧ IntsAre us ns) (q:Q (.bool false) h) : WP A (compareOp .NotEq (.ref a) (.ref b)) Q h :=
  WP_lib fun s e=>by
    subst e
    have hu := R.line
    have hu1 : A.in1.units + 64 < cLine := by have := R.u; show A.units + 1 + 64 < 9900; lia
    refine keq_ne (r := true) la lb (DO.of ha) (DO.of hb) (by lia) (fun hl=>?_) ?_
    · clear hlen ha hl
      induction ka with
      | nil=>exact .nil
      | cons p r ih =>
        obtain ⟨k,v⟩ := p
        obtain ⟨x,y,vs,us,ns,rfl,h2,h3,h4,h5,h6⟩ := hall _ List.mem_cons_self
        have := keq_ints (A := A) (LO.isList h3) h5 (LO.isList h4) h6 hu1
        rw [decide_eq_true rfl] at this
        exact .hit (e := true) h2 this (ih fun p hp=>hall p (List.mem_cons_of_mem _ hp))
    · rw [hlen,beq_self_eq_true]
      exact ⟨_,_,rfl,q⟩
theorem O_in_ints {l:Addr} {vs:List Value} {ns:List Int} {k:Int} {t:Tok} {Q:Value → Heap → Prop} (hl:At h.get? l (LO vs)) (hi:IntsAre vs ns) (q:Q (.bool (ns.any (· == k))) h) : WP A (compareOp .In (.int k t) (.ref l)) Q h :=
  WP_lib fun s e=>by subst e; exact in_list_ints (LO.isList hl) hi ⟨_,_,rfl,q⟩
theorem DO.ep {G:Pt} {d:Addr} {kvs:List (Int × Value)} (x:At G d (DO kvs)) : ∃ ep o,G d = some o ∧ ∀ g : Heap,g.get? d = some o → g.DictAt (intKind prg w) d kvs ep := by
  obtain ⟨o,ho,es,ep,r⟩ := x
  exact ⟨ep,o,ho,fun g hg=>⟨o,es,hg,r⟩⟩
theorem iter_dict {d:Addr} {kvs:List (Int × Value)} {ep:Nat} {Q:Value → Heap → Prop} (lo:(d == sysModules) = false) (hd:h.DictAt (intKind prg w) d kvs ep) (q:∀ I h',New h I (KI d kvs.length ep 0) h' → Q (.ref I) h') : WP A (pyIter (.ref d)) Q h :=
  WP_lib fun s e=>by
    subst e
    exact wpAny_pyIter_dict lo hd ⟨_,_,rfl,q _ _ (New.push _ rfl ⟨rfl,rfl⟩)⟩
theorem itr2_keys (hh:A.handled = none) (I d:Addr) (o:Obj) (hne:d ≠ I) (kvs:List (Int × Value)) (ep:Nat) (hD:∀ g : Heap,g.get? d = some o → g.DictAt (intKind prg w) d kvs ep) : Itr2 A I kvs.length (fun i v=>∃ k x t,kvs[i]? = some (k,x) ∧ v = .int k t) (KI d kvs.length ep) (fun h=>h.get? d = some o) where
  item := fun i h Q hi ha hn q=>(itr_keys hh I d hne kvs ep).item i h Q hi ha (hD h hn) q
  done := fun h Q ha hn q=>(itr_keys hh I d hne kvs ep).done h Q ha (hD h hn) q
  self := fun h Q ha q=>WP_lib fun s e=>by subst e; exact wpAny_pyIter_keyiter (KI.iff.mp ha) ⟨_,_,rfl,q⟩
theorem O_sorted_list {l:Addr} {vs:List Value} {ns:List Int} {Q:Value → Heap → Prop} (hl:At h.get? l (LO vs)) (hi:IntsAre vs ns) (hz:vs.length < 64) (q:∀ D h' us ms,New h D (LO us) h' → IntsAre us ms → ms.Perm ns → ms.Pairwise (· ≤ ·) → Q (.ref D) h') : WP A (call (.builtin "sorted") [.ref l]) Q h :=
  WP_lib fun s e=>by
    subst e
    refine sorted_ints (LO.isList hl) hi hz fun out ns' a1 a2 a3=>⟨_,_,rfl,q _ _ out.toList ns' ⟨fun b o e=>sortedAll_old e,get?_none_of_ge (Nat.le_succ _),Nat.le_succ _,?_⟩ a1 a2 a3⟩
    obtain ⟨e,he⟩ := sortedAll_at s.heap vs out
    exact ⟨_,he,e,by simp [seqObj]⟩
theorem hint_set {r:Addr} {Q:Bool → Shared → Prop} (hT:s.TypeIs (.ref r) "set") (h:Q false s) : wpAny (model prg w) A (Builtin.List.listLengthHint (.ref r)) Q E s := by
  unfold Builtin.List.listLengthHint
  refine wpAny_bind (wpAny_specialOf hT PySem.F.slot_set_len.lookup ?_)
  generalize hid : ("set.__len__" : String) = id0
  wp_delta
  rw [show splitId id0 = some ("set","__len__") from by subst hid; decide +kernel]
  subst hid
  refine wpAny_bind (wpAny_isInstance (T := "set") (b := true) hT (by rw [isSubtype_type]; kernel_rfl) ?_)
  refine wpAny_ite_split (fun hab=>absurd hab (by decide)) (fun _=>?_)
  refine wpAny_ite_split (fun _=>?_) (fun hab=>absurd (by decide +kernel) hab)
  refine wpAny_bind (wpAny_typeOf hT ?_)
  exact wpAny_pure h
theorem src_set {a:Addr} {o:Obj} {es:Array (Int × Value)} {ep:Nat} {t:SetTable} (T:SetAt o es ep t) : KdlSrc prg w "set" a a es.size (fun i v=>∃ e,(walkL a es ep)[i]? = some e ∧ v = e.2) (fun h=>h.get? a = some o) where
  type := fun s ho=>⟨o,ho,by rw [T.eq]⟩
  there := fun h ho=>⟨Heap.lt_size ho,Heap.lt_size ho⟩
  keep := fun h h' ho hk=>hk a (.inl rfl) o ho
  notList := by decide
  notTuple := by decide
  hint := fun A E s Q ho q=>hint_set ⟨o,ho,by rw [T.eq]⟩ q
  iter := fun A s hh ho=>⟨_,SW s.heap.objs.size a o es ep t,fun E Q q=>iter_set_any ho T q,Walks.set hh _ _ (Nat.ne_of_lt (Heap.lt_size ho)) T,⟨⟨_,Heap.get?_push_size _ rfl,0,rfl,rfl,fun _=>below_eq T.tab.rise (Nat.zero_le _) (fun k hk=>by lia) (fun k _ _=>Nat.zero_le _)⟩,Heap.get?_push_of_some _ ho⟩⟩
theorem O_sorted_set {a:Addr} {ks:List Int} {n:Nat} {Q:Value → Heap → Prop} (R:Rm A n) (ha:At h.get? a (KO ks)) (hz:ks.length < 64) (q:∀ D h' us ms,Bn h D (LO us) h' → IntsAre us ms → ms.Perm ks → ms.Pairwise (· ≤ ·) → Q (.ref D) h') : WP A (call (.builtin "sorted") [.ref a]) Q h :=
  WP_lib fun s e=>by
    subst e
    obtain ⟨o,ho,es,ep,t,T,hp⟩ := ha
    have hl : (walkL a es ep).length = es.size := by rw [walk_perm.length_eq,Array.length_toList]
    have hlk : es.size = ks.length := by have := hp.length_eq; simpa using this
    refine Calls.call_function_entry kind_sorted plain_sorted entry_sorted (args_sorted1 _) ?_
    unfold Builtin.«sorted»
    refine wpAny_bind (m := checkCount "sorted" 1 1 _) (wpAny_pure ?_)
    refine wpAny_bind (kdu_collect (src_set T) R.h ho (by rw [sizeLine_eq]; lia) fun h1 tk acc hk hacc=>?_)
    have hacc' : acc.toList = (walkL a es ep).map (·.2) := by
      refine List.ext_getElem? fun i=>?_
      rw [Array.getElem?_toList]
      cases hi : acc[i]? with
      | none =>
        have : es.size ≤ i := by rw [← hacc.1]; exact Array.getElem?_eq_none_iff.mp hi
        rw [List.getElem?_eq_none (by rw [List.length_map]; lia)]
      | some v =>
        obtain ⟨e,he,rfl⟩ := hacc.2 i v hi
        rw [List.getElem?_map,he]; rfl
    have hints : ∀ l : List (Int × Value),(∀ e ∈ l,∃ tk,e.2 = .int e.1 tk) → IntsAre (l.map (·.2)) (l.map (·.1)) := by
      intro l hl
      induction l with
      | nil=>exact .nil
      | cons e r ih =>
        obtain ⟨tk,h2⟩ := hl e List.mem_cons_self
        simp only [List.map_cons]
        rw [h2]
        exact .cons _ _ (ih fun e he=>hl e (List.mem_cons_of_mem _ he))
    have hI : IntsAre acc.toList ((walkL a es ep).map (·.1)) := by
      rw [hacc']
      exact hints _ fun e he=>let ⟨tk,h1,_⟩ := T.el e (walk_perm.mem_iff.mp he); ⟨tk,h1⟩
    have hP : ((walkL a es ep).map (·.1)).Perm ks := (walk_perm.map _).trans hp
    have hlen : acc.toList.length < 64 := by rw [hI.length,List.length_map]; lia
    refine wpAny_bind (wpAny_newList ?_)
    have hoL : (h1.push (seqObj "list" acc.toList.toArray 0)).get? h1.objs.size = some (seqObj "list" acc.toList.toArray 0) := Heap.get?_push_size _ rfl
    refine wpAny_bind (wpAny_holding (wpAny_call_entry slot_list_sort ⟨_,hoL,rfl⟩ entry_list_sort (list_sort_tree hoL hI hlen fun out ns' a1 a2 a3=>⟨_,rfl,?_⟩) (args_list_sort _)))
    refine wpAny_pure ⟨_,rfl,_,_,rfl,q h1.objs.size _ out.toList ns' ⟨fun b o e=>?_,fun b o e=>Heap.lt_size (hk b o e),?_⟩ a1 (a2.trans hP) a3⟩
    · have hlt := Heap.lt_size (hk b o e)
      rw [sortedHeap_old (Nat.ne_of_lt hlt) (by rw [size_push']; exact Nat.lt_succ_of_lt hlt),Heap.get?_push_ne _ _ _ (Nat.ne_of_lt hlt)]
      exact hk b o e
    · obtain ⟨e,he⟩ := sortedHeap_at (out := out) hoL
      exact ⟨_,he,e,by simp [seqObj]⟩
end
end
section
section
variable {A:Around} {K N:Pt} {n₀:Nat} {env:Env} {m m':List (Str × Option Value)} {M M':List (Addr × OP)} {h h':Heap} {cs:List (Str × Addr)} {gl:List (Str × Value)}
theorem enterF {qual:Str} {params:Arguments} {body:List Stmt} {scope:Scope} {dV kV doc pm cdv:Value} {o:Obj} {f:Addr} {vals:List Value} {binds lb:List (Str × Value)} {cv:List (Str × Nat × Option Value)} {rest:List Str} {gl:List (Str × Value)} {m:List (Str × Option Value)} {Q:Value → Heap → Prop}
    (Z:Stat h.get?) (R:Rm A (n + 1))
    (ho:h.get? f = some o) (hdat:o.data = .func { docDef qual params body scope pm cdv doc with defaults := dV,kwdefaults := kV }) (hcd:h.CodeRec cdv qual)
    (hbind:bindArgs { docDef qual params body scope pm cdv doc with defaults := dV,kwdefaults := kV } ⟨vals,[]⟩ = pure binds)
    (hbk:(binds.map (·.1)).all (fun x=>scope.names.lookup x == some .local || (scope.names.lookup x == some .cell && ((cellsFrom 0 scope.names []).lookup x).isSome)) = true)
    (hlb:∀ p ∈ lb,bindL (fun x=>scope.names.lookup x) binds (fun _=>none) p.1 = some p.2)
    (hcv:∀ p ∈ cv,bindC (fun x=>scope.names.lookup x) binds (fun _=>none) p.1 = p.2.2)
    (hcl:∀ L,∀ p ∈ cv,(cellsFrom (L + 1) scope.names []).lookup p.1 = some (L + 1 + p.2.1))
    (hck:(cv.map (·.1)).all (fun x=>scope.names.lookup x == some .cell) = true) (hcn:decide ((cv.map (·.2.1)).Nodup) = true)
    (hsc:okScope scope (lb.map (·.1)) rest = true) (hgl:okGl scope gl = true)
    (hco:scope.isCoroutine = false) (hgen:scope.isGenerator = false) (hk:scope.kind = .function)
    (hm:mk0 lb rest = m)
    (k:∀ L env A' h₁,env = envOfC qual scope L f cdv → Rm A' n → Sc h.get? env (cv.map fun p=>(p.1,L + 1 + p.2.1)) gl → Keep h h₁ → St h.get? h.objs.size env m (fun _=>none) (cv.map fun p=>(L + 1 + p.2.1,CO p.2.2)) h₁ →
      WP A' (execs body env) (RetQ Q) h₁) :
    WP A (call (.ref f) vals []) Q h := by
  intro s tk
  have hsc' := hsc
  simp only [okScope,Bool.and_eq_true,List.all_eq_true,beq_iff_eq,decide_eq_true_eq] at hsc
  obtain ⟨⟨hl,hnd⟩,hdb⟩ := hsc
  have hdb : scope.names.lookup ("__debug__" : Str) = none := by simpa using hdb
  refine wpAny_call ?_
  refine codeAny_call_cells (fd := { docDef qual params body scope pm cdv doc with defaults := dV,kwdefaults := kV }) (body := body) (binds := binds) R.room ho hdat Z.nolimit hcd rfl hbind rfl ?_ (fun s₁ X=>?_) hco hgen hk
  · intro x hx
    have := List.all_eq_true.mp hbk x.1 (List.mem_map_of_mem hx)
    rcases Bool.or_eq_true_iff.mp this with q | q
    · exact .inl (by show scope.names.lookup x.1 = some .local; simpa using q)
    · rw [Bool.and_eq_true,beq_iff_eq] at q
      refine .inr ⟨q.1,?_⟩
      exact cellsFrom_some _ _ _ (.inl q.1)
  · have hX := X
    obtain ⟨h₁,tk₁,rfl,_⟩ := X.done
    have keep : Keep h h₁ := X.toInCall.keep
    have hcadr : ∀ p ∈ cv,h₁.IsCell (h.objs.size + 1 + p.2.1) p.2.2 := fun p hp=>by
      rw [← hcv p hp]
      exact X.cell p.1 _ (hcl h.objs.size p hp)
    have hnew : ∀ p ∈ cv,h.get? (h.objs.size + 1 + p.2.1) = none := fun p hp=>get?_none_of_ge (by lia)
    have hnd2 : (cv.map (·.2.1)).Nodup := of_decide_eq_true hcn
    have S : St h.get? h.objs.size (envOfC qual scope h.objs.size f cdv) (mk0 lb rest) (fun _=>none) (cv.map fun p=>(h.objs.size + 1 + p.2.1,CO p.2.2)) h₁ := by
      refine ⟨hk,?_,?_,⟨_,X.toInCall.ns,?_⟩,keep,(fun _ _ e=>nomatch e),?_,Nat.le_refl _,(fun _ _ e=>nomatch e),get?_size_none h,rfl,?_,?_,?_⟩
      · intro p hp
        refine hl p.1 ?_
        rw [← mk0_keys]; exact List.mem_map_of_mem hp
      · rw [mk0_keys]; exact hnd
      · intro p hp v hv
        unfold mk0 at hp
        rcases List.mem_append.mp hp with hp | hp
        · obtain ⟨q,hq,rfl⟩ := List.mem_map.mp hp
          cases hv
          exact hlb q hq
        · obtain ⟨x,_,rfl⟩ := List.mem_map.mp hp
          cases hv
      · intro p hp
        obtain ⟨q,hq,rfl⟩ := List.mem_map.mp hp
        exact hcadr q hq
      · intro p hp
        obtain ⟨q,hq,rfl⟩ := List.mem_map.mp hp
        exact hnew q hq
      · intro p hp; rfl
      · rw [List.nodup_cons,List.map_map]
        refine ⟨fun hm'=>?_,?_⟩
        · obtain ⟨q,hq,e⟩ := List.mem_map.mp hm'
          have e' : h.objs.size + 1 + q.2.1 = h.objs.size := e
          lia
        · have : ((fun x:Addr × OP=>x.1) ∘ fun p : Str × Nat × Option Value=>(h.objs.size + 1 + p.2.1,CO p.2.2)) = fun p=>h.objs.size + 1 + p.2.1 := rfl
          rw [this]
          rw [show (cv.map fun p : Str × Nat × Option Value=>h.objs.size + 1 + p.2.1) = (cv.map (·.2.1)).map (h.objs.size + 1 + ·) by rw [List.map_map]; rfl]
          exact List.pairwise_map.mpr (hnd2.imp fun hne e=>hne (Nat.add_left_cancel e))
    have C : Sc h.get? (envOfC qual scope h.objs.size f cdv) (cv.map fun p=>(p.1,h.objs.size + 1 + p.2.1)) gl := ⟨hdb,rfl,rfl,fun p hp=>by
      obtain ⟨q,hq,rfl⟩ := List.mem_map.mp hp
      have := List.all_eq_true.mp hck q.1 (List.mem_map_of_mem hq)
      exact ⟨by show scope.names.lookup q.1 = some .cell; simpa using this,hcl _ q hq⟩,okGl.sc Z hgl⟩
    refine wpAny_mono (k h.objs.size _ _ h₁ rfl R.deeper C keep (hm ▸ S) s _) (fun fl s' ⟨h',tk',e,q⟩=>⟨h',tk',e,?_⟩) fun _ _ x=>x.elim
    cases fl <;> exact q
theorem St.loan {d:Addr} {P:OP} (S:St K n₀ env m N M h) (x:At N d P) (hK:K d = none) : St K n₀ env m (minus N d) ((d,P) :: M) h :=
  { S with
    per := minus_sub.trans S.per
    newN := fun a o e=>S.newN a o (minus_sub a o e)
    led := fun p hp=>by
      rcases List.mem_cons.mp hp with rfl | hp
      · exact x.up S.per
      · exact S.led p hp
    offN := by unfold minus; split; rfl; exact S.offN
    offMK := fun p hp=>by
      rcases List.mem_cons.mp hp with rfl | hp
      · exact hK
      · exact S.offMK p hp
    offMN := fun p hp=>by
      unfold minus
      rcases List.mem_cons.mp hp with rfl | hp
      · rw [if_pos rfl]
      · split
        · rfl
        · exact S.offMN p hp
    nd := by
      obtain ⟨o,ho,_⟩ := x
      have nd := S.nd
      rw [List.nodup_cons] at nd
      simp only [List.map_cons,List.nodup_cons,List.mem_cons,not_or]
      refine ⟨⟨?_,nd.1⟩,fun hm=>?_,nd.2⟩
      · rintro rfl
        have := S.offN
        rw [ho] at this; cases this
      · obtain ⟨p,hp,rfl⟩ := List.mem_map.mp hm
        have := S.offMN p hp
        rw [ho] at this; cases this }
theorem St.newK {d:Addr} (S:St K n₀ env m N M h) (hd:h.objs.size ≤ d) : K d = none := by
  cases e : K d with
  | none=>rfl
  | some o=>exact absurd (Heap.lt_size (S.keep _ _ e)) (Nat.not_lt.mpr hd)
end
end
section
theorem pkSM : peek (KM w.params) ⟨(model prg w).prog,(model prg w).w.params⟩ (keeperOf (.ref 242)) = some .machine := by kernel_rfl
theorem Kp_sm {A:Around} {h:Heap} (Z:Stat h.get?) : Kp A (.ref 242) h := WP_lib fun s e=>by subst e; exact (Looks.of_peek Z.inn (pkSM)).here ⟨_,_,rfl,rfl⟩
theorem lsl_six {ns:List Int} : (lsl ns none (some 6)).length ≤ 6 := by
  unfold lsl
  rw [List.length_take]
  refine Nat.le_trans (Nat.min_le_left _ _) ?_
  simp only [Option.elim,clipAt]
  lia
theorem stored_at {kvs:List (Int × Value)} {k q:Int} {v:Value} : valueAt (stored kvs k v) q = if q = k then some v else valueAt kvs q := by
  unfold valueAt stored
  split
  · rename_i h
    induction kvs with
    | nil=>simp at h
    | cons p r ih =>
      rw [List.map_cons,List.find?_cons,List.find?_cons]
      by_cases hp : p.1 = k
      · rw [if_pos hp]
        by_cases hq : q = k
        · simp [hp,hq]
        · have : ¬ (p.1 = q) := fun e=>hq (by rw [← e,hp])
          simp only [this,decide_false,if_neg hq]
          by_cases hr : r.any (fun kv=>decide (kv.1 = k)) = true
          · have := ih hr
            rw [if_neg hq] at this
            exact this
          · have e : (r.map fun kv=>if kv.1 = k then (kv.1,v) else kv) = r := by
              conv=>rhs; rw [← List.map_id r]
              refine List.map_congr_left fun x hx=>?_
              have : ¬ x.1 = k := fun e=>hr (List.any_eq_true.mpr ⟨x,hx,by simp [e]⟩)
              rw [if_neg this]; rfl
            rw [e]
      · rw [if_neg hp]
        have hr : r.any (fun kv=>decide (kv.1 = k)) = true := by
          rw [List.any_cons] at h
          simpa [hp] using h
        have := ih hr
        by_cases hpq : p.1 = q
        · have : ¬ q = k := fun e=>hp (by rw [hpq,e])
          simp [hpq,this]
        · simp only [hpq,decide_false]
          exact this
  · rename_i h
    have hn : ∀ x ∈ kvs,¬ x.1 = k := fun x hx e=>h (List.any_eq_true.mpr ⟨x,hx,by simp [e]⟩)
    rw [List.find?_append]
    by_cases hq : q = k
    · have : kvs.find? (fun kv=>decide (kv.1 = q)) = none := List.find?_eq_none.mpr fun x hx=>by simp [hq,hn x hx]
      rw [this]; simp [hq]
    · have : [(k,v)].find? (fun kv=>decide (kv.1 = q)) = none := List.find?_eq_none.mpr fun x hx=>by
        rw [List.mem_singleton.mp hx]; simpa using fun e=>hq e.symm
      rw [this,Option.or_none,if_neg hq]
noncomputable def kdF (xs:List Int) : List (Int × Value) := xs.foldl (fun ys x=>stored ys x (.bool (keptB x))) []
theorem kdF_snoc {xs:List Int} {x:Int} : kdF (xs ++ [x]) = stored (kdF xs) x (.bool (keptB x)) := by unfold kdF; rw [List.foldl_append]; rfl
theorem list_snoc_ind {α:Type} {P:List α → Prop} (h0:P []) (h1:∀ l a,P l → P (l ++ [a])) (l:List α) : P l := by
  rw [← List.reverse_reverse l]
  generalize l.reverse = r
  induction r with
  | nil=>exact h0
  | cons a r ih=>rw [List.reverse_cons]; exact h1 _ _ ih
theorem tells_kd {xs:List Int} {x:Int} : x ∈ xs → valueAt (kdF xs) x = some (.bool (keptB x)) := by
  refine list_snoc_ind (P := fun xs=>x ∈ xs → valueAt (kdF xs) x = some (.bool (keptB x))) (fun h=>nomatch h) (fun l a ih h=>?_) xs
  rw [kdF_snoc,stored_at]
  by_cases e : x = a
  · rw [if_pos e,e]
  · rw [if_neg e]
    exact ih ((List.mem_append.mp h).elim id fun h=>absurd (List.mem_singleton.mp h) e)
theorem stored_keys {kvs:List (Int × Value)} {k:Int} {v:Value} : (stored kvs k v).map (·.1) = if k ∈ kvs.map (·.1) then kvs.map (·.1) else kvs.map (·.1) ++ [k] := by
  unfold stored
  by_cases h : kvs.any (fun kv=>decide (kv.1 = k)) = true
  · rw [if_pos h,if_pos (by obtain ⟨x,hx,e⟩ := List.any_eq_true.mp h; exact List.mem_map.mpr ⟨x,hx,by simpa using e⟩),List.map_map]
    refine List.map_congr_left fun x _=>?_
    show (if x.1 = k then (x.1,v) else x).1 = x.1
    split <;> rfl
  · rw [if_neg h,if_neg (fun hm=>by obtain ⟨x,hx,e⟩ := List.mem_map.mp hm; exact h (List.any_eq_true.mpr ⟨x,hx,by simp [e]⟩)),List.map_append]; rfl
theorem kd_keys {xs:List Int} : ((kdF xs).map (·.1)).Nodup ∧ ∀ x,x ∈ (kdF xs).map (·.1) ↔ x ∈ xs := by
  refine list_snoc_ind (P := fun xs=>((kdF xs).map (·.1)).Nodup ∧ ∀ x,x ∈ (kdF xs).map (·.1) ↔ x ∈ xs) ⟨List.nodup_nil,fun x=>Iff.rfl⟩ (fun l a ih=>?_) xs
  rw [kdF_snoc,stored_keys]
  by_cases h : a ∈ (kdF l).map (·.1)
  · rw [if_pos h]
    refine ⟨ih.1,fun x=>(ih.2 x).trans ?_⟩
    rw [List.mem_append,List.mem_singleton]
    exact ⟨.inl,fun h'=>h'.elim id fun e=>e ▸ (ih.2 a).mp h⟩
  · rw [if_neg h]
    refine ⟨List.nodup_append.mpr ⟨ih.1,by simp,fun x hx y hy e=>h (by rw [List.mem_singleton] at hy; rw [← hy,← e]; exact hx)⟩,fun x=>?_⟩
    rw [List.mem_append,List.mem_append,ih.2 x]
theorem kd_len {xs:List Int} : (kdF xs).length ≤ xs.length := by
  refine list_snoc_ind (P := fun xs=>(kdF xs).length ≤ xs.length) (Nat.le_refl _) (fun l a ih=>?_) xs
  rw [kdF_snoc,List.length_append]
  exact Nat.le_trans (stored_length_le _ _ _) (by simp; lia)
theorem gapF_tags {ops:List Op} {i j x y:Nat} (h:∀ o ∈ ops,PyData.strOk o.1 = true) : ∀ o ∈ gapF ops i j x y,PyData.strOk o.1 = true := by
  unfold gapF
  split
  · intro o ho
    rcases List.mem_append.mp ho with ho | ho
    · exact h o ho
    · rw [List.mem_singleton.mp ho]
      show PyData.strOk (tagOf i j x y) = true
      unfold tagOf
      split
      · decide +kernel
      · split <;> decide +kernel
  · exact h
theorem opFold_tags (bs:List Blk) : ∀ {s:List Op × Nat × Nat},(∀ o ∈ s.1,PyData.strOk o.1 = true) → ∀ o ∈ (bs.foldl opS s).1,PyData.strOk o.1 = true := by
  induction bs with
  | nil=>exact fun h=>h
  | cons b bs ih =>
    intro s h
    rw [List.foldl_cons]
    refine ih ?_
    unfold opS
    dsimp only
    split
    · exact gapF_tags h
    · intro o ho
      rcases List.mem_append.mp ho with ho | ho
      · exact gapF_tags h o ho
      · rw [List.mem_singleton.mp ho]
        show PyData.strOk (Str.ofString "equal") = true
        decide +kernel
theorem tags_ok {bs:List Blk} : ∀ o ∈ opF bs,PyData.strOk o.1 = true := opFold_tags bs fun o h=>nomatch h
theorem sort_eq {a b:List Int} (hp:a.Perm b) (h1:a.Pairwise (· ≤ ·)) (h2:b.Pairwise (· ≤ ·)) : a = b := by
  induction a generalizing b with
  | nil=>exact (List.nil_perm.mp hp).symm
  | cons x a ih =>
    cases b with
    | nil=>exact absurd hp.length_eq (by simp)
    | cons y b =>
      have hx : x ∈ y :: b := hp.mem_iff.mp List.mem_cons_self
      have hy : y ∈ x :: a := hp.mem_iff.mpr List.mem_cons_self
      have e : x = y := by
        rcases List.mem_cons.mp hx with e | hx
        · exact e
        · rcases List.mem_cons.mp hy with e | hy
          · exact e.symm
          · exact Int.le_antisymm ((List.pairwise_cons.mp h1).1 y hy) ((List.pairwise_cons.mp h2).1 x hx)
      subst e
      rw [ih (List.perm_cons x |>.mp hp) (List.pairwise_cons.mp h1).2 (List.pairwise_cons.mp h2).2]
theorem b2jF_mem {Y:List Int} {k:Int} : k ∈ (b2jF Y).map (·.1) ↔ k ∈ Y := by
  refine ⟨b2jN_keys (Nat.le_refl _) k,fun h=>?_⟩
  obtain ⟨j,hj,e⟩ := List.getElem_of_mem h
  have := (@b2jN_places Y Y.length).2.1 j hj
  rw [List.getD_eq_getElem?_getD,List.getElem?_eq_getElem hj,Option.getD_some,e] at this
  exact this
theorem junk_perm {X Y:List Int} : (((kdF (X ++ Y)).map (·.1)).filter fun k=>Y.any (· == k) && !keptB k).Perm (((b2jF Y).map (·.1)).filter fun y=>!keptB y) := by
  refine (List.perm_ext_iff_of_nodup (kd_keys.1.filter _) ((@b2jN_places Y Y.length).2.2.filter _)).mpr fun k=>?_
  show _ ↔ k ∈ ((b2jF Y).map (·.1)).filter _
  rw [List.mem_filter,List.mem_filter,kd_keys.2,b2jF_mem,Bool.and_eq_true,List.mem_append]
  constructor
  · rintro ⟨_,h1,h2⟩
    obtain ⟨y,hy,e⟩ := List.any_eq_true.mp h1
    exact ⟨by rw [← beq_iff_eq.mp e]; exact hy,h2⟩
  · rintro ⟨h1,h2⟩
    exact ⟨.inr h1,List.any_eq_true.mpr ⟨k,h1,beq_self_eq_true k⟩,h2⟩
noncomputable def PJ (Y:List Int) (i:Nat) (ys:List (Int × Value)) (N:Pt) : Prop :=
  (∀ k,k ∈ Y.take i → keptB k = true → ∃ y us,valueAt ys k = some (.ref y) ∧ At N y (LO us) ∧ IntsAre us (places Y Y.length k)) ∧ ys.map (·.1) = ((kdF (Y.take i)).map (·.1)).filter keptB
theorem PJ.nil {Y:List Int} {N:Pt} : PJ Y 0 [] N := ⟨fun k h=>by simp at h,rfl⟩
theorem PJ.skip {Y:List Int} {i:Nat} {ys:List (Int × Value)} {N:Pt} {k:Int} (h:PJ Y i ys N) (hq:Y[i]? = some k) (hk:keptB k = false) : PJ Y (i + 1) ys N := by
  have e : Y.take (i + 1) = Y.take i ++ [k] := by rw [List.take_add_one,hq]; rfl
  refine ⟨fun q hq2 hkq=>h.1 q ?_ hkq,?_⟩
  · rw [e] at hq2
    rcases List.mem_append.mp hq2 with h | h
    · exact h
    · rw [List.mem_singleton.mp h,hk] at hkq; cases hkq
  · rw [h.2,e,kdF_snoc,stored_keys]
    split
    · rfl
    · rw [List.filter_append]; simp [hk]
theorem PJ.put {Y:List Int} {i:Nat} {ys:List (Int × Value)} {N N':Pt} {k:Int} {y:Addr} {us:List Value} (h:PJ Y i ys N) (s:Sub N N') (hq:Y[i]? = some k) (hk:keptB k = true) (hy:At N' y (LO us)) (hu:IntsAre us (places Y Y.length k)) : PJ Y (i + 1) (stored ys k (.ref y)) N' := by
  have e : Y.take (i + 1) = Y.take i ++ [k] := by rw [List.take_add_one,hq]; rfl
  refine ⟨fun q hq2 hkq=>?_,?_⟩
  · rw [stored_at]
    by_cases hqk : q = k
    · subst hqk
      exact ⟨y,us,if_pos rfl,hy,hu⟩
    · rw [if_neg hqk]
      rw [e] at hq2
      rcases List.mem_append.mp hq2 with h' | h'
      · obtain ⟨y',us',h1,h2,h3⟩ := h.1 q h' hkq
        exact ⟨y',us',h1,h2.up s,h3⟩
      · exact absurd (List.mem_singleton.mp h') hqk
  · rw [stored_keys,h.2,e,kdF_snoc,stored_keys]
    by_cases hm : k ∈ (kdF (Y.take i)).map (·.1)
    · rw [if_pos (List.mem_filter.mpr ⟨hm,hk⟩),if_pos hm]
    · rw [if_neg (fun h=>hm (List.mem_filter.mp h).1),if_neg hm,List.filter_append]
      simp [hk]
theorem places_len {Y:List Int} {T:Tab} {ys:List (Int × Value)} {N:Pt} (hpl:plT T = (b2jF Y).filter fun p=>keptB p.1) (hJ:PJ Y Y.length ys N) : (kvT T).length = ys.length := by
  have h1 : (kvT T).length = ((plT T).map (·.1)).length := by simp [kvT,plT]
  have h2 : (plT T).map (·.1) = ((b2jF Y).map (·.1)).filter keptB := by
    rw [hpl]
    generalize b2jF Y = B
    induction B with
    | nil=>rfl
    | cons p r ih =>
      rw [List.map_cons,List.filter_cons,List.filter_cons]
      split
      · rw [List.map_cons,ih]
      · exact ih
  have h3 : (((b2jF Y).map (·.1)).filter keptB).Perm (ys.map (·.1)) := by
    rw [hJ.2,List.take_length]
    refine (List.perm_ext_iff_of_nodup ((@b2jN_places Y Y.length).2.2.filter _) (kd_keys.1.filter _)).mpr fun k=>?_
    show k ∈ ((b2jF Y).map (·.1)).filter _ ↔ _
    rw [List.mem_filter,List.mem_filter,kd_keys.2,b2jF_mem]
  rw [h1,h2,h3.length_eq,List.length_map]
theorem places_all {Y:List Int} {T:Tab} {ys:List (Int × Value)} {N:Pt} {h:Heap} (hpl:plT T = (b2jF Y).filter fun p=>keptB p.1) (hJ:PJ Y Y.length ys N) (hT:∀ p ∈ T,At h.get? p.2.1 (IO p.2.2)) (s:Sub N h.get?) :
    ∀ p ∈ kvT T,∃ x y vs us ns,p.2 = .ref x ∧ valueAt ys p.1 = some (.ref y) ∧ At h.get? x (LO vs) ∧ At h.get? y (LO us) ∧ IntsAre vs ns ∧ IntsAre us ns := by
  intro p hp
  obtain ⟨t,ht,rfl⟩ := List.mem_map.mp hp
  have hm : (t.1,t.2.2) ∈ (b2jF Y).filter fun p=>keptB p.1 := by rw [← hpl]; exact List.mem_map_of_mem (f := fun p : Int × Addr × List Int=>(p.1,p.2.2)) ht
  obtain ⟨h1,h2⟩ := List.mem_filter.mp hm
  have h3 : t.2.2 = places Y Y.length t.1 := (@b2jN_places Y Y.length).1 _ h1
  have h4 : t.1 ∈ Y := b2jF_mem.mp (List.mem_map.mpr ⟨_,h1,rfl⟩)
  obtain ⟨y,us,e1,e2,e3⟩ := hJ.1 t.1 (by rw [List.take_length]; exact h4) h2
  obtain ⟨vs,e4,e5⟩ := IO.lo (hT t ht)
  rw [h3] at e5
  exact ⟨t.2.1,y,vs,us,_,rfl,e1,e4,e2.up s,e5,e3⟩
end
section
namespace law_specN
abbrev TT : Prop := ∀ {A:Around} {h:Heap} {n:Nat} {fa l:Addr} {o:Obj} {pm cdv doc:Value} {vs:List Value} {ns:List Int} (Z:Stat h.get?) (R:Rm A (n + 40)) (ho:h.get? fa = some o) (hdat:o.data = .func { docDef dLaw.name dLaw.params dLaw.body dLaw.scope pm cdv doc with defaults := .none,kwdefaults := .none }) (hcd:h.CodeRec cdv dLaw.name) (hl:At h.get? l (LO vs)) (hi:IntsAre vs ns) (hlen:ns.length ≤ 63),WP A (call (.ref fa) [.ref l] []) (fun v h'=>v = .bool true ∧ Keep h h') h
noncomputable def PP : {p:Heap → Nat → Addr → Env → Around → Heap → Prop // (∀ h n L env A' h₁,p h n L env A' h₁) → TT} := ⟨_,by
  intro f A h n fa l o pm cdv doc vs ns Z R ho hdat hcd hl hi hlen
  refine' enterF (vals := [.ref l]) (binds := [(Str.ofString "script",.ref l)]) (lb := [(Str.ofString "script",.ref l)]) (cv := [(Str.ofString "right",0,none),(Str.ofString "kept",1,none)]) (rest := [Str.ofString "numbers",Str.ofString "left",Str.ofString "matcher",Str.ofString "pairs",Str.ofString "told",Str.ofString "places"])
    (gl := [(Str.ofString "_law_rows",.ref 296),(Str.ofString "SequenceMatcher",.ref 242),(Str.ofString "header_check",.ref 269),(Str.ofString "_law_pairs",.ref 325),(Str.ofString "len",.builtin "len"),(Str.ofString "_law_told",.ref 332),(Str.ofString "sorted",.builtin "sorted"),(Str.ofString "header_encode",.ref 277),(Str.ofString "bytes",.type "bytes"),(Str.ofString "_law_written",.ref 310),(Str.ofString "_law_edited",.ref 339)]) Z R ho hdat hcd ?k9 ?d1 ?d2 ?d3 ?d4 ?d5 ?d6 ?sc ?c1 ?c2 ?c3 ?c4 ?hm ?_
  case k9=>exact rfl
  case d1=>kernel_rfl
  case d2=>wtm_at "each"
  case d3=>wtm_at "each"
  case d4=>intro L; wtm_at "each"
  case d5=>kernel_rfl
  case d6=>kernel_rfl
  case sc=>kernel_rfl
  case c1=>kernel_rfl
  case c2=>exact rfl
  case c3=>exact rfl
  case c4=>exact rfl
  case hm=>(simp only [mk0,List.map_cons,List.map_nil,List.cons_append,List.nil_append,List.append_nil]; exact rfl)
  intro L env A' h₁
  revert A fa l o pm cdv doc vs ns Z R ho hdat hcd hl hi hlen
  exact @f h n L env A' h₁⟩
noncomputable def SS := pick1 (by have := neA; exact inferInstance) (un (un (un (un (un PP.1)))))
noncomputable def h := SS.1.1.1.1.1.1
noncomputable def n := SS.1.1.1.1.1.2
noncomputable def L := SS.1.1.1.1.2
noncomputable def env := SS.1.1.1.2
noncomputable def A' := SS.1.1.2
noncomputable def h₁ := SS.1.2
theorem main : PP.1 h n L env A' h₁ := by
  intro A fa l o pm cdv doc vs ns Z R ho hdat hcd hl hi hlen henv R' C K₁ S
  dsimp only [List.map] at C S
  refine S.letm ?_; clear S; intro mS MS S
  have hlv : vs.length = ns.length := hi.length
  have hsz : 254 < h.objs.size := let ⟨o,ho,_⟩ := hv_at Z; Heap.lt_size ho
  have nosys : ∀ q : Addr,h.objs.size ≤ q → (q == sysModules) = false := fun q hq=>by
    rw [beq_eq_false_iff_ne]
    exact Nat.ne_of_gt (Nat.lt_of_lt_of_le (by show 1 < _; exact Nat.lt_trans (by decide) hsz) hq)
  let Qz1 : Flow → Heap → Prop := fun f g=>(f = .next) ∧ E3 fun c us ns=>C3 (IntsAre us ns) (ns.length ≤ 6) (St h.get? h.objs.size env [(Str.ofString "script",some (Value.ref l)),(Str.ofString "numbers",some (Value.ref c)),(Str.ofString "left",none),(Str.ofString "matcher",none),(Str.ofString "pairs",none),(Str.ofString "told",none),(Str.ofString "places",none)] (fun _=>none) ((c,LO us) :: (L + 1 + 0,CO none) :: (L + 1 + 1,CO none) :: []) g)
  refine W_cons (WP.mono (Q := Qz1) ?_ ?_)
  · wtm_at "go"
    refine O_truthy_list (S.kk hl) (by rw [sizeLine_eq]; lia -zetaDelta) ?_
    split
    · wtm_at "go"
      intro s1 g2 n2
      have S2 := S.born n2
      refine O_slice_list (S2.kk hl) (S2.mm (by wtm_at "mem")) (by rw [sizeLine_eq]; lia -zetaDelta) .none (.int _ _) ?_ (by with_unfolding_all rfl)
      intro c g3 n3
      have S3 := (S2.born n3).subl (M' := (c,LO (lsl vs none (some 6))) :: (L + 1 + 0,CO none) :: (L + 1 + 1,CO none) :: []) (by wtm_at "subl")
      wtm_at "go"
      rename_i S4
      refine ⟨rfl,c,_,_,ints_lsl hi _ _,lsl_six,S4⟩
    · wtm_at "go"
      wtm_at "new"
      rename_i t16 t0 t8 t2 t27
      intro e g2 he1 he2 K2 S2
      wtm_at "go"
      intro s1 g3 n3
      have S3 := S2.born n3
      refine O_slice_list (S3.mm (by wtm_at "mem")) (S3.mm (by wtm_at "mem")) (by wtm_at "sz") .none (.int _ _) ?_ (by with_unfolding_all rfl)
      intro c g4 n4
      have S4 := (S3.born n4).subl (M' := (c,LO (lsl [Value.int 16 t16,Value.int 0 t0,Value.int 8 t8,Value.int 2 t2,Value.int 27 t27] none (some 6))) :: (L + 1 + 0,CO none) :: (L + 1 + 1,CO none) :: []) (by wtm_at "subl")
      wtm_at "go"
      rename_i S5
      exact ⟨rfl,c,_,_,ints_lsl (.cons _ _ (.cons _ _ (.cons _ _ (.cons _ _ (.cons _ _ .nil))))) _ _,lsl_six,S5⟩
  rintro _ g1 ⟨rfl,c,us,ks,hI,hk6,S1⟩
  refine S1.letm ?_; clear S1; intro mS MS S1
  clear S
  try dsimp only
  wtm_at "go"
  refine' W_AssignTup ?_ ?y1 ?y2
  case y1=>rfl
  case y2=>rfl
  wtm_at "go"
  wtm_at "kp"
  refine rows_spec (n := n) (Z.up S1.keep) (R'.le (by lia -zetaDelta)) (S1.mm (by wtm_at "mem")) hI hk6 ?_
  intro t a b g2 la lb X Y K2 ht ha hb hT hA iX rX hB iY rY
  have S2 := (S1.grow K2).subl (M' := (L + 1 + 0,CO none) :: (L + 1 + 1,CO none) :: []) (by wtm_at "subl")
  have hAN : At (above g1.objs.size (fun _=>none) g2) a (LO la) := above_at ha hA
  have hBN : At (above g1.objs.size (fun _=>none) g2) b (LO lb) := above_at hb hB
  generalize above g1.objs.size (fun _=>none) g2 = N1 at *
  clear S1 hA hB
  refine' W_assign_Tuple (R'.le (by lia -zetaDelta)) hT rfl ?y3 ?_
  case y3=>rfl
  intro g3 K3
  have S3 := S2.keeps K3
  clear S2
  wtm_at "go"
  rename_i S4
  clear S3
  refine W_Assign ?_ (by rw [henv]; kernel_rfl)
  refine' W_DictComp (n₀ := h.objs.size) (cl := []) (cs' := []) (gl' := [(Str.ofString "_law_kept",.ref 303)]) Z C ?y1 ?y2 ?y3 ?y4 ?y5 ?y6 ?y7 ?_
  case y1=>rw [henv]; kernel_rfl
  case y2=>exact fun p hp=>nomatch hp
  case y3=>rw [henv]; kernel_rfl
  case y4=>kernel_rfl
  case y5=>rfl
  case y6=>kernel_rfl
  case y7=>intro _; rfl
  have hla : la.length = X.length := iX.length
  have hlb : lb.length = Y.length := iY.length
  have hX := rX.len
  have hY := rY.len
  wtm_at "go"
  refine O_concat (S4.nn hAN) (S4.nn hBN) (by rw [sizeLine_eq]; lia -zetaDelta) ?_
  intro ab g5 n5
  have S5 := S4.born n5
  wtm_at "go"
  refine iter_list S5 (S5.mm (by wtm_at "mem")) ?_
  intro I g6 K6 S6
  have iXY := ints_append iX iY
  refine ⟨I,(la ++ lb).length,_,LI ab,_,fun i ys _=>ys = kdF ((X ++ Y).take i),_,_,_,rfl,itr2_list R'.h I ab (la ++ lb),?_,S6,rfl,fun envc u N' h e1 e2 e3 S _=>S.mm (by wtm_at "mem"),?_,?_⟩
  · rw [sizeLine_eq,List.length_append]; lia -zetaDelta
  · intro envc i v ys N' e1 e2 e3 h3 Cc hi' hv hJ _ S7
    obtain ⟨o,to,rfl,hq⟩ := ints_get iXY hv
    have ho : 0 ≤ o ∧ o < 256 := by
      rcases List.mem_append.mp (List.mem_of_getElem? hq) with h | h
      · exact rX.oct o h
      · exact rY.oct o h
    unfold TestsWP
    try dsimp only
    rw [if_pos rfl]
    wtm_at "go"
    wtm_at "kp"
    refine kept_spec (n := n) ho.1 ho.2 (Z.up S7.keep) (R'.le (by lia -zetaDelta)) ?_
    intro h8 K8
    refine ⟨_,_,N',rfl,Sub.rfl,?_,S7.keeps K8⟩
    rw [hJ,List.take_add_one,hq,Option.toList_some]
    unfold kdF
    rw [List.foldl_append]; rfl
  intro kd ys N2 g7 hkd sN2 hJ S7
  rw [List.take_of_length_le (by rw [iXY.length]; exact Nat.le_refl _)] at hJ
  subst hJ
  clear S4 S5 S6
  wtm_at "go"
  rename_i g7s S8
  clear S7
  obtain ⟨N3,sN3,hKN,S9a⟩ := S8.seal hkd
  have hkl := let ⟨ok,hok,_⟩ := S9a.nn hKN; Heap.lt_size hok
  have S9 := S9a.subl (M' := (L + 1 + 0,CO (some (.ref b))) :: (L + 1 + 1,CO (some (.ref kd))) :: []) (by wtm_at "subl")
  have hAN := (hAN.up sN2).up sN3
  have hBN := (hBN.up sN2).up sN3
  clear S8 S9a
  refine And.intro (Kp_sm (Z.up S9.keep)) ?_
  refine O_make (n := n) (Z.up S9.keep) (R'.le (by lia -zetaDelta)) (S9.nn hBN) iY hY rY.oct ?_
  intro g8 x dx d sj sp T K8 hx0 hdx0 hxne hd0 hsj0 hsp0 hT0 hx hdx hd hT hpl hs n1 n2 n3
  have S10 := S9.grow K8
  have hxN : At (above g7s.objs.size N3 g8) x (XO 242 dx) := above_at hx0 hx
  have hdxN : At (above g7s.objs.size N3 g8) dx (AO (MA a b d sj sp .none .none)) := above_at hdx0 hdx
  have hdN : At (above g7s.objs.size N3 g8) d (DO (kvT T)) := above_at hd0 hd
  have hsN : At (above g7s.objs.size N3 g8) sj (KO (((b2jF Y).map (·.1)).filter fun y=>!keptB y)) := above_at hsj0 hs
  have hTN : ∀ p ∈ T,At (above g7s.objs.size N3 g8) p.2.1 (IO p.2.2) := fun p hp=>above_at (hT0 p hp) (hT p hp)
  have sN4 : Sub N3 (above g7s.objs.size N3 g8) := above_sub (fun a o e=>S9.per a o e) (Nat.le_refl _)
  have hAN := hAN.up sN4
  have hBN := hBN.up sN4
  have hKN := hKN.up sN4
  have hdK := S9.newK hdx0
  have hnd : (d == sysModules) = false := nosys d (Nat.le_trans S9.newer hd0)
  generalize above g7s.objs.size N3 g8 = N4 at *
  have S11 := S10.loan hdxN hdK
  have lne : ∀ {q:Addr} {vs:List Value},At N4 q (LO vs) → q ≠ dx := by
    rintro q vs hl rfl
    obtain ⟨o,ho,n1,rfl⟩ := hl
    obtain ⟨o',ho',es,n2,rfl,_⟩ := hdxN
    rw [ho] at ho'
    simp at ho'
  have kne : kd ≠ dx := by
    rintro rfl
    exact absurd hkl (Nat.not_lt.mpr hdx0)
  have hxN := minus_at hxN hxne
  have hdN := minus_at hdN n1
  have hsN := minus_at hsN n2
  have hTN : ∀ p ∈ T,At (minus N4 dx) p.2.1 (IO p.2.2) := fun p hp=>minus_at (hTN p hp) (n3 p hp)
  have hAN := minus_at hAN (lne hAN)
  have hBN := minus_at hBN (lne hBN)
  have hKN := minus_at hKN kne
  generalize minus N4 dx = N5 at *
  clear hx hdx hd hs hT S9 S10
  wtm_at "go"
  rename_i g9 S12 t0
  clear S11
  wtm_at "kp"
  refine O_len (S12.nn hAN) (by rw [sizeLine_eq]; lia -zetaDelta) ?_
  intro tl1
  wtm_at "go"
  wtm_at "kp"
  refine O_len (S12.nn hBN) (by rw [sizeLine_eq]; lia -zetaDelta) ?_
  intro tl2
  rw [hla,hlb]
  wtm_at "go"
  wtm_at "new"
  intro wd g10 hw1 hw2 K10 S13
  wtm_at "go"
  wtm_at "kp"
  refine pairs_spec (X.length + 1) (X := X) (Y := Y) (i1 := 0) (j1 := 0) (Z.up S13.keep) (R'.le (by lia -zetaDelta)) (S13.nn hAN) iX (S13.nn hBN) iY (S13.nn hKN) (S13.mm (P := TO [.int ((0:Nat) : Int) _,.int (X.length : Nat) _,.int ((0:Nat) : Int) _,.int (Y.length : Nat) _]) (by exact List.mem_cons_self)) hX hY (fun x hx=>tells_kd (List.mem_append_left _ hx)) (Nat.zero_le _) (Nat.le_refl _) (Nat.zero_le _) (Nat.le_refl _) (by lia -zetaDelta) ?_
  intro pc g11 vp nP hPr
  rw [pairs_blocks,blks_of (Nat.zero_le _) (Nat.le_refl _) (Nat.zero_le _) (Nat.le_refl _) (by lia -zetaDelta)] at hPr
  have S14 := S13.grow nP.keep
  have hPL : At (above g10.objs.size N5 g11) pc (LO vp) := above_at nP.ge nP.at_
  have hPP : Prs 0 (above g10.objs.size N5 g11) vp (diags (blks X Y 0 X.length 0 Y.length)) := (hPr.above (Nat.le_refl _)).up Sub.rfl (Nat.zero_le _)
  have sN6 : Sub N5 (above g10.objs.size N5 g11) := above_sub (fun a o e=>S13.per a o e) (Nat.le_refl _)
  have hAN := hAN.up sN6
  have hBN := hBN.up sN6
  have hKN := hKN.up sN6
  have hxN := hxN.up sN6
  have hdN := hdN.up sN6
  have hsN := hsN.up sN6
  have hTN : ∀ p ∈ T,At (above g10.objs.size N5 g11) p.2.1 (IO p.2.2) := fun p hp=>(hTN p hp).up sN6
  generalize above g10.objs.size N5 g11 = N6 at *
  have S15 := S14.subl (M' := (dx,AO (MA a b d sj sp .none .none)) :: (L + 1 + 0,CO (some (.ref b))) :: (L + 1 + 1,CO (some (.ref kd))) :: []) (by wtm_at "subl")
  clear S12 S13 S14
  wtm_at "go"
  rename_i g12 S16
  clear S15
  wtm_at "kp"
  refine O_len (S16.nn hAN) (by rw [sizeLine_eq]; lia -zetaDelta) ?_
  intro tl3
  wtm_at "go"
  wtm_at "kp"
  refine O_len (S16.nn hBN) (by rw [sizeLine_eq]; lia -zetaDelta) ?_
  intro tl4
  rw [hla,hlb]
  wtm_at "go"
  wtm_at "kp"
  have hpl11 : (diags (blks X Y 0 X.length 0 Y.length)).length ≤ 11 := by
    rw [← blks_of (m := X.length + 1) (Nat.zero_le _) (Nat.le_refl _) (Nat.zero_le _) (Nat.le_refl _) (by lia -zetaDelta),← pairs_blocks]
    exact Nat.le_trans (pairsF_len (Nat.zero_le _) (Nat.le_refl _) (Nat.zero_le _) (Nat.le_refl _)) (by lia -zetaDelta)
  refine told_spec (n := n) (Z.up S16.keep) (R'.le (by lia -zetaDelta)) (S16.nn hPL) (hPP.up S16.per (Nat.le_refl _)) hpl11 ?_
  intro tc g13 vt nT hOt
  rw [told_op blks_whole] at hOt
  have S17 := S16.grow nT.keep
  have hTL : At (above g12.objs.size N6 g13) tc (LO vt) := above_at nT.ge nT.at_
  have hTO : Ops 0 (above g12.objs.size N6 g13) vt (opF (matchF (blks X Y 0 X.length 0 Y.length) X.length Y.length)) := (hOt.above (Nat.le_refl _)).up Sub.rfl (Nat.zero_le _)
  have sN7 : Sub N6 (above g12.objs.size N6 g13) := above_sub (fun a o e=>S16.per a o e) (Nat.le_refl _)
  have hAN := hAN.up sN7
  have hBN := hBN.up sN7
  have hKN := hKN.up sN7
  have hxN := hxN.up sN7
  have hdN := hdN.up sN7
  have hsN := hsN.up sN7
  have hTN : ∀ p ∈ T,At (above g12.objs.size N6 g13) p.2.1 (IO p.2.2) := fun p hp=>(hTN p hp).up sN7
  generalize above g12.objs.size N6 g13 = N7 at *
  clear S16
  wtm_at "go"
  rename_i g14 S18
  clear S17
  refine O_meth (Z.up S18.keep) (S18.nn hxN) (S18.mm (by wtm_at "mem")) (m210 _) (by kernel_rfl) ?_
  wtm_at "go"
  wtm_at "kp"
  refine gop_spec (n := n) (va := la) (vb := lb) (X := X) (Y := Y) (T := T) (Z.up (sub_minus S18.keep hdK)) (R'.le (by lia -zetaDelta)) (S18.nn hxN) (S18.mm (by wtm_at "mem")) (S18.nn hAN) iX (S18.nn hBN) iY (S18.nn hdN) (fun p hp=>S18.nn (hTN p hp)) hpl (S18.nn hsN) hX hY hnd n1 n2 n3 ?_
  intro y g15 vo mb e1 hy hD hL2 hOo
  have S19 := (fun (u:Upd dx (AO (MA a b d sj sp (.ref mb) (.ref y))) _ ((dx,AO (MA a b d sj sp (.ref mb) (.ref y))) :: (L + 1 + 0,CO (some (.ref b))) :: (L + 1 + 1,CO (some (.ref kd))) :: []))=>S18.growTo (S18.upd u e1 hD) (fun p hp=>u.keys ▸ List.mem_map_of_mem (f := (·.1)) hp)) (by wtm_at "upd")
  have sN8 : Sub N7 (above g14.objs.size N7 g15) := above_sub (fun a o e=>S18.per a o e) (Nat.le_refl _)
  have hYL : At (above g14.objs.size N7 g15) y (LO vo) := above_at hy hL2
  have hYO : Ops 0 (above g14.objs.size N7 g15) vo (opF (matchF (blks X Y 0 X.length 0 Y.length) X.length Y.length)) := (hOo.above (Nat.le_refl _)).up Sub.rfl (Nat.zero_le _)
  have hAN := hAN.up sN8
  have hBN := hBN.up sN8
  have hKN := hKN.up sN8
  have hxN := hxN.up sN8
  have hdN := hdN.up sN8
  have hsN := hsN.up sN8
  have hTL := hTL.up sN8
  have hTO := hTO.up sN8 (Nat.le_refl _)
  have hTN : ∀ p ∈ T,At (above g14.objs.size N7 g15) p.2.1 (IO p.2.2) := fun p hp=>(hTN p hp).up sN8
  generalize above g14.objs.size N7 g15 = N8 at *
  clear S18
  wtm_at "go"
  refine O_ne_ops R' tags_ok (S19.nn hYL) (hYO.up S19.per (Nat.le_refl _)) (S19.nn hTL) (hTO.up S19.per (Nat.le_refl _)) ?_
  wtm_at "gb"
  wtm_at "ga"
  wtm_at "go"
  wtm_at "kp"
  have hjl : (((b2jF Y).map (·.1)).filter fun y=>!keptB y).length ≤ 11 := Nat.le_trans (List.length_filter_le _ _) (by rw [List.length_map]; exact Nat.le_trans b2jN_len hY)
  refine O_sorted_set R' (S19.nn hsN) (by lia -zetaDelta) ?_
  intro j1 g16 u1 m1 b1 i1 p1 o1
  have S20 := S19.bornB b1
  clear S19
  wtm_at "go"
  obtain ⟨ep,ok,hok,hDA⟩ := DO.ep hKN
  refine' W_ListComp (n₀ := h.objs.size) (cl := [(Str.ofString "right",L + 1 + 0),(Str.ofString "kept",L + 1 + 1)]) (cs' := [(Str.ofString "right",L + 1 + 0),(Str.ofString "kept",L + 1 + 1)]) (gl' := []) Z C ?y1 ?y2 ?y3 ?y4 ?y5 ?y6 ?y7 ?_
  case y1=>rw [henv]; kernel_rfl
  case y2=>wtm_at "each"
  case y3=>rw [henv]; kernel_rfl
  case y4=>kernel_rfl
  case y5=>rfl
  case y6=>kernel_rfl
  case y7=>intro _; rfl
  wtm_at "go"
  refine iter_dict (nosys kd hkd) (hDA _ (S20.per _ _ hok)) ?_
  intro I g17 nI
  have S21 := S20.born nI
  have hne : kd ≠ I := fun e=>Nat.lt_irrefl _ (Nat.lt_of_lt_of_le (Heap.lt_size (S20.per _ _ hok)) (e ▸ nI.ge))
  have hkl2 : (kdF (X ++ Y)).length ≤ 22 := Nat.le_trans kd_len (by rw [List.length_append]; lia -zetaDelta)
  refine ⟨I,(kdF (X ++ Y)).length,_,KI kd (kdF (X ++ Y)).length ep,_,fun i ys _=>IntsAre ys ((((kdF (X ++ Y)).map (·.1)).take i).filter fun k=>Y.any (· == k) && !keptB k),_,_,_,rfl,itr2_keys R'.h I kd ok hne _ ep hDA,?_,S21,.nil,fun envc u N' h e1 e2 e3 S sN=>S.per _ _ (sN _ _ hok),?_,?_⟩
  · rw [sizeLine_eq]; lia -zetaDelta
  · rintro envc i v ys N' e1 e2 e3 h3 Cc hi' ⟨k,xv,tk,hkx,rfl⟩ hJ sN S22
    have hkm : k ∈ X ++ Y := kd_keys.2 k |>.mp (List.mem_map.mpr ⟨_,List.mem_of_getElem? hkx,rfl⟩)
    have hkv := tells_kd hkm
    have hq : ((kdF (X ++ Y)).map (·.1))[i]? = some k := by rw [List.getElem?_map,hkx]; rfl
    have ef : ((((kdF (X ++ Y)).map (·.1)).take (i + 1)).filter fun k=>Y.any (· == k) && !keptB k) = ((((kdF (X ++ Y)).map (·.1)).take i).filter fun k=>Y.any (· == k) && !keptB k) ++ (if (Y.any (· == k) && !keptB k) = true then [k] else []) := by
      rw [List.take_add_one,hq,Option.toList_some,List.filter_append]
      by_cases hk : (Y.any (· == k) && !keptB k) = true <;> simp [hk]
    show WP _ _ _ _
    wtm_at "go"
    refine O_in_ints (S22.nn (hBN.up sN)) iY ?_
    wtm_at "go"
    split
    · rename_i hin
      wtm_at "go"
      refine O_ditem (S22.nn (hKN.up sN)) hkv ?_ (by with_unfolding_all rfl)
      wtm_at "go"
      split
      · rename_i hk
        wtm_at "go"
        rw [if_pos rfl]
        wtm_at "go"
        refine ⟨N',Sub.rfl,?_,S22⟩
        try dsimp only
        rw [ef,if_pos (by rw [hin]; simpa using hk)]
        exact ints_append hJ (.cons _ _ .nil)
      · rename_i hk
        rw [if_neg Bool.false_ne_true]
        refine ⟨N',Sub.rfl,?_,S22⟩
        try dsimp only
        rw [ef,if_neg (by rw [hin]; simpa using hk),List.append_nil]
        exact hJ
    · rename_i hin
      wtm_at "go"
      rw [if_neg Bool.false_ne_true]
      refine ⟨N',Sub.rfl,?_,S22⟩
      try dsimp only
      rw [ef,if_neg (by simp [hin]),List.append_nil]
      exact hJ
  intro jl2 ys N' g18 hjl2 sN9 hJ S22
  rw [List.take_of_length_le (by rw [List.length_map]; exact Nat.le_refl _)] at hJ
  wtm_at "go"
  wtm_at "kp"
  have hyl : ys.length ≤ 22 := by rw [hJ.length]; exact Nat.le_trans (List.length_filter_le _ _) (by rw [List.length_map]; exact hkl2)
  refine O_sorted_list (S22.mm (by wtm_at "mem")) hJ (by lia -zetaDelta) ?_
  intro j2 g19 u2 m2 nJ i2 p2 o2
  have S23 := S22.born nJ
  refine O_ne_ints R' (S23.mm (by wtm_at "mem")) i1 (S23.mm (by wtm_at "mem")) i2 ?_
  have em : m1 = m2 := sort_eq (p1.trans (junk_perm.symm.trans p2.symm)) o1 o2
  rw [show (!decide (m1 = m2)) = false by simp [em]]
  have hAN := hAN.up sN9
  have hBN := hBN.up sN9
  have hKN := hKN.up sN9
  have hxN := hxN.up sN9
  have hdN := hdN.up sN9
  have hsN := hsN.up sN9
  have hTL := hTL.up sN9
  have hTO := hTO.up sN9 (Nat.le_refl _)
  have hTN : ∀ p ∈ T,At N' p.2.1 (IO p.2.2) := fun p hp=>(hTN p hp).up sN9
  have S24 := S23.subl (M' := (dx,AO (MA a b d sj sp (.ref mb) (.ref y))) :: (L + 1 + 0,CO (some (.ref b))) :: (L + 1 + 1,CO (some (.ref kd))) :: []) (by wtm_at "subl")
  clear S20 S21 S22 S23 hJ
  wtm_at "gb"
  refine' W_AssignDictC (n₀ := h.objs.size) (cl := [(Str.ofString "right",L + 1 + 0),(Str.ofString "kept",L + 1 + 1)]) (cs' := [(Str.ofString "right",L + 1 + 0),(Str.ofString "kept",L + 1 + 1)]) (gl' := [(Str.ofString "range",.type "range"),(Str.ofString "len",.builtin "len")]) ?y0 Z C ?y1 ?y2 ?y3 ?y4 ?y4b ?y5 ?y6 ?y7 ?_
  case y0=>rw [henv]; kernel_rfl
  case y1=>rw [henv]; kernel_rfl
  case y2=>intro q; wtm_at "each"
  case y3=>rw [henv]; kernel_rfl
  case y4=>intro q; kernel_rfl
  case y4b=>intro q; kernel_rfl
  case y5=>rfl
  case y6=>kernel_rfl
  case y7=>intro _; rfl
  wtm_at "go"
  refine iter_list S24 (S24.nn hBN) ?_
  intro I2 g20 K20 S25
  refine ⟨I2,lb.length,_,LI b,_,fun i ys N=>PJ Y i ys N,_,_,_,fun D=>[(Str.ofString "script",some (Value.ref l)),(Str.ofString "numbers",some (Value.ref c)),(Str.ofString "left",some (Value.ref a)),(Str.ofString "matcher",some (Value.ref x)),(Str.ofString "pairs",some (Value.ref pc)),(Str.ofString "told",some (Value.ref tc)),(Str.ofString "places",some (Value.ref D))],?_,rfl,itr2_list R'.h I2 b lb,?_,S25,PJ.nil,fun envc C u N' h e1 e2 e3 S sN=>S.nn (hBN.up sN),?_,?_⟩
  · intro q; wtm_at "put"
  · rw [sizeLine_eq]; lia -zetaDelta
  · intro L2 C2 i v ys N9 e1 e2 e3 g21 Cc hi' hv hJ sN S26
    obtain ⟨k,tk,rfl,hq⟩ := ints_get iY hv
    generalize eenv : compEnvC _ _ L2 env = envc at *
    show WP _ _ _ _
    wtm_at "go"
    have hkm : k ∈ X ++ Y := List.mem_append_right _ (List.mem_of_getElem? hq)
    refine O_ditem (S26.nn (hKN.up sN)) (tells_kd hkm) ?_ (by with_unfolding_all rfl)
    wtm_at "go"
    split
    · rename_i hk
      wtm_at "go"
      refine' W_ListComp (n₀ := h.objs.size) (cl := [(Str.ofString "right",L + 1 + 0),(Str.ofString "octet",C2)]) (cs' := [(Str.ofString "right",L + 1 + 0),(Str.ofString "octet",C2)]) (gl' := []) Z Cc ?y1 ?y2 ?y3 ?y4 ?y5 ?y6 ?y7 ?_
      case y1=>rw [← eenv,henv]; kernel_rfl
      case y2=>wtm_at "each"
      case y3=>rw [← eenv,henv]; kernel_rfl
      case y4=>kernel_rfl
      case y5=>rfl
      case y6=>kernel_rfl
      case y7=>intro _; rfl
      wtm_at "go"
      wtm_at "kp"
      refine O_len (S26.nn (hBN.up sN)) (by rw [sizeLine_eq]; lia -zetaDelta) ?_
      intro tlb
      wtm_at "go"
      wtm_at "kp"
      refine O_range1 ?_
      intro pr p2 pN
      have S27 := S26.born pN
      refine iter_range (S27.mm (by wtm_at "mem")) (by lia -zetaDelta) (by lia -zetaDelta) ?_
      intro pI p3 pN3
      have S28 := S27.born pN3
      have S28 := S28.reI (n' := Y.length) (by lia -zetaDelta)
      have S29 := S28.subl (M' := (pI,_) :: e1 :: e2 :: (C2,CO (some (Value.int k tk))) :: e3 :: (dx,AO (MA a b d sj sp (.ref mb) (.ref y))) :: (L + 1 + 0,CO (some (.ref b))) :: (L + 1 + 1,CO (some (.ref kd))) :: []) (by wtm_at "subl")
      clear S27 S28
      refine ⟨pI,Y.length,_,RI 0 Y.length,_,fun i ys _=>IntsAre ys (places Y i k),_,_,_,rfl,itr2_range R'.h pI 0 Y.length,?_,S29,.nil,fun _ _ _ _ _ _ _ _ _=>trivial,?_,?_⟩
      · rw [sizeLine_eq]; lia -zetaDelta
      · intro envd j' v zs N10 f1 f2 f3 g22 Cd hj' hv2 hZ sN10 S30
        obtain ⟨tj,hv2⟩ := hv2
        rw [Int.zero_add] at hv2
        subst hv2
        obtain ⟨o,hyo⟩ : ∃ o,Y[j']? = some o := ⟨_,List.getElem?_eq_getElem hj'⟩
        obtain ⟨to,hbo⟩ := ints_get' iY hyo
        have hgd : Y.getD j' 0 = o := by rw [List.getD_eq_getElem?_getD,hyo]; rfl
        show WP _ _ _ _
        wtm_at "go"
        refine O_item (S30.nn ((hBN.up sN).up sN10)) (by lia -zetaDelta) (by rw [Int.toNat_natCast]; exact hbo) (by rw [sizeLine_eq]; lia -zetaDelta) ?_ (by with_unfolding_all rfl)
        wtm_at "go"
        split
        · rename_i he
          have he : o = k := by simpa using he
          wtm_at "go"
          refine ⟨N10,Sub.rfl,?_,S30⟩
          try dsimp only
          rw [places_succ,hgd,if_pos he]
          exact ints_append hZ (.cons _ _ .nil)
        · rename_i he
          have he : ¬ o = k := by simpa using he
          refine ⟨N10,Sub.rfl,?_,S30⟩
          try dsimp only
          rw [places_succ,hgd,if_neg he,List.append_nil]
          exact hZ
      intro pl zs N10 g22 hpl0 sN10 hZ S30
      obtain ⟨N11,sN11,hPL11,S31⟩ := S30.seal hpl0
      exact ⟨k,tk,N11,rfl,sN10.trans sN11,hJ.put (sN10.trans sN11) hq (by simpa using hk) hPL11 hZ,S31⟩
    · rename_i hk
      exact ⟨N9,Sub.rfl,hJ.skip hq (by simpa using hk),S26⟩
  intro pd ys N9 g21 hpd sN10 hJ S26
  try dsimp only at hJ
  rw [show lb.length = Y.length from hlb] at hJ
  wtm_at "go"
  have hxN := hxN.up sN10
  wtm_at "ga"
  wtm_at "go"
  refine O_ne_dict R' hnd (nosys pd hpd) (S26.nn (hdN.up sN10)) (S26.mm (by wtm_at "mem")) (places_len hpl hJ) (places_all hpl hJ (fun p hp=>S26.nn ((hTN p hp).up sN10)) S26.per) ?_
  wtm_at "gb"
  have hAN := hAN.up sN10
  have hBN := hBN.up sN10
  have hTL := hTL.up sN10
  have hTO := hTO.up sN10 (Nat.le_refl _)
  wtm_at "kp"
  refine O_bytes R' (S26.nn hAN) iX rX.oct (by rw [sizeLine_eq]; lia -zetaDelta) ?_
  intro g23 tb1 K23
  have S27 := S26.keeps K23
  clear S26
  wtm_at "go"
  wtm_at "kp"
  refine hencode_spec (n := n) (Z.up S27.keep) (R'.le (by lia -zetaDelta)) hX rX.oct ?_
  intro th1 g24 K24
  have S28 := S27.keeps K24
  clear S27
  wtm_at "go"
  wtm_at "kp"
  have hwX := writ_len X
  have hwY := writ_len Y
  refine written_spec (n := n) (Z.up S28.keep) (R'.le (by lia -zetaDelta)) (S28.nn hAN) iX hX rX.oct ?_
  intro tw1 g25 K25
  have S29 := S28.keeps K25
  clear S28
  rw [show Str.ofString "=?q?q?" = mkS [61,63,113,63,113,63] by decide +kernel,show Str.ofString "?=" = mkS [63,61] by decide +kernel]
  refine O_sapp (by rw [sizeLine_eq]; simp only [List.length_cons,List.length_nil]; lia -zetaDelta) ?_
  intro tw2
  wtm_at "go"
  refine O_sapp (by rw [sizeLine_eq]; simp only [List.length_append,List.length_cons,List.length_nil]; lia -zetaDelta) ?_
  intro tw3
  wtm_at "go"
  have ehX : headL X = [61,63,113,63,113,63] ++ writ X ++ [63,61] := by unfold headL; rw [if_neg rX.ne]
  have ehY : headL Y = [61,63,113,63,113,63] ++ writ Y ++ [63,61] := by unfold headL; rw [if_neg rY.ne]
  rw [← ehX,bne_self_eq_false]
  wtm_at "gb"
  wtm_at "kp"
  refine O_bytes R' (S29.nn hBN) iY rY.oct (by rw [sizeLine_eq]; lia -zetaDelta) ?_
  intro g26 tb2 K26
  have S30 := S29.keeps K26
  clear S29
  wtm_at "go"
  wtm_at "kp"
  refine hencode_spec (n := n) (Z.up S30.keep) (R'.le (by lia -zetaDelta)) hY rY.oct ?_
  intro th2 g27 K27
  have S31 := S30.keeps K27
  clear S30
  wtm_at "go"
  wtm_at "kp"
  refine written_spec (n := n) (Z.up S31.keep) (R'.le (by lia -zetaDelta)) (S31.nn hBN) iY hY rY.oct ?_
  intro tw4 g28 K28
  have S32 := S31.keeps K28
  clear S31
  refine O_sapp (by rw [sizeLine_eq]; simp only [List.length_cons,List.length_nil]; lia -zetaDelta) ?_
  intro tw5
  wtm_at "go"
  refine O_sapp (by rw [sizeLine_eq]; simp only [List.length_append,List.length_cons,List.length_nil]; lia -zetaDelta) ?_
  intro tw6
  wtm_at "go"
  rw [← ehY,bne_self_eq_false]
  wtm_at "gb"
  wtm_at "kp"
  have hch := chain_all (blks_whole (X := X) (Y := Y))
  have hol : (opF (matchF (blks X Y 0 X.length 0 Y.length) X.length Y.length)).length ≤ 100 := by
    rw [← told_op blks_whole]
    exact Nat.le_trans told_len (by lia -zetaDelta)
  refine edited_spec (n := n) (Z.up S32.keep) (R'.le (by lia -zetaDelta)) (S32.nn hTL) (hTO.up S32.per (Nat.le_refl _)) (S32.nn hAN) iX (S32.nn hBN) iY hX hY rX.oct rY.oct (edited_small rX.ne hX hY hch) hol ?_
  intro te1 g29 K29
  have S33 := S32.keeps K29
  clear S32
  rw [edited_right rX.ne rY.ne hch]
  wtm_at "go"
  wtm_at "kp"
  refine written_spec (n := n) (Z.up S33.keep) (R'.le (by lia -zetaDelta)) (S33.nn hBN) iY hY rY.oct ?_
  intro tw7 g30 K30
  have S34 := S33.keeps K30
  clear S33
  refine O_sapp (by rw [sizeLine_eq]; simp only [List.length_cons,List.length_nil]; lia -zetaDelta) ?_
  intro tw8
  wtm_at "go"
  refine O_sapp (by rw [sizeLine_eq]; simp only [List.length_append,List.length_cons,List.length_nil]; lia -zetaDelta) ?_
  intro tw9
  wtm_at "go"
  rw [← ehY,beq_self_eq_true]
  wtm_at "go"
  wtm_at "f"
  exact ⟨rfl,S34.keep⟩
end law_specN
theorem law_spec : law_specN.TT := law_specN.PP.2 fun h n L env A' h₁=>law_specN.SS.2 law_specN.main (((((h,n),L),env),A'),h₁)
end
section
theorem walkM : WalkM := by
  refine wS.2 ?_
  show ∀ (s₀ s₁:Shared),_
  unfold HM
  dsimp only
  intro s₀ s₁ mg mb G Y fa o pm cd doc dV kV ho hd hcd hD hmg hg args vals as hpre hlay hrd hwl hlo
  have KX : (KM w.params).In s₁.heap := Y
  refine Ground.open G ?_
  intro T B D TE TW
  wrow_args hpre hlay hrd hwl hlo
  rename_i w5 _ _ _ _ _ _ _ w2 w1 _ hL _ hW _ hI _ hc _
  obtain rfl : dV = .none := by
    rcases hD.pos with ⟨_,e⟩ | ⟨e,_⟩
    · exact e
    · exact absurd (by kernel_rfl) e
  obtain rfl : kV = .none := by
    rcases hD.kw with ⟨_,e⟩ | ⟨e,_⟩
    · exact e
    · exact absurd rfl e
  have Z : Stat s₁.heap.get? := ⟨s₁.heap,_,mg,mb,fun _ _ e=>e,KX,T⟩
  have R : Rm callerA (0 + 40) := ⟨rfl,by decide +kernel,by decide +kernel⟩
  have hlen : w5.length ≤ 63 := by
    have := hc
    lia
  have hl : At s₁.heap.get? w2 (LO w1) := by
    obtain ⟨o',h1,h2,n',h3⟩ := hL
    rw [ofPy] at hW
    cases hW with
    | list h4 _ =>
      rw [h1] at h4
      obtain rfl := Option.some.inj h4
      refine ⟨_,h1,0,?_⟩
      simp only [Data.seq.injEq] at h3
      rw [h3.1]
  refine (law_spec Z R ho hd hcd hl hI hlen).go (s := s₁) ?_
  rintro v h' tk' ⟨rfl,hk⟩
  refine ⟨.inl ⟨.bool true,.bool true,[],rfl,fun _=>rfl,?_,?_,?_⟩,OldK.of_keep hk,rfl,AllBare.of_eq hg⟩
  · exact .bool true
  · show ((rowM).toRowW.claim.post _ _ _) = true
    simp only [RowW.claim]
    rw [Bool.and_eq_true]
    exact ⟨by kernel_rfl,by kernel_rfl⟩
  · exact fun _=>⟨List.nodup_nil,fun _ h=>nomatch h⟩
theorem done : PySem.Challenge.rw_pd0125_01.Holds := hd walkM
end
end
end Mine
theorem PySem.Challenge.cw_pd0125_01_holds : PySem.Challenge.rw_pd0125_01.Holds :=
  Mine.done
