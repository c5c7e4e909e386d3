import PyProof.Rows.All
import Wide.All
import OpenK.AllK
import Wide.FinOn
import PySem.Challenge.RW_jb0022_01
open PySem PySem.W PyProof.Rows PySem.Spec PySem.Calls
set_option Elab.async false
set_option compiler.extract_closed false
set_option maxRecDepth 100000
namespace Mine

set_option linter.unusedVariables false
def nth : List Stmt → Nat → Stmt
  | [], _ => .Pass ⟨0, 0, 0, 0⟩
  | a :: _, 0 => a
  | _ :: l, n + 1 => nth l n
def sBody : Stmt → List Stmt
  | .FunctionDef _ _ b .. => b
  | .ClassDef _ _ _ b .. => b
  | .For _ _ b .. => b
  | _ => []
def sArgs : Stmt → Arguments
  | .FunctionDef _ a .. => a
  | _ => default
def sScope : Stmt → Scope
  | .FunctionDef _ _ _ _ _ _ s .. => s
  | .ClassDef _ _ _ _ _ _ s .. => s
  | _ => { kind := .module, names := [], isGenerator := false, isCoroutine := false }
def progB : List Stmt := PySem.Challenge.pw_jb0022_01.main.body
def dS : Stmt → PySem.Str
  | .Expr (.Constant (.str s) ..) _ => s
  | _ => .ofString ""

noncomputable def life0 : Life := ⟨[],[],[],0,[],[],false,#[],[],0,false,false,false,0,[2000,10,10],false,0,true,[],[],0,false⟩
noncomputable def o11v0 (P : Params) : Obj := ⟨(.type "tuple"),none,(.seq #[] 0),#[]⟩
noncomputable def o12v0 (P : Params) : Obj := ⟨.none,none,(.fields #[]),#[]⟩
noncomputable def o13v0 (P : Params) : Obj := ⟨(.type "code"),none,(.fields #[(.str (.ofString "<module>") 182),(.str (.ofString "<module>") 183),(.str (.ofString "/claim/cut.py") 184),(.int 1 0),(.int 0 0),(.int 0 0),(.int 0 0),(.int 0 0),(.ref 11),(.bool false),(.int 181 0),(.ref 12),.none,.none,.none,.none,(.int 185 0),(.int 1 0),(.str (.ofString "/claim/cut.py") 186)]),#[]⟩
noncomputable def o14v0 (P : Params) : Obj := ⟨(.type "frame"),none,.plain,#[(some (.ref 13)),(some (.ref 3)),(some (.ref 3)),none,(some (.str (.ofString "__main__") 164)),none,(some (.ref 0))]⟩
noncomputable def hp0 (P : Params) : Heap := ⟨⟨[PySem.W.boot_o_0 P, PySem.W.boot_o_1 P, PySem.W.boot_o_2 P, PySem.W.boot_o_3 P, PySem.W.boot_o_4 P, PySem.W.boot_o_5 P, PySem.W.boot_o_6 P, PySem.W.boot_o_7 P, PySem.W.boot_o_8 P, PySem.W.boot_o_9 P, PySem.W.boot_o_10 P, o11v0 P, o12v0 P, o13v0 P, o14v0 P]⟩, life0⟩
noncomputable def tr0 (P : Params) : BT := (.node (PySem.W.boot_o_0 P) (.node (PySem.W.boot_o_1 P) (.node (PySem.W.boot_o_3 P) (.node (PySem.W.boot_o_7 P) .nil .nil) (.node (o11v0 P) .nil .nil)) (.node (PySem.W.boot_o_5 P) (.node (PySem.W.boot_o_9 P) .nil .nil) (.node (o13v0 P) .nil .nil))) (.node (PySem.W.boot_o_2 P) (.node (PySem.W.boot_o_4 P) (.node (PySem.W.boot_o_8 P) .nil .nil) (.node (o12v0 P) .nil .nil)) (.node (PySem.W.boot_o_6 P) (.node (PySem.W.boot_o_10 P) .nil .nil) (.node (o14v0 P) .nil .nil))))
noncomputable def o3v1 (P : Params) : Obj := ⟨(.type "dict"),none,(.dict #[⟨(PySem.PyData.keyHash P (.ofString "__name__")),(.str (.ofString "__name__") 165),(.str (.ofString "limits.util") 194)⟩,⟨(PySem.PyData.keyHash P (.ofString "__doc__")),(.str (.ofString "__doc__") 166),.none⟩,⟨(PySem.PyData.keyHash P (.ofString "__package__")),(.str (.ofString "__package__") 167),.none⟩,⟨(PySem.PyData.keyHash P (.ofString "__loader__")),(.str (.ofString "__loader__") 168),(.builtin "__main__.__loader__#opaque")⟩,⟨(PySem.PyData.keyHash P (.ofString "__spec__")),(.str (.ofString "__spec__") 169),.none⟩,⟨(PySem.PyData.keyHash P (.ofString "__annotations__")),(.str (.ofString "__annotations__") 170),(.ref 6)⟩,⟨(PySem.PyData.keyHash P (.ofString "__builtins__")),(.str (.ofString "__builtins__") 171),(.ref 4)⟩,⟨(PySem.PyData.keyHash P (.ofString "__file__")),(.str (.ofString "__file__") 173),(.str (.ofString "/claim/cut.py") 172)⟩,⟨(PySem.PyData.keyHash P (.ofString "__cached__")),(.str (.ofString "__cached__") 174),.none⟩,⟨(PySem.PyData.keyHash P (.ofString "_wall")),(.str (.ofString "_wall") 193),(.ref 21)⟩,⟨(PySem.PyData.keyHash P (.ofString "_tuplegetter")),(.str (.ofString "_tuplegetter") 252),(.ref 60)⟩,⟨(PySem.PyData.keyHash P (.ofString "tuplegetter_util")),(.str (.ofString "tuplegetter_util") 253),(.ref 60)⟩] 12),#[]⟩
noncomputable def o12v1 (P : Params) : Obj := ⟨.none,none,(.fields #[(.int 1 0),(.int 0 0),(.ref 20),(.int 5 0),(.int 0 0),(.ref 27)]),#[]⟩
noncomputable def o15v0 (P : Params) : Obj := ⟨(.type "tuple"),none,(.seq #[] 0),#[]⟩
noncomputable def o16v0 (P : Params) : Obj := ⟨.none,none,(.fields #[]),#[]⟩
noncomputable def o17v0 (P : Params) : Obj := ⟨(.type "tuple"),none,(.seq #[(.str (.ofString "k") 190)] 0),#[]⟩
noncomputable def o18v0 (P : Params) : Obj := ⟨(.type "tuple"),none,(.seq #[] 0),#[]⟩
noncomputable def o19v0 : Params → Obj := by
  refine' (?f : (b : List Stmt) → b = sBody (nth progB 0) → (a : Arguments) → a = sArgs (nth progB 0) → (c : Scope) → c = sScope (nth progB 0) → Params → Obj) _ ?h1 _ ?h2 _ ?h3
  case f => exact fun b _ a _ c _ P => ⟨.none,none,(.func ⟨(.ofString "_wall"),(.ofString "_wall"),a,(.stmts b),c,0,[],.none,.none,.none,.none,none,.none,.none,0⟩),#[]⟩
  case h1 => conv => rhs; whnf
  case h2 => conv => rhs; whnf
  case h3 => conv => rhs; whnf
noncomputable def o20v0 (P : Params) : Obj := ⟨(.type "code"),none,(.fields #[(.str (.ofString "_wall") 187),(.str (.ofString "_wall") 188),(.str (.ofString "/claim/cut.py") 189),(.int 1 0),(.int 1 0),(.int 0 0),(.int 0 0),(.int 3 0),(.ref 15),(.bool true),(.int 181 0),(.ref 16),.none,(.ref 17),(.ref 18),(.ref 19),(.int 191 0),(.int 1 0),(.str (.ofString "/claim/cut.py") 192)]),#[]⟩
noncomputable def o21v0 : Params → Obj := by
  refine' (?f : (b : List Stmt) → b = sBody (nth progB 0) → (a : Arguments) → a = sArgs (nth progB 0) → (c : Scope) → c = sScope (nth progB 0) → Params → Obj) _ ?h1 _ ?h2 _ ?h3
  case f => exact fun b _ a _ c _ P => ⟨(.type "function"),none,(.func ⟨(.ofString "_wall"),(.ofString "_wall"),a,(.stmts b),c,3,[],.none,.none,.none,(.str (.ofString "__main__") 164),none,(.ref 20),.none,0⟩),#[]⟩
  case h1 => conv => rhs; whnf
  case h2 => conv => rhs; whnf
  case h3 => conv => rhs; whnf
noncomputable def o22v0 (P : Params) : Obj := ⟨(.type "tuple"),none,(.seq #[] 0),#[]⟩
noncomputable def o23v0 (P : Params) : Obj := ⟨(.type "builtin_function_or_method"),none,(.fields #[(.builtin "type.__prepare__"),(.type "type")]),#[]⟩
noncomputable def o24v0 (P : Params) : Obj := ⟨(.type "dict"),none,(.dict #[⟨(PySem.PyData.keyHash P (.ofString "__module__")),(.str (.ofString "__module__") 203),(.str (.ofString "limits.util") 194)⟩,⟨(PySem.PyData.keyHash P (.ofString "__qualname__")),(.str (.ofString "__qualname__") 205),(.str (.ofString "_tuplegetter") 204)⟩,⟨(PySem.PyData.keyHash P (.ofString "__firstlineno__")),(.str (.ofString "__firstlineno__") 207),(.int 5 206)⟩,⟨(PySem.PyData.keyHash P (.ofString "__init__")),(.str (.ofString "__init__") 216),(.ref 35)⟩,⟨(PySem.PyData.keyHash P (.ofString "__get__")),(.str (.ofString "__get__") 225),(.ref 43)⟩,⟨(PySem.PyData.keyHash P (.ofString "__set__")),(.str (.ofString "__set__") 234),(.ref 50)⟩,⟨(PySem.PyData.keyHash P (.ofString "__delete__")),(.str (.ofString "__delete__") 242),(.ref 57)⟩,⟨(PySem.PyData.keyHash P (.ofString "__static_attributes__")),(.str (.ofString "__static_attributes__") 245),(.ref 58)⟩] 8),#[]⟩
noncomputable def o25v0 (P : Params) : Obj := ⟨(.type "tuple"),none,(.seq #[] 0),#[]⟩
noncomputable def o26v0 (P : Params) : Obj := ⟨.none,none,(.fields #[(.int 7 0),(.int 4 0),(.ref 34),(.int 11 0),(.int 4 0),(.ref 42),(.int 18 0),(.int 4 0),(.ref 49),(.int 21 0),(.int 4 0),(.ref 56)]),#[]⟩
noncomputable def o27v0 (P : Params) : Obj := ⟨(.type "code"),none,(.fields #[(.str (.ofString "_tuplegetter") 198),(.str (.ofString "_tuplegetter") 199),(.str (.ofString "/claim/cut.py") 200),(.int 5 0),(.int 0 0),(.int 0 0),(.int 0 0),(.int 0 0),(.ref 25),(.bool false),(.int 181 0),(.ref 26),.none,.none,.none,.none,(.int 201 0),(.int 5 0),(.str (.ofString "/claim/cut.py") 202)]),#[]⟩
noncomputable def o28v0 (P : Params) : Obj := ⟨(.type "frame"),none,.plain,#[(some (.ref 27)),(some (.ref 3)),(some (.ref 24)),none,(some (.str (.ofString "limits.util") 194)),none,(some (.ref 0))]⟩
noncomputable def o29v0 (P : Params) : Obj := ⟨(.type "tuple"),none,(.seq #[] 0),#[]⟩
noncomputable def o30v0 (P : Params) : Obj := ⟨.none,none,(.fields #[]),#[]⟩
noncomputable def o31v0 (P : Params) : Obj := ⟨(.type "tuple"),none,(.seq #[(.str (.ofString "self") 211),(.str (.ofString "index") 212),(.str (.ofString "doc") 213)] 0),#[]⟩
noncomputable def o32v0 (P : Params) : Obj := ⟨(.type "tuple"),none,(.seq #[] 0),#[]⟩
noncomputable def o33v0 : Params → Obj := by
  refine' (?f : (b : List Stmt) → b = sBody (nth (sBody (nth progB 2)) 0) → (a : Arguments) → a = sArgs (nth (sBody (nth progB 2)) 0) → (c : Scope) → c = sScope (nth (sBody (nth progB 2)) 0) → Params → Obj) _ ?h1 _ ?h2 _ ?h3
  case f => exact fun b _ a _ c _ P => ⟨.none,none,(.func ⟨(.ofString "__init__"),(.ofString "_tuplegetter.__init__"),a,(.stmts b),c,0,[],.none,.none,.none,.none,none,.none,.none,0⟩),#[]⟩
  case h1 => conv => rhs; whnf
  case h2 => conv => rhs; whnf
  case h3 => conv => rhs; whnf
noncomputable def o34v0 (P : Params) : Obj := ⟨(.type "code"),none,(.fields #[(.str (.ofString "__init__") 208),(.str (.ofString "_tuplegetter.__init__") 209),(.str (.ofString "/claim/cut.py") 210),(.int 7 0),(.int 3 0),(.int 0 0),(.int 0 0),(.int 3 0),(.ref 29),(.bool true),(.int 181 0),(.ref 30),.none,(.ref 31),(.ref 32),(.ref 33),(.int 214 0),(.int 7 0),(.str (.ofString "/claim/cut.py") 215)]),#[]⟩
noncomputable def o35v0 : Params → Obj := by
  refine' (?f : (b : List Stmt) → b = sBody (nth (sBody (nth progB 2)) 0) → (a : Arguments) → a = sArgs (nth (sBody (nth progB 2)) 0) → (c : Scope) → c = sScope (nth (sBody (nth progB 2)) 0) → Params → Obj) _ ?h1 _ ?h2 _ ?h3
  case f => exact fun b _ a _ c _ P => ⟨(.type "function"),none,(.func ⟨(.ofString "__init__"),(.ofString "_tuplegetter.__init__"),a,(.stmts b),c,3,[],.none,.none,.none,(.str (.ofString "limits.util") 194),none,(.ref 34),.none,0⟩),#[]⟩
  case h1 => conv => rhs; whnf
  case h2 => conv => rhs; whnf
  case h3 => conv => rhs; whnf
noncomputable def o36v0 (P : Params) : Obj := ⟨(.type "tuple"),none,(.seq #[.none] 0),#[]⟩
noncomputable def o37v0 (P : Params) : Obj := ⟨(.type "tuple"),none,(.seq #[] 0),#[]⟩
noncomputable def o38v0 (P : Params) : Obj := ⟨.none,none,(.fields #[]),#[]⟩
noncomputable def o39v0 (P : Params) : Obj := ⟨(.type "tuple"),none,(.seq #[(.str (.ofString "self") 220),(.str (.ofString "obj") 221),(.str (.ofString "objtype") 222)] 0),#[]⟩
noncomputable def o40v0 (P : Params) : Obj := ⟨(.type "tuple"),none,(.seq #[] 0),#[]⟩
noncomputable def o41v0 : Params → Obj := by
  refine' (?f : (b : List Stmt) → b = sBody (nth (sBody (nth progB 2)) 1) → (a : Arguments) → a = sArgs (nth (sBody (nth progB 2)) 1) → (c : Scope) → c = sScope (nth (sBody (nth progB 2)) 1) → Params → Obj) _ ?h1 _ ?h2 _ ?h3
  case f => exact fun b _ a _ c _ P => ⟨.none,none,(.func ⟨(.ofString "__get__"),(.ofString "_tuplegetter.__get__"),a,(.stmts b),c,0,[],.none,.none,.none,.none,none,.none,.none,0⟩),#[]⟩
  case h1 => conv => rhs; whnf
  case h2 => conv => rhs; whnf
  case h3 => conv => rhs; whnf
noncomputable def o42v0 (P : Params) : Obj := ⟨(.type "code"),none,(.fields #[(.str (.ofString "__get__") 217),(.str (.ofString "_tuplegetter.__get__") 218),(.str (.ofString "/claim/cut.py") 219),(.int 11 0),(.int 3 0),(.int 0 0),(.int 0 0),(.int 3 0),(.ref 37),(.bool true),(.int 181 0),(.ref 38),.none,(.ref 39),(.ref 40),(.ref 41),(.int 223 0),(.int 11 0),(.str (.ofString "/claim/cut.py") 224)]),#[]⟩
noncomputable def o43v0 : Params → Obj := by
  refine' (?f : (b : List Stmt) → b = sBody (nth (sBody (nth progB 2)) 1) → (a : Arguments) → a = sArgs (nth (sBody (nth progB 2)) 1) → (c : Scope) → c = sScope (nth (sBody (nth progB 2)) 1) → Params → Obj) _ ?h1 _ ?h2 _ ?h3
  case f => exact fun b _ a _ c _ P => ⟨(.type "function"),none,(.func ⟨(.ofString "__get__"),(.ofString "_tuplegetter.__get__"),a,(.stmts b),c,3,[],(.ref 36),.none,.none,(.str (.ofString "limits.util") 194),none,(.ref 42),.none,0⟩),#[]⟩
  case h1 => conv => rhs; whnf
  case h2 => conv => rhs; whnf
  case h3 => conv => rhs; whnf
noncomputable def o44v0 (P : Params) : Obj := ⟨(.type "tuple"),none,(.seq #[] 0),#[]⟩
noncomputable def o45v0 (P : Params) : Obj := ⟨.none,none,(.fields #[]),#[]⟩
noncomputable def o46v0 (P : Params) : Obj := ⟨(.type "tuple"),none,(.seq #[(.str (.ofString "self") 229),(.str (.ofString "obj") 230),(.str (.ofString "value") 231)] 0),#[]⟩
noncomputable def o47v0 (P : Params) : Obj := ⟨(.type "tuple"),none,(.seq #[] 0),#[]⟩
noncomputable def o48v0 : Params → Obj := by
  refine' (?f : (b : List Stmt) → b = sBody (nth (sBody (nth progB 2)) 2) → (a : Arguments) → a = sArgs (nth (sBody (nth progB 2)) 2) → (c : Scope) → c = sScope (nth (sBody (nth progB 2)) 2) → Params → Obj) _ ?h1 _ ?h2 _ ?h3
  case f => exact fun b _ a _ c _ P => ⟨.none,none,(.func ⟨(.ofString "__set__"),(.ofString "_tuplegetter.__set__"),a,(.stmts b),c,0,[],.none,.none,.none,.none,none,.none,.none,0⟩),#[]⟩
  case h1 => conv => rhs; whnf
  case h2 => conv => rhs; whnf
  case h3 => conv => rhs; whnf
noncomputable def o49v0 (P : Params) : Obj := ⟨(.type "code"),none,(.fields #[(.str (.ofString "__set__") 226),(.str (.ofString "_tuplegetter.__set__") 227),(.str (.ofString "/claim/cut.py") 228),(.int 18 0),(.int 3 0),(.int 0 0),(.int 0 0),(.int 3 0),(.ref 44),(.bool true),(.int 181 0),(.ref 45),.none,(.ref 46),(.ref 47),(.ref 48),(.int 232 0),(.int 18 0),(.str (.ofString "/claim/cut.py") 233)]),#[]⟩
noncomputable def o50v0 : Params → Obj := by
  refine' (?f : (b : List Stmt) → b = sBody (nth (sBody (nth progB 2)) 2) → (a : Arguments) → a = sArgs (nth (sBody (nth progB 2)) 2) → (c : Scope) → c = sScope (nth (sBody (nth progB 2)) 2) → Params → Obj) _ ?h1 _ ?h2 _ ?h3
  case f => exact fun b _ a _ c _ P => ⟨(.type "function"),none,(.func ⟨(.ofString "__set__"),(.ofString "_tuplegetter.__set__"),a,(.stmts b),c,3,[],.none,.none,.none,(.str (.ofString "limits.util") 194),none,(.ref 49),.none,0⟩),#[]⟩
  case h1 => conv => rhs; whnf
  case h2 => conv => rhs; whnf
  case h3 => conv => rhs; whnf
noncomputable def o51v0 (P : Params) : Obj := ⟨(.type "tuple"),none,(.seq #[] 0),#[]⟩
noncomputable def o52v0 (P : Params) : Obj := ⟨.none,none,(.fields #[]),#[]⟩
noncomputable def o53v0 (P : Params) : Obj := ⟨(.type "tuple"),none,(.seq #[(.str (.ofString "self") 238),(.str (.ofString "obj") 239)] 0),#[]⟩
noncomputable def o54v0 (P : Params) : Obj := ⟨(.type "tuple"),none,(.seq #[] 0),#[]⟩
noncomputable def o55v0 : Params → Obj := by
  refine' (?f : (b : List Stmt) → b = sBody (nth (sBody (nth progB 2)) 3) → (a : Arguments) → a = sArgs (nth (sBody (nth progB 2)) 3) → (c : Scope) → c = sScope (nth (sBody (nth progB 2)) 3) → Params → Obj) _ ?h1 _ ?h2 _ ?h3
  case f => exact fun b _ a _ c _ P => ⟨.none,none,(.func ⟨(.ofString "__delete__"),(.ofString "_tuplegetter.__delete__"),a,(.stmts b),c,0,[],.none,.none,.none,.none,none,.none,.none,0⟩),#[]⟩
  case h1 => conv => rhs; whnf
  case h2 => conv => rhs; whnf
  case h3 => conv => rhs; whnf
noncomputable def o56v0 (P : Params) : Obj := ⟨(.type "code"),none,(.fields #[(.str (.ofString "__delete__") 235),(.str (.ofString "_tuplegetter.__delete__") 236),(.str (.ofString "/claim/cut.py") 237),(.int 21 0),(.int 2 0),(.int 0 0),(.int 0 0),(.int 3 0),(.ref 51),(.bool true),(.int 181 0),(.ref 52),.none,(.ref 53),(.ref 54),(.ref 55),(.int 240 0),(.int 21 0),(.str (.ofString "/claim/cut.py") 241)]),#[]⟩
noncomputable def o57v0 : Params → Obj := by
  refine' (?f : (b : List Stmt) → b = sBody (nth (sBody (nth progB 2)) 3) → (a : Arguments) → a = sArgs (nth (sBody (nth progB 2)) 3) → (c : Scope) → c = sScope (nth (sBody (nth progB 2)) 3) → Params → Obj) _ ?h1 _ ?h2 _ ?h3
  case f => exact fun b _ a _ c _ P => ⟨(.type "function"),none,(.func ⟨(.ofString "__delete__"),(.ofString "_tuplegetter.__delete__"),a,(.stmts b),c,3,[],.none,.none,.none,(.str (.ofString "limits.util") 194),none,(.ref 56),.none,0⟩),#[]⟩
  case h1 => conv => rhs; whnf
  case h2 => conv => rhs; whnf
  case h3 => conv => rhs; whnf
noncomputable def o58v0 (P : Params) : Obj := ⟨(.type "tuple"),none,(.seq #[(.str (.ofString "__doc__") 243),(.str (.ofString "index") 244)] 0),#[]⟩
noncomputable def o59v0 (P : Params) : Obj := ⟨(.type "dict"),none,(.dict #[⟨(PySem.PyData.keyHash P (.ofString "__module__")),(.str (.ofString "__module__") 203),(.str (.ofString "limits.util") 194)⟩,⟨(PySem.PyData.keyHash P (.ofString "__firstlineno__")),(.str (.ofString "__firstlineno__") 207),(.int 5 206)⟩,⟨(PySem.PyData.keyHash P (.ofString "__init__")),(.str (.ofString "__init__") 216),(.ref 35)⟩,⟨(PySem.PyData.keyHash P (.ofString "__get__")),(.str (.ofString "__get__") 225),(.ref 43)⟩,⟨(PySem.PyData.keyHash P (.ofString "__set__")),(.str (.ofString "__set__") 234),(.ref 50)⟩,⟨(PySem.PyData.keyHash P (.ofString "__delete__")),(.str (.ofString "__delete__") 242),(.ref 57)⟩,⟨(PySem.PyData.keyHash P (.ofString "__static_attributes__")),(.str (.ofString "__static_attributes__") 245),(.ref 58)⟩,⟨(PySem.PyData.keyHash P (.ofString "__dict__")),(.str (.ofString "__dict__") 247),(.ref 61)⟩,⟨(PySem.PyData.keyHash P (.ofString "__weakref__")),(.str (.ofString "__weakref__") 249),(.ref 62)⟩,⟨(PySem.PyData.keyHash P (.ofString "__doc__")),(.str (.ofString "__doc__") 250),.none⟩] 4),#[]⟩
noncomputable def o60v0 (P : Params) : Obj := ⟨(.type "type"),none,(.cls ⟨(.ofString "_tuplegetter"),[(.type "object")],[(.ref 60),(.type "object")],59,(.ofString "_tuplegetter"),true,[],[],false,none,false⟩),#[none,none,(some (.str (.ofString "_tuplegetter") 196)),(some (.str (.ofString "_tuplegetter") 204)),(some (.builtin "object.__new__")),(some (.bool true))]⟩
noncomputable def o61v0 (P : Params) : Obj := ⟨(.type "getset_descriptor"),none,(.fields #[(.str (.ofString "__dict__") 246),(.ref 60),(.builtin "function.__dict__"),(.builtin "function.__dict__#set")]),#[]⟩
noncomputable def o62v0 (P : Params) : Obj := ⟨(.type "getset_descriptor"),none,(.fields #[(.str (.ofString "__weakref__") 248),(.ref 60),(.builtin "ExceptionGroup.__weakref__"),.none]),#[]⟩
noncomputable def o63v0 (P : Params) : Obj := ⟨(.type "super"),none,(.fields #[(.ref 60),(.ref 60),(.ref 60)]),#[]⟩
noncomputable def o64v0 (P : Params) : Obj := ⟨(.type "builtin_function_or_method"),none,(.fields #[(.builtin "object.__init_subclass__"),(.ref 60)]),#[]⟩
noncomputable def tr1 (P : Params) : BT := (.node (PySem.W.boot_o_0 P) (.node (PySem.W.boot_o_1 P) (.node (o3v1 P) (.node (PySem.W.boot_o_7 P) (.node (o15v0 P) (.node (o31v0 P) (.node (o63v0 P) .nil .nil) .nil) (.node (o47v0 P) .nil .nil)) (.node (o23v0 P) (.node (o39v0 P) .nil .nil) (.node (o55v0 P) .nil .nil))) (.node (o11v0 P) (.node (o19v0 P) (.node (o35v0 P) .nil .nil) (.node (o51v0 P) .nil .nil)) (.node (o27v0 P) (.node (o43v0 P) .nil .nil) (.node (o59v0 P) .nil .nil)))) (.node (PySem.W.boot_o_5 P) (.node (PySem.W.boot_o_9 P) (.node (o17v0 P) (.node (o33v0 P) .nil .nil) (.node (o49v0 P) .nil .nil)) (.node (o25v0 P) (.node (o41v0 P) .nil .nil) (.node (o57v0 P) .nil .nil))) (.node (o13v0 P) (.node (o21v0 P) (.node (o37v0 P) .nil .nil) (.node (o53v0 P) .nil .nil)) (.node (o29v0 P) (.node (o45v0 P) .nil .nil) (.node (o61v0 P) .nil .nil))))) (.node (PySem.W.boot_o_2 P) (.node (PySem.W.boot_o_4 P) (.node (PySem.W.boot_o_8 P) (.node (o16v0 P) (.node (o32v0 P) (.node (o64v0 P) .nil .nil) .nil) (.node (o48v0 P) .nil .nil)) (.node (o24v0 P) (.node (o40v0 P) .nil .nil) (.node (o56v0 P) .nil .nil))) (.node (o12v1 P) (.node (o20v0 P) (.node (o36v0 P) .nil .nil) (.node (o52v0 P) .nil .nil)) (.node (o28v0 P) (.node (o44v0 P) .nil .nil) (.node (o60v0 P) .nil .nil)))) (.node (PySem.W.boot_o_6 P) (.node (PySem.W.boot_o_10 P) (.node (o18v0 P) (.node (o34v0 P) .nil .nil) (.node (o50v0 P) .nil .nil)) (.node (o26v0 P) (.node (o42v0 P) .nil .nil) (.node (o58v0 P) .nil .nil))) (.node (o14v0 P) (.node (o22v0 P) (.node (o38v0 P) .nil .nil) (.node (o54v0 P) .nil .nil)) (.node (o30v0 P) (.node (o46v0 P) .nil .nil) (.node (o62v0 P) .nil .nil))))))
noncomputable def o3v2 (P : Params) : Obj := ⟨(.type "dict"),none,(.dict #[⟨(PySem.PyData.keyHash P (.ofString "__name__")),(.str (.ofString "__name__") 165),(.str (.ofString "limits.strategies") 369)⟩,⟨(PySem.PyData.keyHash P (.ofString "__doc__")),(.str (.ofString "__doc__") 166),.none⟩,⟨(PySem.PyData.keyHash P (.ofString "__package__")),(.str (.ofString "__package__") 167),.none⟩,⟨(PySem.PyData.keyHash P (.ofString "__loader__")),(.str (.ofString "__loader__") 168),(.builtin "__main__.__loader__#opaque")⟩,⟨(PySem.PyData.keyHash P (.ofString "__spec__")),(.str (.ofString "__spec__") 169),.none⟩,⟨(PySem.PyData.keyHash P (.ofString "__annotations__")),(.str (.ofString "__annotations__") 170),(.ref 6)⟩,⟨(PySem.PyData.keyHash P (.ofString "__builtins__")),(.str (.ofString "__builtins__") 171),(.ref 4)⟩,⟨(PySem.PyData.keyHash P (.ofString "__file__")),(.str (.ofString "__file__") 173),(.str (.ofString "/claim/cut.py") 172)⟩,⟨(PySem.PyData.keyHash P (.ofString "__cached__")),(.str (.ofString "__cached__") 174),.none⟩,⟨(PySem.PyData.keyHash P (.ofString "_wall")),(.str (.ofString "_wall") 193),(.ref 21)⟩,⟨(PySem.PyData.keyHash P (.ofString "_tuplegetter")),(.str (.ofString "_tuplegetter") 252),(.ref 60)⟩,⟨(PySem.PyData.keyHash P (.ofString "tuplegetter_util")),(.str (.ofString "tuplegetter_util") 253),(.ref 60)⟩,⟨(PySem.PyData.keyHash P (.ofString "WindowStats")),(.str (.ofString "WindowStats") 368),(.ref 132)⟩] 13),#[]⟩
noncomputable def o12v2 (P : Params) : Obj := ⟨.none,none,(.fields #[(.int 1 0),(.int 0 0),(.ref 20),(.int 5 0),(.int 0 0),(.ref 27),(.int 24 0),(.int 0 0),(.ref 71)]),#[]⟩
noncomputable def o65v0 (P : Params) : Obj := ⟨(.type "tuple"),none,(.seq #[(.type "tuple")] 0),#[]⟩
noncomputable def o66v0 (P : Params) : Obj := ⟨(.type "builtin_function_or_method"),none,(.fields #[(.builtin "type.__prepare__"),(.type "type")]),#[]⟩
noncomputable def o67v0 (P : Params) : Obj := ⟨(.type "dict"),none,(.dict #[⟨(PySem.PyData.keyHash P (.ofString "__module__")),(.str (.ofString "__module__") 261),(.str (.ofString "limits.util") 194)⟩,⟨(PySem.PyData.keyHash P (.ofString "__qualname__")),(.str (.ofString "__qualname__") 263),(.str (.ofString "WindowStats") 262)⟩,⟨(PySem.PyData.keyHash P (.ofString "__firstlineno__")),(.str (.ofString "__firstlineno__") 265),(.int 24 264)⟩,⟨(PySem.PyData.keyHash P (.ofString "__doc__")),(.str (.ofString "__doc__") 267),(.str (dS (nth (sBody (nth progB 4)) 0)) 266)⟩,⟨(PySem.PyData.keyHash P (.ofString "__slots__")),(.str (.ofString "__slots__") 269),(.ref 73)⟩,⟨(PySem.PyData.keyHash P (.ofString "_fields")),(.str (.ofString "_fields") 272),(.ref 74)⟩,⟨(PySem.PyData.keyHash P (.ofString "_field_defaults")),(.str (.ofString "_field_defaults") 273),(.ref 75)⟩,⟨(PySem.PyData.keyHash P (.ofString "__new__")),(.str (.ofString "__new__") 283),(.ref 82)⟩,⟨(PySem.PyData.keyHash P (.ofString "_make")),(.str (.ofString "_make") 305),(.ref 91)⟩,⟨(PySem.PyData.keyHash P (.ofString "_replace")),(.str (.ofString "_replace") 316),(.ref 100)⟩,⟨(PySem.PyData.keyHash P (.ofString "__replace__")),(.str (.ofString "__replace__") 317),(.ref 100)⟩,⟨(PySem.PyData.keyHash P (.ofString "__repr__")),(.str (.ofString "__repr__") 325),(.ref 107)⟩,⟨(PySem.PyData.keyHash P (.ofString "_asdict")),(.str (.ofString "_asdict") 332),(.ref 114)⟩,⟨(PySem.PyData.keyHash P (.ofString "__getnewargs__")),(.str (.ofString "__getnewargs__") 340),(.ref 121)⟩,⟨(PySem.PyData.keyHash P (.ofString "__match_args__")),(.str (.ofString "__match_args__") 343),(.ref 122)⟩,⟨(PySem.PyData.keyHash P (.ofString "reset_time")),(.str (.ofString "reset_time") 353),(.ref 124)⟩,⟨(PySem.PyData.keyHash P (.ofString "remaining")),(.str (.ofString "remaining") 363),(.ref 127)⟩,⟨(PySem.PyData.keyHash P (.ofString "__static_attributes__")),(.str (.ofString "__static_attributes__") 364),(.ref 129)⟩,⟨(PySem.PyData.keyHash P (.ofString "__classcell__")),(.str (.ofString "__classcell__") 365),(.ref 68)⟩] 19),#[]⟩
noncomputable def o68v0 (P : Params) : Obj := ⟨(.type "cell"),none,(.cell (some (.ref 132))),#[]⟩
noncomputable def o69v0 (P : Params) : Obj := ⟨(.type "tuple"),none,(.seq #[] 0),#[]⟩
noncomputable def o70v0 (P : Params) : Obj := ⟨.none,none,(.fields #[(.int 30 0),(.int 4 0),(.ref 81),(.int 35 0),(.int 4 0),(.ref 88),(.int 42 0),(.int 4 0),(.ref 99),(.int 53 0),(.int 4 0),(.ref 106),(.int 57 0),(.int 4 0),(.ref 113),(.int 60 0),(.int 4 0),(.ref 120)]),#[]⟩
noncomputable def o71v0 (P : Params) : Obj := ⟨(.type "code"),none,(.fields #[(.str (.ofString "WindowStats") 256),(.str (.ofString "WindowStats") 257),(.str (.ofString "/claim/cut.py") 258),(.int 24 0),(.int 0 0),(.int 0 0),(.int 0 0),(.int 0 0),(.ref 69),(.bool false),(.int 181 0),(.ref 70),.none,.none,.none,.none,(.int 259 0),(.int 24 0),(.str (.ofString "/claim/cut.py") 260)]),#[]⟩
noncomputable def o72v0 (P : Params) : Obj := ⟨(.type "frame"),none,.plain,#[(some (.ref 71)),(some (.ref 3)),(some (.ref 67)),none,(some (.str (.ofString "limits.util") 194)),none,(some (.ref 0))]⟩
noncomputable def o73v0 (P : Params) : Obj := ⟨(.type "tuple"),none,(.seq #[] 0),#[]⟩
noncomputable def o74v0 (P : Params) : Obj := ⟨(.type "tuple"),none,(.seq #[(.str (.ofString "reset_time") 270),(.str (.ofString "remaining") 271)] 0),#[]⟩
noncomputable def o75v0 (P : Params) : Obj := ⟨(.type "dict"),none,(.dict #[] 0),#[]⟩
noncomputable def o76v0 (P : Params) : Obj := ⟨(.type "tuple"),none,(.seq #[] 0),#[]⟩
noncomputable def o77v0 (P : Params) : Obj := ⟨.none,none,(.fields #[]),#[]⟩
noncomputable def o78v0 (P : Params) : Obj := ⟨(.type "tuple"),none,(.seq #[(.str (.ofString "_cls") 277),(.str (.ofString "reset_time") 278),(.str (.ofString "remaining") 279)] 0),#[]⟩
noncomputable def o79v0 (P : Params) : Obj := ⟨(.type "tuple"),none,(.seq #[] 0),#[]⟩
noncomputable def o80v0 : Params → Obj := by
  refine' (?f : (b : List Stmt) → b = sBody (nth (sBody (nth progB 4)) 4) → (a : Arguments) → a = sArgs (nth (sBody (nth progB 4)) 4) → (c : Scope) → c = sScope (nth (sBody (nth progB 4)) 4) → Params → Obj) _ ?h1 _ ?h2 _ ?h3
  case f => exact fun b _ a _ c _ P => ⟨.none,none,(.func ⟨(.ofString "__new__"),(.ofString "WindowStats.__new__"),a,(.stmts b),c,0,[],.none,.none,.none,.none,none,.none,.none,0⟩),#[]⟩
  case h1 => conv => rhs; whnf
  case h2 => conv => rhs; whnf
  case h3 => conv => rhs; whnf
noncomputable def o81v0 (P : Params) : Obj := ⟨(.type "code"),none,(.fields #[(.str (.ofString "__new__") 274),(.str (.ofString "WindowStats.__new__") 275),(.str (.ofString "/claim/cut.py") 276),(.int 30 0),(.int 3 0),(.int 0 0),(.int 0 0),(.int 3 0),(.ref 76),(.bool true),(.int 181 0),(.ref 77),.none,(.ref 78),(.ref 79),(.ref 80),(.int 280 0),(.int 30 0),(.str (.ofString "/claim/cut.py") 281)]),#[]⟩
noncomputable def o82v0 : Params → Obj := by
  refine' (?f : (b : List Stmt) → b = sBody (nth (sBody (nth progB 4)) 4) → (a : Arguments) → a = sArgs (nth (sBody (nth progB 4)) 4) → (c : Scope) → c = sScope (nth (sBody (nth progB 4)) 4) → Params → Obj) _ ?h1 _ ?h2 _ ?h3
  case f => exact fun b _ a _ c _ P => ⟨(.type "function"),none,(.func ⟨(.ofString "__new__"),(.ofString "WindowStats.__new__"),a,(.stmts b),c,3,[],.none,.none,(.str (dS (nth (sBody (nth (sBody (nth progB 4)) 4)) 0)) 282),(.str (.ofString "limits.util") 194),none,(.ref 81),.none,0⟩),#[]⟩
  case h1 => conv => rhs; whnf
  case h2 => conv => rhs; whnf
  case h3 => conv => rhs; whnf
noncomputable def o83v0 (P : Params) : Obj := ⟨(.type "tuple"),none,(.seq #[] 0),#[]⟩
noncomputable def o84v0 (P : Params) : Obj := ⟨.none,none,(.fields #[]),#[]⟩
noncomputable def o85v0 (P : Params) : Obj := ⟨(.type "tuple"),none,(.seq #[(.str (.ofString "cls") 287),(.str (.ofString "iterable") 288),(.str (.ofString "result") 289)] 0),#[]⟩
noncomputable def o86v0 (P : Params) : Obj := ⟨(.type "tuple"),none,(.seq #[] 0),#[]⟩
noncomputable def o87v0 : Params → Obj := by
  refine' (?f : (b : List Stmt) → b = sBody (nth (sBody (nth progB 4)) 5) → (a : Arguments) → a = sArgs (nth (sBody (nth progB 4)) 5) → (c : Scope) → c = sScope (nth (sBody (nth progB 4)) 5) → Params → Obj) _ ?h1 _ ?h2 _ ?h3
  case f => exact fun b _ a _ c _ P => ⟨.none,none,(.func ⟨(.ofString "_make"),(.ofString "WindowStats._make"),a,(.stmts b),c,0,[],.none,.none,.none,.none,none,.none,.none,0⟩),#[]⟩
  case h1 => conv => rhs; whnf
  case h2 => conv => rhs; whnf
  case h3 => conv => rhs; whnf
noncomputable def o88v0 (P : Params) : Obj := ⟨(.type "code"),none,(.fields #[(.str (.ofString "_make") 284),(.str (.ofString "WindowStats._make") 285),(.str (.ofString "/claim/cut.py") 286),(.int 34 0),(.int 2 0),(.int 0 0),(.int 0 0),(.int 3 0),(.ref 83),(.bool true),(.int 181 0),(.ref 84),.none,(.ref 85),(.ref 86),(.ref 87),(.int 290 0),(.int 34 0),(.str (.ofString "/claim/cut.py") 291)]),#[]⟩
noncomputable def o89v0 : Params → Obj := by
  refine' (?f : (b : List Stmt) → b = sBody (nth (sBody (nth progB 4)) 5) → (a : Arguments) → a = sArgs (nth (sBody (nth progB 4)) 5) → (c : Scope) → c = sScope (nth (sBody (nth progB 4)) 5) → Params → Obj) _ ?h1 _ ?h2 _ ?h3
  case f => exact fun b _ a _ c _ P => ⟨(.type "function"),none,(.func ⟨(.ofString "_make"),(.ofString "WindowStats._make"),a,(.stmts b),c,3,[],.none,.none,(.str (dS (nth (sBody (nth (sBody (nth progB 4)) 5)) 0)) 292),(.str (.ofString "limits.util") 194),(some 92),(.ref 88),.none,0⟩),#[]⟩
  case h1 => conv => rhs; whnf
  case h2 => conv => rhs; whnf
  case h3 => conv => rhs; whnf
noncomputable def o90v0 (P : Params) : Obj := ⟨(.type "dict"),none,(.dict #[⟨(PySem.PyData.keyHash P (.ofString "__module__")),(.str (.ofString "__module__") 294),(.str (.ofString "limits.util") 194)⟩,⟨(PySem.PyData.keyHash P (.ofString "__name__")),(.str (.ofString "__name__") 297),(.str (.ofString "_make") 296)⟩,⟨(PySem.PyData.keyHash P (.ofString "__qualname__")),(.str (.ofString "__qualname__") 300),(.str (.ofString "WindowStats._make") 299)⟩,⟨(PySem.PyData.keyHash P (.ofString "__doc__")),(.str (.ofString "__doc__") 302),(.str (dS (nth (sBody (nth (sBody (nth progB 4)) 5)) 0)) 292)⟩,⟨(PySem.PyData.keyHash P (.ofString "__annotations__")),(.str (.ofString "__annotations__") 304),(.ref 92)⟩] 5),#[]⟩
noncomputable def o91v0 (P : Params) : Obj := ⟨(.type "classmethod"),(some 90),(.fields #[(.ref 89),(.bool false)]),#[]⟩
noncomputable def o92v0 (P : Params) : Obj := ⟨(.type "dict"),none,(.dict #[] 0),#[]⟩
noncomputable def o93v0 (P : Params) : Obj := ⟨(.type "tuple"),none,(.seq #[(.ref 68)] 0),#[]⟩
noncomputable def o94v0 (P : Params) : Obj := ⟨(.type "tuple"),none,(.seq #[(.str (.ofString "__class__") 309)] 0),#[]⟩
noncomputable def o95v0 (P : Params) : Obj := ⟨.none,none,(.fields #[]),#[]⟩
noncomputable def o96v0 (P : Params) : Obj := ⟨(.type "tuple"),none,(.seq #[(.str (.ofString "self") 310),(.str (.ofString "kwds") 311),(.str (.ofString "result") 312)] 0),#[]⟩
noncomputable def o97v0 (P : Params) : Obj := ⟨(.type "tuple"),none,(.seq #[] 0),#[]⟩
noncomputable def o98v0 : Params → Obj := by
  refine' (?f : (b : List Stmt) → b = sBody (nth (sBody (nth progB 4)) 6) → (a : Arguments) → a = sArgs (nth (sBody (nth progB 4)) 6) → (c : Scope) → c = sScope (nth (sBody (nth progB 4)) 6) → Params → Obj) _ ?h1 _ ?h2 _ ?h3
  case f => exact fun b _ a _ c _ P => ⟨.none,none,(.func ⟨(.ofString "_replace"),(.ofString "WindowStats._replace"),a,(.stmts b),c,0,[],.none,.none,.none,.none,none,.none,.none,0⟩),#[]⟩
  case h1 => conv => rhs; whnf
  case h2 => conv => rhs; whnf
  case h3 => conv => rhs; whnf
noncomputable def o99v0 (P : Params) : Obj := ⟨(.type "code"),none,(.fields #[(.str (.ofString "_replace") 306),(.str (.ofString "WindowStats._replace") 307),(.str (.ofString "/claim/cut.py") 308),(.int 42 0),(.int 1 0),(.int 1 0),(.int 0 0),(.int 11 0),(.ref 94),(.bool true),(.int 181 0),(.ref 95),.none,(.ref 96),(.ref 97),(.ref 98),(.int 313 0),(.int 42 0),(.str (.ofString "/claim/cut.py") 314)]),#[]⟩
noncomputable def o100v0 : Params → Obj := by
  refine' (?f : (b : List Stmt) → b = sBody (nth (sBody (nth progB 4)) 6) → (a : Arguments) → a = sArgs (nth (sBody (nth progB 4)) 6) → (c : Scope) → c = sScope (nth (sBody (nth progB 4)) 6) → Params → Obj) _ ?h1 _ ?h2 _ ?h3
  case f => exact fun b _ a _ c _ P => ⟨(.type "function"),none,(.func ⟨(.ofString "_replace"),(.ofString "WindowStats._replace"),a,(.stmts b),c,3,[((.ofString "__class__"),68)],.none,.none,(.str (dS (nth (sBody (nth (sBody (nth progB 4)) 6)) 0)) 315),(.str (.ofString "limits.util") 194),none,(.ref 99),(.ref 93),0⟩),#[]⟩
  case h1 => conv => rhs; whnf
  case h2 => conv => rhs; whnf
  case h3 => conv => rhs; whnf
noncomputable def o101v0 (P : Params) : Obj := ⟨(.type "tuple"),none,(.seq #[] 0),#[]⟩
noncomputable def o102v0 (P : Params) : Obj := ⟨.none,none,(.fields #[]),#[]⟩
noncomputable def o103v0 (P : Params) : Obj := ⟨(.type "tuple"),none,(.seq #[(.str (.ofString "self") 321)] 0),#[]⟩
noncomputable def o104v0 (P : Params) : Obj := ⟨(.type "tuple"),none,(.seq #[] 0),#[]⟩
noncomputable def o105v0 : Params → Obj := by
  refine' (?f : (b : List Stmt) → b = sBody (nth (sBody (nth progB 4)) 8) → (a : Arguments) → a = sArgs (nth (sBody (nth progB 4)) 8) → (c : Scope) → c = sScope (nth (sBody (nth progB 4)) 8) → Params → Obj) _ ?h1 _ ?h2 _ ?h3
  case f => exact fun b _ a _ c _ P => ⟨.none,none,(.func ⟨(.ofString "__repr__"),(.ofString "WindowStats.__repr__"),a,(.stmts b),c,0,[],.none,.none,.none,.none,none,.none,.none,0⟩),#[]⟩
  case h1 => conv => rhs; whnf
  case h2 => conv => rhs; whnf
  case h3 => conv => rhs; whnf
noncomputable def o106v0 (P : Params) : Obj := ⟨(.type "code"),none,(.fields #[(.str (.ofString "__repr__") 318),(.str (.ofString "WindowStats.__repr__") 319),(.str (.ofString "/claim/cut.py") 320),(.int 53 0),(.int 1 0),(.int 0 0),(.int 0 0),(.int 3 0),(.ref 101),(.bool true),(.int 181 0),(.ref 102),.none,(.ref 103),(.ref 104),(.ref 105),(.int 322 0),(.int 53 0),(.str (.ofString "/claim/cut.py") 323)]),#[]⟩
noncomputable def o107v0 : Params → Obj := by
  refine' (?f : (b : List Stmt) → b = sBody (nth (sBody (nth progB 4)) 8) → (a : Arguments) → a = sArgs (nth (sBody (nth progB 4)) 8) → (c : Scope) → c = sScope (nth (sBody (nth progB 4)) 8) → Params → Obj) _ ?h1 _ ?h2 _ ?h3
  case f => exact fun b _ a _ c _ P => ⟨(.type "function"),none,(.func ⟨(.ofString "__repr__"),(.ofString "WindowStats.__repr__"),a,(.stmts b),c,3,[],.none,.none,(.str (dS (nth (sBody (nth (sBody (nth progB 4)) 8)) 0)) 324),(.str (.ofString "limits.util") 194),none,(.ref 106),.none,0⟩),#[]⟩
  case h1 => conv => rhs; whnf
  case h2 => conv => rhs; whnf
  case h3 => conv => rhs; whnf
noncomputable def o108v0 (P : Params) : Obj := ⟨(.type "tuple"),none,(.seq #[] 0),#[]⟩
noncomputable def o109v0 (P : Params) : Obj := ⟨.none,none,(.fields #[]),#[]⟩
noncomputable def o110v0 (P : Params) : Obj := ⟨(.type "tuple"),none,(.seq #[(.str (.ofString "self") 329)] 0),#[]⟩
noncomputable def o111v0 (P : Params) : Obj := ⟨(.type "tuple"),none,(.seq #[] 0),#[]⟩
noncomputable def o112v0 : Params → Obj := by
  refine' (?f : (b : List Stmt) → b = sBody (nth (sBody (nth progB 4)) 9) → (a : Arguments) → a = sArgs (nth (sBody (nth progB 4)) 9) → (c : Scope) → c = sScope (nth (sBody (nth progB 4)) 9) → Params → Obj) _ ?h1 _ ?h2 _ ?h3
  case f => exact fun b _ a _ c _ P => ⟨.none,none,(.func ⟨(.ofString "_asdict"),(.ofString "WindowStats._asdict"),a,(.stmts b),c,0,[],.none,.none,.none,.none,none,.none,.none,0⟩),#[]⟩
  case h1 => conv => rhs; whnf
  case h2 => conv => rhs; whnf
  case h3 => conv => rhs; whnf
noncomputable def o113v0 (P : Params) : Obj := ⟨(.type "code"),none,(.fields #[(.str (.ofString "_asdict") 326),(.str (.ofString "WindowStats._asdict") 327),(.str (.ofString "/claim/cut.py") 328),(.int 57 0),(.int 1 0),(.int 0 0),(.int 0 0),(.int 3 0),(.ref 108),(.bool true),(.int 181 0),(.ref 109),.none,(.ref 110),(.ref 111),(.ref 112),(.int 330 0),(.int 57 0),(.str (.ofString "/claim/cut.py") 331)]),#[]⟩
noncomputable def o114v0 : Params → Obj := by
  refine' (?f : (b : List Stmt) → b = sBody (nth (sBody (nth progB 4)) 9) → (a : Arguments) → a = sArgs (nth (sBody (nth progB 4)) 9) → (c : Scope) → c = sScope (nth (sBody (nth progB 4)) 9) → Params → Obj) _ ?h1 _ ?h2 _ ?h3
  case f => exact fun b _ a _ c _ P => ⟨(.type "function"),none,(.func ⟨(.ofString "_asdict"),(.ofString "WindowStats._asdict"),a,(.stmts b),c,3,[],.none,.none,.none,(.str (.ofString "limits.util") 194),none,(.ref 113),.none,0⟩),#[]⟩
  case h1 => conv => rhs; whnf
  case h2 => conv => rhs; whnf
  case h3 => conv => rhs; whnf
noncomputable def o115v0 (P : Params) : Obj := ⟨(.type "tuple"),none,(.seq #[] 0),#[]⟩
noncomputable def o116v0 (P : Params) : Obj := ⟨.none,none,(.fields #[]),#[]⟩
noncomputable def o117v0 (P : Params) : Obj := ⟨(.type "tuple"),none,(.seq #[(.str (.ofString "self") 336)] 0),#[]⟩
noncomputable def o118v0 (P : Params) : Obj := ⟨(.type "tuple"),none,(.seq #[] 0),#[]⟩
noncomputable def o119v0 : Params → Obj := by
  refine' (?f : (b : List Stmt) → b = sBody (nth (sBody (nth progB 4)) 10) → (a : Arguments) → a = sArgs (nth (sBody (nth progB 4)) 10) → (c : Scope) → c = sScope (nth (sBody (nth progB 4)) 10) → Params → Obj) _ ?h1 _ ?h2 _ ?h3
  case f => exact fun b _ a _ c _ P => ⟨.none,none,(.func ⟨(.ofString "__getnewargs__"),(.ofString "WindowStats.__getnewargs__"),a,(.stmts b),c,0,[],.none,.none,.none,.none,none,.none,.none,0⟩),#[]⟩
  case h1 => conv => rhs; whnf
  case h2 => conv => rhs; whnf
  case h3 => conv => rhs; whnf
noncomputable def o120v0 (P : Params) : Obj := ⟨(.type "code"),none,(.fields #[(.str (.ofString "__getnewargs__") 333),(.str (.ofString "WindowStats.__getnewargs__") 334),(.str (.ofString "/claim/cut.py") 335),(.int 60 0),(.int 1 0),(.int 0 0),(.int 0 0),(.int 3 0),(.ref 115),(.bool true),(.int 181 0),(.ref 116),.none,(.ref 117),(.ref 118),(.ref 119),(.int 337 0),(.int 60 0),(.str (.ofString "/claim/cut.py") 338)]),#[]⟩
noncomputable def o121v0 : Params → Obj := by
  refine' (?f : (b : List Stmt) → b = sBody (nth (sBody (nth progB 4)) 10) → (a : Arguments) → a = sArgs (nth (sBody (nth progB 4)) 10) → (c : Scope) → c = sScope (nth (sBody (nth progB 4)) 10) → Params → Obj) _ ?h1 _ ?h2 _ ?h3
  case f => exact fun b _ a _ c _ P => ⟨(.type "function"),none,(.func ⟨(.ofString "__getnewargs__"),(.ofString "WindowStats.__getnewargs__"),a,(.stmts b),c,3,[],.none,.none,(.str (dS (nth (sBody (nth (sBody (nth progB 4)) 10)) 0)) 339),(.str (.ofString "limits.util") 194),none,(.ref 120),.none,0⟩),#[]⟩
  case h1 => conv => rhs; whnf
  case h2 => conv => rhs; whnf
  case h3 => conv => rhs; whnf
noncomputable def o122v0 (P : Params) : Obj := ⟨(.type "tuple"),none,(.seq #[(.str (.ofString "reset_time") 341),(.str (.ofString "remaining") 342)] 0),#[]⟩
noncomputable def o123v0 (P : Params) : Obj := ⟨(.type "dict"),none,(.dict #[⟨(PySem.PyData.keyHash P (.ofString "index")),(.str (.ofString "index") 350),(.int 0 344)⟩,⟨(PySem.PyData.keyHash P (.ofString "__doc__")),(.str (.ofString "__doc__") 352),(.str (.ofString "Alias for field number 0") 345)⟩] 2),#[]⟩
noncomputable def o124v0 (P : Params) : Obj := ⟨(.ref 60),(some 123),.plain,#[]⟩
noncomputable def o125v0 (P : Params) : Obj := ⟨(.type "frame"),none,(.dict #[⟨(PySem.PyData.keyHash P (.ofString "self")),(.str (.ofString "self") 346),(.ref 124)⟩,⟨(PySem.PyData.keyHash P (.ofString "index")),(.str (.ofString "index") 347),(.int 0 344)⟩,⟨(PySem.PyData.keyHash P (.ofString "doc")),(.str (.ofString "doc") 348),(.str (.ofString "Alias for field number 0") 345)⟩] 3),#[]⟩
noncomputable def o126v0 (P : Params) : Obj := ⟨(.type "dict"),none,(.dict #[⟨(PySem.PyData.keyHash P (.ofString "index")),(.str (.ofString "index") 360),(.int 1 354)⟩,⟨(PySem.PyData.keyHash P (.ofString "__doc__")),(.str (.ofString "__doc__") 362),(.str (.ofString "Alias for field number 1") 355)⟩] 2),#[]⟩
noncomputable def o127v0 (P : Params) : Obj := ⟨(.ref 60),(some 126),.plain,#[]⟩
noncomputable def o128v0 (P : Params) : Obj := ⟨(.type "frame"),none,(.dict #[⟨(PySem.PyData.keyHash P (.ofString "self")),(.str (.ofString "self") 356),(.ref 127)⟩,⟨(PySem.PyData.keyHash P (.ofString "index")),(.str (.ofString "index") 357),(.int 1 354)⟩,⟨(PySem.PyData.keyHash P (.ofString "doc")),(.str (.ofString "doc") 358),(.str (.ofString "Alias for field number 1") 355)⟩] 3),#[]⟩
noncomputable def o129v0 (P : Params) : Obj := ⟨(.type "tuple"),none,(.seq #[] 0),#[]⟩
noncomputable def o130v0 (P : Params) : Obj := ⟨(.type "list"),none,(.seq #[] 0),#[]⟩
noncomputable def o131v0 (P : Params) : Obj := ⟨(.type "dict"),none,(.dict #[⟨(PySem.PyData.keyHash P (.ofString "__module__")),(.str (.ofString "__module__") 261),(.str (.ofString "limits.util") 194)⟩,⟨(PySem.PyData.keyHash P (.ofString "__firstlineno__")),(.str (.ofString "__firstlineno__") 265),(.int 24 264)⟩,⟨(PySem.PyData.keyHash P (.ofString "__doc__")),(.str (.ofString "__doc__") 267),(.str (dS (nth (sBody (nth progB 4)) 0)) 266)⟩,⟨(PySem.PyData.keyHash P (.ofString "__slots__")),(.str (.ofString "__slots__") 269),(.ref 73)⟩,⟨(PySem.PyData.keyHash P (.ofString "_fields")),(.str (.ofString "_fields") 272),(.ref 74)⟩,⟨(PySem.PyData.keyHash P (.ofString "_field_defaults")),(.str (.ofString "_field_defaults") 273),(.ref 75)⟩,⟨(PySem.PyData.keyHash P (.ofString "__new__")),(.str (.ofString "__new__") 283),(.ref 133)⟩,⟨(PySem.PyData.keyHash P (.ofString "_make")),(.str (.ofString "_make") 305),(.ref 91)⟩,⟨(PySem.PyData.keyHash P (.ofString "_replace")),(.str (.ofString "_replace") 316),(.ref 100)⟩,⟨(PySem.PyData.keyHash P (.ofString "__replace__")),(.str (.ofString "__replace__") 317),(.ref 100)⟩,⟨(PySem.PyData.keyHash P (.ofString "__repr__")),(.str (.ofString "__repr__") 325),(.ref 107)⟩,⟨(PySem.PyData.keyHash P (.ofString "_asdict")),(.str (.ofString "_asdict") 332),(.ref 114)⟩,⟨(PySem.PyData.keyHash P (.ofString "__getnewargs__")),(.str (.ofString "__getnewargs__") 340),(.ref 121)⟩,⟨(PySem.PyData.keyHash P (.ofString "__match_args__")),(.str (.ofString "__match_args__") 343),(.ref 122)⟩,⟨(PySem.PyData.keyHash P (.ofString "reset_time")),(.str (.ofString "reset_time") 353),(.ref 124)⟩,⟨(PySem.PyData.keyHash P (.ofString "remaining")),(.str (.ofString "remaining") 363),(.ref 127)⟩,⟨(PySem.PyData.keyHash P (.ofString "__static_attributes__")),(.str (.ofString "__static_attributes__") 364),(.ref 129)⟩] 2),#[]⟩
noncomputable def o132v0 (P : Params) : Obj := ⟨(.type "type"),none,(.cls ⟨(.ofString "WindowStats"),[(.type "tuple")],[(.ref 132),(.type "tuple"),(.type "object")],131,(.ofString "WindowStats"),false,[],[],false,none,false⟩),#[(some (.ref 65)),none,(some (.str (.ofString "WindowStats") 254)),(some (.str (.ofString "WindowStats") 262)),(some .none),(some (.bool false))]⟩
noncomputable def o133v0 (P : Params) : Obj := ⟨(.type "staticmethod"),none,(.fields #[(.ref 82)]),#[]⟩
noncomputable def o134v0 (P : Params) : Obj := ⟨(.type "super"),none,(.fields #[(.ref 132),(.ref 132),(.ref 132)]),#[]⟩
noncomputable def o135v0 (P : Params) : Obj := ⟨(.type "builtin_function_or_method"),none,(.fields #[(.builtin "object.__init_subclass__"),(.ref 132)]),#[]⟩
noncomputable def tr2 (P : Params) : BT := (.node (PySem.W.boot_o_0 P) (.node (PySem.W.boot_o_1 P) (.node (o3v2 P) (.node (PySem.W.boot_o_7 P) (.node (o15v0 P) (.node (o31v0 P) (.node (o63v0 P) (.node (o127v0 P) .nil .nil) .nil) (.node (o95v0 P) .nil .nil)) (.node (o47v0 P) (.node (o79v0 P) .nil .nil) (.node (o111v0 P) .nil .nil))) (.node (o23v0 P) (.node (o39v0 P) (.node (o71v0 P) (.node (o135v0 P) .nil .nil) .nil) (.node (o103v0 P) .nil .nil)) (.node (o55v0 P) (.node (o87v0 P) .nil .nil) (.node (o119v0 P) .nil .nil)))) (.node (o11v0 P) (.node (o19v0 P) (.node (o35v0 P) (.node (o67v0 P) (.node (o131v0 P) .nil .nil) .nil) (.node (o99v0 P) .nil .nil)) (.node (o51v0 P) (.node (o83v0 P) .nil .nil) (.node (o115v0 P) .nil .nil))) (.node (o27v0 P) (.node (o43v0 P) (.node (o75v0 P) .nil .nil) (.node (o107v0 P) .nil .nil)) (.node (o59v0 P) (.node (o91v0 P) .nil .nil) (.node (o123v0 P) .nil .nil))))) (.node (PySem.W.boot_o_5 P) (.node (PySem.W.boot_o_9 P) (.node (o17v0 P) (.node (o33v0 P) (.node (o65v0 P) (.node (o129v0 P) .nil .nil) .nil) (.node (o97v0 P) .nil .nil)) (.node (o49v0 P) (.node (o81v0 P) .nil .nil) (.node (o113v0 P) .nil .nil))) (.node (o25v0 P) (.node (o41v0 P) (.node (o73v0 P) .nil .nil) (.node (o105v0 P) .nil .nil)) (.node (o57v0 P) (.node (o89v0 P) .nil .nil) (.node (o121v0 P) .nil .nil)))) (.node (o13v0 P) (.node (o21v0 P) (.node (o37v0 P) (.node (o69v0 P) (.node (o133v0 P) .nil .nil) .nil) (.node (o101v0 P) .nil .nil)) (.node (o53v0 P) (.node (o85v0 P) .nil .nil) (.node (o117v0 P) .nil .nil))) (.node (o29v0 P) (.node (o45v0 P) (.node (o77v0 P) .nil .nil) (.node (o109v0 P) .nil .nil)) (.node (o61v0 P) (.node (o93v0 P) .nil .nil) (.node (o125v0 P) .nil .nil)))))) (.node (PySem.W.boot_o_2 P) (.node (PySem.W.boot_o_4 P) (.node (PySem.W.boot_o_8 P) (.node (o16v0 P) (.node (o32v0 P) (.node (o64v0 P) (.node (o128v0 P) .nil .nil) .nil) (.node (o96v0 P) .nil .nil)) (.node (o48v0 P) (.node (o80v0 P) .nil .nil) (.node (o112v0 P) .nil .nil))) (.node (o24v0 P) (.node (o40v0 P) (.node (o72v0 P) .nil .nil) (.node (o104v0 P) .nil .nil)) (.node (o56v0 P) (.node (o88v0 P) .nil .nil) (.node (o120v0 P) .nil .nil)))) (.node (o12v2 P) (.node (o20v0 P) (.node (o36v0 P) (.node (o68v0 P) (.node (o132v0 P) .nil .nil) .nil) (.node (o100v0 P) .nil .nil)) (.node (o52v0 P) (.node (o84v0 P) .nil .nil) (.node (o116v0 P) .nil .nil))) (.node (o28v0 P) (.node (o44v0 P) (.node (o76v0 P) .nil .nil) (.node (o108v0 P) .nil .nil)) (.node (o60v0 P) (.node (o92v0 P) .nil .nil) (.node (o124v0 P) .nil .nil))))) (.node (PySem.W.boot_o_6 P) (.node (PySem.W.boot_o_10 P) (.node (o18v0 P) (.node (o34v0 P) (.node (o66v0 P) (.node (o130v0 P) .nil .nil) .nil) (.node (o98v0 P) .nil .nil)) (.node (o50v0 P) (.node (o82v0 P) .nil .nil) (.node (o114v0 P) .nil .nil))) (.node (o26v0 P) (.node (o42v0 P) (.node (o74v0 P) .nil .nil) (.node (o106v0 P) .nil .nil)) (.node (o58v0 P) (.node (o90v0 P) .nil .nil) (.node (o122v0 P) .nil .nil)))) (.node (o14v0 P) (.node (o22v0 P) (.node (o38v0 P) (.node (o70v0 P) (.node (o134v0 P) .nil .nil) .nil) (.node (o102v0 P) .nil .nil)) (.node (o54v0 P) (.node (o86v0 P) .nil .nil) (.node (o118v0 P) .nil .nil))) (.node (o30v0 P) (.node (o46v0 P) (.node (o78v0 P) .nil .nil) (.node (o110v0 P) .nil .nil)) (.node (o62v0 P) (.node (o94v0 P) .nil .nil) (.node (o126v0 P) .nil .nil)))))))
noncomputable def o3v3 (P : Params) : Obj := ⟨(.type "dict"),none,(.dict #[⟨(PySem.PyData.keyHash P (.ofString "__name__")),(.str (.ofString "__name__") 165),(.str (.ofString "limits.limits") 464)⟩,⟨(PySem.PyData.keyHash P (.ofString "__doc__")),(.str (.ofString "__doc__") 166),.none⟩,⟨(PySem.PyData.keyHash P (.ofString "__package__")),(.str (.ofString "__package__") 167),.none⟩,⟨(PySem.PyData.keyHash P (.ofString "__loader__")),(.str (.ofString "__loader__") 168),(.builtin "__main__.__loader__#opaque")⟩,⟨(PySem.PyData.keyHash P (.ofString "__spec__")),(.str (.ofString "__spec__") 169),.none⟩,⟨(PySem.PyData.keyHash P (.ofString "__annotations__")),(.str (.ofString "__annotations__") 170),(.ref 6)⟩,⟨(PySem.PyData.keyHash P (.ofString "__builtins__")),(.str (.ofString "__builtins__") 171),(.ref 4)⟩,⟨(PySem.PyData.keyHash P (.ofString "__file__")),(.str (.ofString "__file__") 173),(.str (.ofString "/claim/cut.py") 172)⟩,⟨(PySem.PyData.keyHash P (.ofString "__cached__")),(.str (.ofString "__cached__") 174),.none⟩,⟨(PySem.PyData.keyHash P (.ofString "_wall")),(.str (.ofString "_wall") 193),(.ref 21)⟩,⟨(PySem.PyData.keyHash P (.ofString "_tuplegetter")),(.str (.ofString "_tuplegetter") 252),(.ref 243)⟩,⟨(PySem.PyData.keyHash P (.ofString "tuplegetter_util")),(.str (.ofString "tuplegetter_util") 253),(.ref 60)⟩,⟨(PySem.PyData.keyHash P (.ofString "WindowStats")),(.str (.ofString "WindowStats") 368),(.ref 132)⟩,⟨(PySem.PyData.keyHash P (.ofString "RateLimiter")),(.str (.ofString "RateLimiter") 408),(.ref 161)⟩,⟨(PySem.PyData.keyHash P (.ofString "MovingWindowRateLimiter")),(.str (.ofString "MovingWindowRateLimiter") 463),(.ref 202)⟩,⟨(PySem.PyData.keyHash P (.ofString "tuplegetter_limits")),(.str (.ofString "tuplegetter_limits") 523),(.ref 243)⟩,⟨(PySem.PyData.keyHash P (.ofString "safe_string")),(.str (.ofString "safe_string") 531),(.ref 254)⟩] 17),#[]⟩
noncomputable def o12v3 (P : Params) : Obj := ⟨.none,none,(.fields #[(.int 1 0),(.int 0 0),(.ref 20),(.int 5 0),(.int 0 0),(.ref 27),(.int 24 0),(.int 0 0),(.ref 71),(.int 67 0),(.int 0 0),(.ref 141),(.int 74 0),(.int 0 0),(.ref 171),(.int 118 0),(.int 0 0),(.ref 210),(.int 137 0),(.int 0 0),(.ref 253)]),#[]⟩
noncomputable def o136v0 (P : Params) : Obj := ⟨(.type "tuple"),none,(.seq #[] 0),#[]⟩
noncomputable def o137v0 (P : Params) : Obj := ⟨(.type "builtin_function_or_method"),none,(.fields #[(.builtin "type.__prepare__"),(.type "type")]),#[]⟩
noncomputable def o138v0 (P : Params) : Obj := ⟨(.type "dict"),none,(.dict #[⟨(PySem.PyData.keyHash P (.ofString "__module__")),(.str (.ofString "__module__") 378),(.str (.ofString "limits.strategies") 369)⟩,⟨(PySem.PyData.keyHash P (.ofString "__qualname__")),(.str (.ofString "__qualname__") 380),(.str (.ofString "RateLimiter") 379)⟩,⟨(PySem.PyData.keyHash P (.ofString "__firstlineno__")),(.str (.ofString "__firstlineno__") 382),(.int 67 381)⟩,⟨(PySem.PyData.keyHash P (.ofString "__init__")),(.str (.ofString "__init__") 390),(.ref 149)⟩,⟨(PySem.PyData.keyHash P (.ofString "clear")),(.str (.ofString "clear") 399),(.ref 158)⟩,⟨(PySem.PyData.keyHash P (.ofString "__static_attributes__")),(.str (.ofString "__static_attributes__") 401),(.ref 159)⟩] 6),#[]⟩
noncomputable def o139v0 (P : Params) : Obj := ⟨(.type "tuple"),none,(.seq #[] 0),#[]⟩
noncomputable def o140v0 (P : Params) : Obj := ⟨.none,none,(.fields #[(.int 69 0),(.int 4 0),(.ref 148),(.int 72 0),(.int 4 0),(.ref 157)]),#[]⟩
noncomputable def o141v0 (P : Params) : Obj := ⟨(.type "code"),none,(.fields #[(.str (.ofString "RateLimiter") 373),(.str (.ofString "RateLimiter") 374),(.str (.ofString "/claim/cut.py") 375),(.int 67 0),(.int 0 0),(.int 0 0),(.int 0 0),(.int 0 0),(.ref 139),(.bool false),(.int 181 0),(.ref 140),.none,.none,.none,.none,(.int 376 0),(.int 67 0),(.str (.ofString "/claim/cut.py") 377)]),#[]⟩
noncomputable def o142v0 (P : Params) : Obj := ⟨(.type "frame"),none,.plain,#[(some (.ref 141)),(some (.ref 3)),(some (.ref 138)),none,(some (.str (.ofString "limits.strategies") 369)),none,(some (.ref 0))]⟩
noncomputable def o143v0 (P : Params) : Obj := ⟨(.type "tuple"),none,(.seq #[] 0),#[]⟩
noncomputable def o144v0 (P : Params) : Obj := ⟨.none,none,(.fields #[]),#[]⟩
noncomputable def o145v0 (P : Params) : Obj := ⟨(.type "tuple"),none,(.seq #[(.str (.ofString "self") 386),(.str (.ofString "storage") 387)] 0),#[]⟩
noncomputable def o146v0 (P : Params) : Obj := ⟨(.type "tuple"),none,(.seq #[] 0),#[]⟩
noncomputable def o147v0 : Params → Obj := by
  refine' (?f : (b : List Stmt) → b = sBody (nth (sBody (nth progB 6)) 0) → (a : Arguments) → a = sArgs (nth (sBody (nth progB 6)) 0) → (c : Scope) → c = sScope (nth (sBody (nth progB 6)) 0) → Params → Obj) _ ?h1 _ ?h2 _ ?h3
  case f => exact fun b _ a _ c _ P => ⟨.none,none,(.func ⟨(.ofString "__init__"),(.ofString "RateLimiter.__init__"),a,(.stmts b),c,0,[],.none,.none,.none,.none,none,.none,.none,0⟩),#[]⟩
  case h1 => conv => rhs; whnf
  case h2 => conv => rhs; whnf
  case h3 => conv => rhs; whnf
noncomputable def o148v0 (P : Params) : Obj := ⟨(.type "code"),none,(.fields #[(.str (.ofString "__init__") 383),(.str (.ofString "RateLimiter.__init__") 384),(.str (.ofString "/claim/cut.py") 385),(.int 69 0),(.int 2 0),(.int 0 0),(.int 0 0),(.int 3 0),(.ref 143),(.bool true),(.int 181 0),(.ref 144),.none,(.ref 145),(.ref 146),(.ref 147),(.int 388 0),(.int 69 0),(.str (.ofString "/claim/cut.py") 389)]),#[]⟩
noncomputable def o149v0 : Params → Obj := by
  refine' (?f : (b : List Stmt) → b = sBody (nth (sBody (nth progB 6)) 0) → (a : Arguments) → a = sArgs (nth (sBody (nth progB 6)) 0) → (c : Scope) → c = sScope (nth (sBody (nth progB 6)) 0) → Params → Obj) _ ?h1 _ ?h2 _ ?h3
  case f => exact fun b _ a _ c _ P => ⟨(.type "function"),none,(.func ⟨(.ofString "__init__"),(.ofString "RateLimiter.__init__"),a,(.stmts b),c,3,[],.none,.none,.none,(.str (.ofString "limits.strategies") 369),none,(.ref 148),.none,0⟩),#[]⟩
  case h1 => conv => rhs; whnf
  case h2 => conv => rhs; whnf
  case h3 => conv => rhs; whnf
noncomputable def o150v0 (P : Params) : Obj := ⟨(.type "tuple"),none,(.seq #[] 0),#[]⟩
noncomputable def o151v0 (P : Params) : Obj := ⟨(.type "tuple"),none,(.seq #[(.ref 150)] 0),#[]⟩
noncomputable def o152v0 (P : Params) : Obj := ⟨(.type "tuple"),none,(.seq #[] 0),#[]⟩
noncomputable def o153v0 (P : Params) : Obj := ⟨.none,none,(.fields #[]),#[]⟩
noncomputable def o154v0 (P : Params) : Obj := ⟨(.type "tuple"),none,(.seq #[(.str (.ofString "self") 394),(.str (.ofString "item") 395),(.str (.ofString "identifiers") 396)] 0),#[]⟩
noncomputable def o155v0 (P : Params) : Obj := ⟨(.type "tuple"),none,(.seq #[] 0),#[]⟩
noncomputable def o156v0 : Params → Obj := by
  refine' (?f : (b : List Stmt) → b = sBody (nth (sBody (nth progB 6)) 1) → (a : Arguments) → a = sArgs (nth (sBody (nth progB 6)) 1) → (c : Scope) → c = sScope (nth (sBody (nth progB 6)) 1) → Params → Obj) _ ?h1 _ ?h2 _ ?h3
  case f => exact fun b _ a _ c _ P => ⟨.none,none,(.func ⟨(.ofString "clear"),(.ofString "RateLimiter.clear"),a,(.stmts b),c,0,[],.none,.none,.none,.none,none,.none,.none,0⟩),#[]⟩
  case h1 => conv => rhs; whnf
  case h2 => conv => rhs; whnf
  case h3 => conv => rhs; whnf
noncomputable def o157v0 (P : Params) : Obj := ⟨(.type "code"),none,(.fields #[(.str (.ofString "clear") 391),(.str (.ofString "RateLimiter.clear") 392),(.str (.ofString "/claim/cut.py") 393),(.int 72 0),(.int 3 0),(.int 0 0),(.int 0 0),(.int 3 0),(.ref 152),(.bool true),(.int 181 0),(.ref 153),.none,(.ref 154),(.ref 155),(.ref 156),(.int 397 0),(.int 72 0),(.str (.ofString "/claim/cut.py") 398)]),#[]⟩
noncomputable def o158v0 : Params → Obj := by
  refine' (?f : (b : List Stmt) → b = sBody (nth (sBody (nth progB 6)) 1) → (a : Arguments) → a = sArgs (nth (sBody (nth progB 6)) 1) → (c : Scope) → c = sScope (nth (sBody (nth progB 6)) 1) → Params → Obj) _ ?h1 _ ?h2 _ ?h3
  case f => exact fun b _ a _ c _ P => ⟨(.type "function"),none,(.func ⟨(.ofString "clear"),(.ofString "RateLimiter.clear"),a,(.stmts b),c,3,[],(.ref 151),.none,.none,(.str (.ofString "limits.strategies") 369),none,(.ref 157),.none,0⟩),#[]⟩
  case h1 => conv => rhs; whnf
  case h2 => conv => rhs; whnf
  case h3 => conv => rhs; whnf
noncomputable def o159v0 (P : Params) : Obj := ⟨(.type "tuple"),none,(.seq #[(.str (.ofString "storage") 400)] 0),#[]⟩
noncomputable def o160v0 (P : Params) : Obj := ⟨(.type "dict"),none,(.dict #[⟨(PySem.PyData.keyHash P (.ofString "__module__")),(.str (.ofString "__module__") 378),(.str (.ofString "limits.strategies") 369)⟩,⟨(PySem.PyData.keyHash P (.ofString "__firstlineno__")),(.str (.ofString "__firstlineno__") 382),(.int 67 381)⟩,⟨(PySem.PyData.keyHash P (.ofString "__init__")),(.str (.ofString "__init__") 390),(.ref 149)⟩,⟨(PySem.PyData.keyHash P (.ofString "clear")),(.str (.ofString "clear") 399),(.ref 158)⟩,⟨(PySem.PyData.keyHash P (.ofString "__static_attributes__")),(.str (.ofString "__static_attributes__") 401),(.ref 159)⟩,⟨(PySem.PyData.keyHash P (.ofString "__dict__")),(.str (.ofString "__dict__") 403),(.ref 162)⟩,⟨(PySem.PyData.keyHash P (.ofString "__weakref__")),(.str (.ofString "__weakref__") 405),(.ref 163)⟩,⟨(PySem.PyData.keyHash P (.ofString "__doc__")),(.str (.ofString "__doc__") 406),.none⟩] 4),#[]⟩
noncomputable def o161v0 (P : Params) : Obj := ⟨(.type "type"),none,(.cls ⟨(.ofString "RateLimiter"),[(.type "object")],[(.ref 161),(.type "object")],160,(.ofString "RateLimiter"),true,[],[(.ref 202)],false,none,false⟩),#[none,none,(some (.str (.ofString "RateLimiter") 371)),(some (.str (.ofString "RateLimiter") 379)),(some (.builtin "object.__new__")),(some (.bool true))]⟩
noncomputable def o162v0 (P : Params) : Obj := ⟨(.type "getset_descriptor"),none,(.fields #[(.str (.ofString "__dict__") 402),(.ref 161),(.builtin "function.__dict__"),(.builtin "function.__dict__#set")]),#[]⟩
noncomputable def o163v0 (P : Params) : Obj := ⟨(.type "getset_descriptor"),none,(.fields #[(.str (.ofString "__weakref__") 404),(.ref 161),(.builtin "ExceptionGroup.__weakref__"),.none]),#[]⟩
noncomputable def o164v0 (P : Params) : Obj := ⟨(.type "super"),none,(.fields #[(.ref 161),(.ref 161),(.ref 161)]),#[]⟩
noncomputable def o165v0 (P : Params) : Obj := ⟨(.type "builtin_function_or_method"),none,(.fields #[(.builtin "object.__init_subclass__"),(.ref 161)]),#[]⟩
noncomputable def o166v0 (P : Params) : Obj := ⟨(.type "tuple"),none,(.seq #[(.ref 161)] 0),#[]⟩
noncomputable def o167v0 (P : Params) : Obj := ⟨(.type "builtin_function_or_method"),none,(.fields #[(.builtin "type.__prepare__"),(.type "type")]),#[]⟩
noncomputable def o168v0 (P : Params) : Obj := ⟨(.type "dict"),none,(.dict #[⟨(PySem.PyData.keyHash P (.ofString "__module__")),(.str (.ofString "__module__") 416),(.str (.ofString "limits.strategies") 369)⟩,⟨(PySem.PyData.keyHash P (.ofString "__qualname__")),(.str (.ofString "__qualname__") 418),(.str (.ofString "MovingWindowRateLimiter") 417)⟩,⟨(PySem.PyData.keyHash P (.ofString "__firstlineno__")),(.str (.ofString "__firstlineno__") 420),(.int 74 419)⟩,⟨(PySem.PyData.keyHash P (.ofString "__doc__")),(.str (.ofString "__doc__") 422),(.str (dS (nth (sBody (nth progB 7)) 0)) 421)⟩,⟨(PySem.PyData.keyHash P (.ofString "hit")),(.str (.ofString "hit") 435),(.ref 181)⟩,⟨(PySem.PyData.keyHash P (.ofString "test")),(.str (.ofString "test") 447),(.ref 190)⟩,⟨(PySem.PyData.keyHash P (.ofString "get_window_stats")),(.str (.ofString "get_window_stats") 460),(.ref 199)⟩,⟨(PySem.PyData.keyHash P (.ofString "__static_attributes__")),(.str (.ofString "__static_attributes__") 461),(.ref 200)⟩] 8),#[]⟩
noncomputable def o169v0 (P : Params) : Obj := ⟨(.type "tuple"),none,(.seq #[] 0),#[]⟩
noncomputable def o170v0 (P : Params) : Obj := ⟨.none,none,(.fields #[(.int 79 0),(.int 4 0),(.ref 180),(.int 92 0),(.int 4 0),(.ref 189),(.int 105 0),(.int 4 0),(.ref 198)]),#[]⟩
noncomputable def o171v0 (P : Params) : Obj := ⟨(.type "code"),none,(.fields #[(.str (.ofString "MovingWindowRateLimiter") 411),(.str (.ofString "MovingWindowRateLimiter") 412),(.str (.ofString "/claim/cut.py") 413),(.int 74 0),(.int 0 0),(.int 0 0),(.int 0 0),(.int 0 0),(.ref 169),(.bool false),(.int 181 0),(.ref 170),.none,.none,.none,.none,(.int 414 0),(.int 74 0),(.str (.ofString "/claim/cut.py") 415)]),#[]⟩
noncomputable def o172v0 (P : Params) : Obj := ⟨(.type "frame"),none,.plain,#[(some (.ref 171)),(some (.ref 3)),(some (.ref 168)),none,(some (.str (.ofString "limits.strategies") 369)),none,(some (.ref 0))]⟩
noncomputable def o173v0 (P : Params) : Obj := ⟨(.type "tuple"),none,(.seq #[] 0),#[]⟩
noncomputable def o174v0 (P : Params) : Obj := ⟨(.type "tuple"),none,(.seq #[(.ref 173),(.int 1 424)] 0),#[]⟩
noncomputable def o175v0 (P : Params) : Obj := ⟨(.type "tuple"),none,(.seq #[] 0),#[]⟩
noncomputable def o176v0 (P : Params) : Obj := ⟨.none,none,(.fields #[]),#[]⟩
noncomputable def o177v0 (P : Params) : Obj := ⟨(.type "tuple"),none,(.seq #[(.str (.ofString "self") 428),(.str (.ofString "item") 429),(.str (.ofString "identifiers") 430),(.str (.ofString "cost") 431)] 0),#[]⟩
noncomputable def o178v0 (P : Params) : Obj := ⟨(.type "tuple"),none,(.seq #[] 0),#[]⟩
noncomputable def o179v0 : Params → Obj := by
  refine' (?f : (b : List Stmt) → b = sBody (nth (sBody (nth progB 7)) 1) → (a : Arguments) → a = sArgs (nth (sBody (nth progB 7)) 1) → (c : Scope) → c = sScope (nth (sBody (nth progB 7)) 1) → Params → Obj) _ ?h1 _ ?h2 _ ?h3
  case f => exact fun b _ a _ c _ P => ⟨.none,none,(.func ⟨(.ofString "hit"),(.ofString "MovingWindowRateLimiter.hit"),a,(.stmts b),c,0,[],.none,.none,.none,.none,none,.none,.none,0⟩),#[]⟩
  case h1 => conv => rhs; whnf
  case h2 => conv => rhs; whnf
  case h3 => conv => rhs; whnf
noncomputable def o180v0 (P : Params) : Obj := ⟨(.type "code"),none,(.fields #[(.str (.ofString "hit") 425),(.str (.ofString "MovingWindowRateLimiter.hit") 426),(.str (.ofString "/claim/cut.py") 427),(.int 79 0),(.int 4 0),(.int 0 0),(.int 0 0),(.int 3 0),(.ref 175),(.bool true),(.int 181 0),(.ref 176),.none,(.ref 177),(.ref 178),(.ref 179),(.int 432 0),(.int 79 0),(.str (.ofString "/claim/cut.py") 433)]),#[]⟩
noncomputable def o181v0 : Params → Obj := by
  refine' (?f : (b : List Stmt) → b = sBody (nth (sBody (nth progB 7)) 1) → (a : Arguments) → a = sArgs (nth (sBody (nth progB 7)) 1) → (c : Scope) → c = sScope (nth (sBody (nth progB 7)) 1) → Params → Obj) _ ?h1 _ ?h2 _ ?h3
  case f => exact fun b _ a _ c _ P => ⟨(.type "function"),none,(.func ⟨(.ofString "hit"),(.ofString "MovingWindowRateLimiter.hit"),a,(.stmts b),c,3,[],(.ref 174),.none,(.str (dS (nth (sBody (nth (sBody (nth progB 7)) 1)) 0)) 434),(.str (.ofString "limits.strategies") 369),none,(.ref 180),.none,0⟩),#[]⟩
  case h1 => conv => rhs; whnf
  case h2 => conv => rhs; whnf
  case h3 => conv => rhs; whnf
noncomputable def o182v0 (P : Params) : Obj := ⟨(.type "tuple"),none,(.seq #[] 0),#[]⟩
noncomputable def o183v0 (P : Params) : Obj := ⟨(.type "tuple"),none,(.seq #[(.ref 182),(.int 1 436)] 0),#[]⟩
noncomputable def o184v0 (P : Params) : Obj := ⟨(.type "tuple"),none,(.seq #[] 0),#[]⟩
noncomputable def o185v0 (P : Params) : Obj := ⟨.none,none,(.fields #[]),#[]⟩
noncomputable def o186v0 (P : Params) : Obj := ⟨(.type "tuple"),none,(.seq #[(.str (.ofString "self") 440),(.str (.ofString "item") 441),(.str (.ofString "identifiers") 442),(.str (.ofString "cost") 443)] 0),#[]⟩
noncomputable def o187v0 (P : Params) : Obj := ⟨(.type "tuple"),none,(.seq #[] 0),#[]⟩
noncomputable def o188v0 : Params → Obj := by
  refine' (?f : (b : List Stmt) → b = sBody (nth (sBody (nth progB 7)) 2) → (a : Arguments) → a = sArgs (nth (sBody (nth progB 7)) 2) → (c : Scope) → c = sScope (nth (sBody (nth progB 7)) 2) → Params → Obj) _ ?h1 _ ?h2 _ ?h3
  case f => exact fun b _ a _ c _ P => ⟨.none,none,(.func ⟨(.ofString "test"),(.ofString "MovingWindowRateLimiter.test"),a,(.stmts b),c,0,[],.none,.none,.none,.none,none,.none,.none,0⟩),#[]⟩
  case h1 => conv => rhs; whnf
  case h2 => conv => rhs; whnf
  case h3 => conv => rhs; whnf
noncomputable def o189v0 (P : Params) : Obj := ⟨(.type "code"),none,(.fields #[(.str (.ofString "test") 437),(.str (.ofString "MovingWindowRateLimiter.test") 438),(.str (.ofString "/claim/cut.py") 439),(.int 92 0),(.int 4 0),(.int 0 0),(.int 0 0),(.int 3 0),(.ref 184),(.bool true),(.int 181 0),(.ref 185),.none,(.ref 186),(.ref 187),(.ref 188),(.int 444 0),(.int 92 0),(.str (.ofString "/claim/cut.py") 445)]),#[]⟩
noncomputable def o190v0 : Params → Obj := by
  refine' (?f : (b : List Stmt) → b = sBody (nth (sBody (nth progB 7)) 2) → (a : Arguments) → a = sArgs (nth (sBody (nth progB 7)) 2) → (c : Scope) → c = sScope (nth (sBody (nth progB 7)) 2) → Params → Obj) _ ?h1 _ ?h2 _ ?h3
  case f => exact fun b _ a _ c _ P => ⟨(.type "function"),none,(.func ⟨(.ofString "test"),(.ofString "MovingWindowRateLimiter.test"),a,(.stmts b),c,3,[],(.ref 183),.none,(.str (dS (nth (sBody (nth (sBody (nth progB 7)) 2)) 0)) 446),(.str (.ofString "limits.strategies") 369),none,(.ref 189),.none,0⟩),#[]⟩
  case h1 => conv => rhs; whnf
  case h2 => conv => rhs; whnf
  case h3 => conv => rhs; whnf
noncomputable def o191v0 (P : Params) : Obj := ⟨(.type "tuple"),none,(.seq #[] 0),#[]⟩
noncomputable def o192v0 (P : Params) : Obj := ⟨(.type "tuple"),none,(.seq #[(.ref 191)] 0),#[]⟩
noncomputable def o193v0 (P : Params) : Obj := ⟨(.type "tuple"),none,(.seq #[] 0),#[]⟩
noncomputable def o194v0 (P : Params) : Obj := ⟨.none,none,(.fields #[]),#[]⟩
noncomputable def o195v0 (P : Params) : Obj := ⟨(.type "tuple"),none,(.seq #[(.str (.ofString "self") 451),(.str (.ofString "item") 452),(.str (.ofString "identifiers") 453),(.str (.ofString "window_start") 454),(.str (.ofString "window_items") 455),(.str (.ofString "reset") 456)] 0),#[]⟩
noncomputable def o196v0 (P : Params) : Obj := ⟨(.type "tuple"),none,(.seq #[] 0),#[]⟩
noncomputable def o197v0 : Params → Obj := by
  refine' (?f : (b : List Stmt) → b = sBody (nth (sBody (nth progB 7)) 3) → (a : Arguments) → a = sArgs (nth (sBody (nth progB 7)) 3) → (c : Scope) → c = sScope (nth (sBody (nth progB 7)) 3) → Params → Obj) _ ?h1 _ ?h2 _ ?h3
  case f => exact fun b _ a _ c _ P => ⟨.none,none,(.func ⟨(.ofString "get_window_stats"),(.ofString "MovingWindowRateLimiter.get_window_stats"),a,(.stmts b),c,0,[],.none,.none,.none,.none,none,.none,.none,0⟩),#[]⟩
  case h1 => conv => rhs; whnf
  case h2 => conv => rhs; whnf
  case h3 => conv => rhs; whnf
noncomputable def o198v0 (P : Params) : Obj := ⟨(.type "code"),none,(.fields #[(.str (.ofString "get_window_stats") 448),(.str (.ofString "MovingWindowRateLimiter.get_window_stats") 449),(.str (.ofString "/claim/cut.py") 450),(.int 105 0),(.int 3 0),(.int 0 0),(.int 0 0),(.int 3 0),(.ref 193),(.bool true),(.int 181 0),(.ref 194),.none,(.ref 195),(.ref 196),(.ref 197),(.int 457 0),(.int 105 0),(.str (.ofString "/claim/cut.py") 458)]),#[]⟩
noncomputable def o199v0 : Params → Obj := by
  refine' (?f : (b : List Stmt) → b = sBody (nth (sBody (nth progB 7)) 3) → (a : Arguments) → a = sArgs (nth (sBody (nth progB 7)) 3) → (c : Scope) → c = sScope (nth (sBody (nth progB 7)) 3) → Params → Obj) _ ?h1 _ ?h2 _ ?h3
  case f => exact fun b _ a _ c _ P => ⟨(.type "function"),none,(.func ⟨(.ofString "get_window_stats"),(.ofString "MovingWindowRateLimiter.get_window_stats"),a,(.stmts b),c,3,[],(.ref 192),.none,(.str (dS (nth (sBody (nth (sBody (nth progB 7)) 3)) 0)) 459),(.str (.ofString "limits.strategies") 369),none,(.ref 198),.none,0⟩),#[]⟩
  case h1 => conv => rhs; whnf
  case h2 => conv => rhs; whnf
  case h3 => conv => rhs; whnf
noncomputable def o200v0 (P : Params) : Obj := ⟨(.type "tuple"),none,(.seq #[] 0),#[]⟩
noncomputable def o201v0 (P : Params) : Obj := ⟨(.type "dict"),none,(.dict #[⟨(PySem.PyData.keyHash P (.ofString "__module__")),(.str (.ofString "__module__") 416),(.str (.ofString "limits.strategies") 369)⟩,⟨(PySem.PyData.keyHash P (.ofString "__firstlineno__")),(.str (.ofString "__firstlineno__") 420),(.int 74 419)⟩,⟨(PySem.PyData.keyHash P (.ofString "__doc__")),(.str (.ofString "__doc__") 422),(.str (dS (nth (sBody (nth progB 7)) 0)) 421)⟩,⟨(PySem.PyData.keyHash P (.ofString "hit")),(.str (.ofString "hit") 435),(.ref 181)⟩,⟨(PySem.PyData.keyHash P (.ofString "test")),(.str (.ofString "test") 447),(.ref 190)⟩,⟨(PySem.PyData.keyHash P (.ofString "get_window_stats")),(.str (.ofString "get_window_stats") 460),(.ref 199)⟩,⟨(PySem.PyData.keyHash P (.ofString "__static_attributes__")),(.str (.ofString "__static_attributes__") 461),(.ref 200)⟩] 1),#[]⟩
noncomputable def o202v0 (P : Params) : Obj := ⟨(.type "type"),none,(.cls ⟨(.ofString "MovingWindowRateLimiter"),[(.ref 161)],[(.ref 202),(.ref 161),(.type "object")],201,(.ofString "MovingWindowRateLimiter"),true,[],[],false,none,false⟩),#[(some (.ref 166)),none,(some (.str (.ofString "MovingWindowRateLimiter") 409)),(some (.str (.ofString "MovingWindowRateLimiter") 417)),(some (.builtin "object.__new__")),(some (.bool true))]⟩
noncomputable def o203v0 (P : Params) : Obj := ⟨(.type "super"),none,(.fields #[(.ref 202),(.ref 202),(.ref 202)]),#[]⟩
noncomputable def o204v0 (P : Params) : Obj := ⟨(.type "builtin_function_or_method"),none,(.fields #[(.builtin "object.__init_subclass__"),(.ref 202)]),#[]⟩
noncomputable def o205v0 (P : Params) : Obj := ⟨(.type "tuple"),none,(.seq #[] 0),#[]⟩
noncomputable def o206v0 (P : Params) : Obj := ⟨(.type "builtin_function_or_method"),none,(.fields #[(.builtin "type.__prepare__"),(.type "type")]),#[]⟩
noncomputable def o207v0 (P : Params) : Obj := ⟨(.type "dict"),none,(.dict #[⟨(PySem.PyData.keyHash P (.ofString "__module__")),(.str (.ofString "__module__") 473),(.str (.ofString "limits.limits") 464)⟩,⟨(PySem.PyData.keyHash P (.ofString "__qualname__")),(.str (.ofString "__qualname__") 475),(.str (.ofString "_tuplegetter") 474)⟩,⟨(PySem.PyData.keyHash P (.ofString "__firstlineno__")),(.str (.ofString "__firstlineno__") 477),(.int 118 476)⟩,⟨(PySem.PyData.keyHash P (.ofString "__init__")),(.str (.ofString "__init__") 486),(.ref 218)⟩,⟨(PySem.PyData.keyHash P (.ofString "__get__")),(.str (.ofString "__get__") 495),(.ref 226)⟩,⟨(PySem.PyData.keyHash P (.ofString "__set__")),(.str (.ofString "__set__") 504),(.ref 233)⟩,⟨(PySem.PyData.keyHash P (.ofString "__delete__")),(.str (.ofString "__delete__") 512),(.ref 240)⟩,⟨(PySem.PyData.keyHash P (.ofString "__static_attributes__")),(.str (.ofString "__static_attributes__") 515),(.ref 241)⟩] 8),#[]⟩
noncomputable def o208v0 (P : Params) : Obj := ⟨(.type "tuple"),none,(.seq #[] 0),#[]⟩
noncomputable def o209v0 (P : Params) : Obj := ⟨.none,none,(.fields #[(.int 120 0),(.int 4 0),(.ref 217),(.int 124 0),(.int 4 0),(.ref 225),(.int 131 0),(.int 4 0),(.ref 232),(.int 134 0),(.int 4 0),(.ref 239)]),#[]⟩
noncomputable def o210v0 (P : Params) : Obj := ⟨(.type "code"),none,(.fields #[(.str (.ofString "_tuplegetter") 468),(.str (.ofString "_tuplegetter") 469),(.str (.ofString "/claim/cut.py") 470),(.int 118 0),(.int 0 0),(.int 0 0),(.int 0 0),(.int 0 0),(.ref 208),(.bool false),(.int 181 0),(.ref 209),.none,.none,.none,.none,(.int 471 0),(.int 118 0),(.str (.ofString "/claim/cut.py") 472)]),#[]⟩
noncomputable def o211v0 (P : Params) : Obj := ⟨(.type "frame"),none,.plain,#[(some (.ref 210)),(some (.ref 3)),(some (.ref 207)),none,(some (.str (.ofString "limits.limits") 464)),none,(some (.ref 0))]⟩
noncomputable def o212v0 (P : Params) : Obj := ⟨(.type "tuple"),none,(.seq #[] 0),#[]⟩
noncomputable def o213v0 (P : Params) : Obj := ⟨.none,none,(.fields #[]),#[]⟩
noncomputable def o214v0 (P : Params) : Obj := ⟨(.type "tuple"),none,(.seq #[(.str (.ofString "self") 481),(.str (.ofString "index") 482),(.str (.ofString "doc") 483)] 0),#[]⟩
noncomputable def o215v0 (P : Params) : Obj := ⟨(.type "tuple"),none,(.seq #[] 0),#[]⟩
noncomputable def o216v0 : Params → Obj := by
  refine' (?f : (b : List Stmt) → b = sBody (nth (sBody (nth progB 9)) 0) → (a : Arguments) → a = sArgs (nth (sBody (nth progB 9)) 0) → (c : Scope) → c = sScope (nth (sBody (nth progB 9)) 0) → Params → Obj) _ ?h1 _ ?h2 _ ?h3
  case f => exact fun b _ a _ c _ P => ⟨.none,none,(.func ⟨(.ofString "__init__"),(.ofString "_tuplegetter.__init__"),a,(.stmts b),c,0,[],.none,.none,.none,.none,none,.none,.none,0⟩),#[]⟩
  case h1 => conv => rhs; whnf
  case h2 => conv => rhs; whnf
  case h3 => conv => rhs; whnf
noncomputable def o217v0 (P : Params) : Obj := ⟨(.type "code"),none,(.fields #[(.str (.ofString "__init__") 478),(.str (.ofString "_tuplegetter.__init__") 479),(.str (.ofString "/claim/cut.py") 480),(.int 120 0),(.int 3 0),(.int 0 0),(.int 0 0),(.int 3 0),(.ref 212),(.bool true),(.int 181 0),(.ref 213),.none,(.ref 214),(.ref 215),(.ref 216),(.int 484 0),(.int 120 0),(.str (.ofString "/claim/cut.py") 485)]),#[]⟩
noncomputable def o218v0 : Params → Obj := by
  refine' (?f : (b : List Stmt) → b = sBody (nth (sBody (nth progB 9)) 0) → (a : Arguments) → a = sArgs (nth (sBody (nth progB 9)) 0) → (c : Scope) → c = sScope (nth (sBody (nth progB 9)) 0) → Params → Obj) _ ?h1 _ ?h2 _ ?h3
  case f => exact fun b _ a _ c _ P => ⟨(.type "function"),none,(.func ⟨(.ofString "__init__"),(.ofString "_tuplegetter.__init__"),a,(.stmts b),c,3,[],.none,.none,.none,(.str (.ofString "limits.limits") 464),none,(.ref 217),.none,0⟩),#[]⟩
  case h1 => conv => rhs; whnf
  case h2 => conv => rhs; whnf
  case h3 => conv => rhs; whnf
noncomputable def o219v0 (P : Params) : Obj := ⟨(.type "tuple"),none,(.seq #[.none] 0),#[]⟩
noncomputable def o220v0 (P : Params) : Obj := ⟨(.type "tuple"),none,(.seq #[] 0),#[]⟩
noncomputable def o221v0 (P : Params) : Obj := ⟨.none,none,(.fields #[]),#[]⟩
noncomputable def o222v0 (P : Params) : Obj := ⟨(.type "tuple"),none,(.seq #[(.str (.ofString "self") 490),(.str (.ofString "obj") 491),(.str (.ofString "objtype") 492)] 0),#[]⟩
noncomputable def o223v0 (P : Params) : Obj := ⟨(.type "tuple"),none,(.seq #[] 0),#[]⟩
noncomputable def o224v0 : Params → Obj := by
  refine' (?f : (b : List Stmt) → b = sBody (nth (sBody (nth progB 9)) 1) → (a : Arguments) → a = sArgs (nth (sBody (nth progB 9)) 1) → (c : Scope) → c = sScope (nth (sBody (nth progB 9)) 1) → Params → Obj) _ ?h1 _ ?h2 _ ?h3
  case f => exact fun b _ a _ c _ P => ⟨.none,none,(.func ⟨(.ofString "__get__"),(.ofString "_tuplegetter.__get__"),a,(.stmts b),c,0,[],.none,.none,.none,.none,none,.none,.none,0⟩),#[]⟩
  case h1 => conv => rhs; whnf
  case h2 => conv => rhs; whnf
  case h3 => conv => rhs; whnf
noncomputable def o225v0 (P : Params) : Obj := ⟨(.type "code"),none,(.fields #[(.str (.ofString "__get__") 487),(.str (.ofString "_tuplegetter.__get__") 488),(.str (.ofString "/claim/cut.py") 489),(.int 124 0),(.int 3 0),(.int 0 0),(.int 0 0),(.int 3 0),(.ref 220),(.bool true),(.int 181 0),(.ref 221),.none,(.ref 222),(.ref 223),(.ref 224),(.int 493 0),(.int 124 0),(.str (.ofString "/claim/cut.py") 494)]),#[]⟩
noncomputable def o226v0 : Params → Obj := by
  refine' (?f : (b : List Stmt) → b = sBody (nth (sBody (nth progB 9)) 1) → (a : Arguments) → a = sArgs (nth (sBody (nth progB 9)) 1) → (c : Scope) → c = sScope (nth (sBody (nth progB 9)) 1) → Params → Obj) _ ?h1 _ ?h2 _ ?h3
  case f => exact fun b _ a _ c _ P => ⟨(.type "function"),none,(.func ⟨(.ofString "__get__"),(.ofString "_tuplegetter.__get__"),a,(.stmts b),c,3,[],(.ref 219),.none,.none,(.str (.ofString "limits.limits") 464),none,(.ref 225),.none,0⟩),#[]⟩
  case h1 => conv => rhs; whnf
  case h2 => conv => rhs; whnf
  case h3 => conv => rhs; whnf
noncomputable def o227v0 (P : Params) : Obj := ⟨(.type "tuple"),none,(.seq #[] 0),#[]⟩
noncomputable def o228v0 (P : Params) : Obj := ⟨.none,none,(.fields #[]),#[]⟩
noncomputable def o229v0 (P : Params) : Obj := ⟨(.type "tuple"),none,(.seq #[(.str (.ofString "self") 499),(.str (.ofString "obj") 500),(.str (.ofString "value") 501)] 0),#[]⟩
noncomputable def o230v0 (P : Params) : Obj := ⟨(.type "tuple"),none,(.seq #[] 0),#[]⟩
noncomputable def o231v0 : Params → Obj := by
  refine' (?f : (b : List Stmt) → b = sBody (nth (sBody (nth progB 9)) 2) → (a : Arguments) → a = sArgs (nth (sBody (nth progB 9)) 2) → (c : Scope) → c = sScope (nth (sBody (nth progB 9)) 2) → Params → Obj) _ ?h1 _ ?h2 _ ?h3
  case f => exact fun b _ a _ c _ P => ⟨.none,none,(.func ⟨(.ofString "__set__"),(.ofString "_tuplegetter.__set__"),a,(.stmts b),c,0,[],.none,.none,.none,.none,none,.none,.none,0⟩),#[]⟩
  case h1 => conv => rhs; whnf
  case h2 => conv => rhs; whnf
  case h3 => conv => rhs; whnf
noncomputable def o232v0 (P : Params) : Obj := ⟨(.type "code"),none,(.fields #[(.str (.ofString "__set__") 496),(.str (.ofString "_tuplegetter.__set__") 497),(.str (.ofString "/claim/cut.py") 498),(.int 131 0),(.int 3 0),(.int 0 0),(.int 0 0),(.int 3 0),(.ref 227),(.bool true),(.int 181 0),(.ref 228),.none,(.ref 229),(.ref 230),(.ref 231),(.int 502 0),(.int 131 0),(.str (.ofString "/claim/cut.py") 503)]),#[]⟩
noncomputable def o233v0 : Params → Obj := by
  refine' (?f : (b : List Stmt) → b = sBody (nth (sBody (nth progB 9)) 2) → (a : Arguments) → a = sArgs (nth (sBody (nth progB 9)) 2) → (c : Scope) → c = sScope (nth (sBody (nth progB 9)) 2) → Params → Obj) _ ?h1 _ ?h2 _ ?h3
  case f => exact fun b _ a _ c _ P => ⟨(.type "function"),none,(.func ⟨(.ofString "__set__"),(.ofString "_tuplegetter.__set__"),a,(.stmts b),c,3,[],.none,.none,.none,(.str (.ofString "limits.limits") 464),none,(.ref 232),.none,0⟩),#[]⟩
  case h1 => conv => rhs; whnf
  case h2 => conv => rhs; whnf
  case h3 => conv => rhs; whnf
noncomputable def o234v0 (P : Params) : Obj := ⟨(.type "tuple"),none,(.seq #[] 0),#[]⟩
noncomputable def o235v0 (P : Params) : Obj := ⟨.none,none,(.fields #[]),#[]⟩
noncomputable def o236v0 (P : Params) : Obj := ⟨(.type "tuple"),none,(.seq #[(.str (.ofString "self") 508),(.str (.ofString "obj") 509)] 0),#[]⟩
noncomputable def o237v0 (P : Params) : Obj := ⟨(.type "tuple"),none,(.seq #[] 0),#[]⟩
noncomputable def o238v0 : Params → Obj := by
  refine' (?f : (b : List Stmt) → b = sBody (nth (sBody (nth progB 9)) 3) → (a : Arguments) → a = sArgs (nth (sBody (nth progB 9)) 3) → (c : Scope) → c = sScope (nth (sBody (nth progB 9)) 3) → Params → Obj) _ ?h1 _ ?h2 _ ?h3
  case f => exact fun b _ a _ c _ P => ⟨.none,none,(.func ⟨(.ofString "__delete__"),(.ofString "_tuplegetter.__delete__"),a,(.stmts b),c,0,[],.none,.none,.none,.none,none,.none,.none,0⟩),#[]⟩
  case h1 => conv => rhs; whnf
  case h2 => conv => rhs; whnf
  case h3 => conv => rhs; whnf
noncomputable def o239v0 (P : Params) : Obj := ⟨(.type "code"),none,(.fields #[(.str (.ofString "__delete__") 505),(.str (.ofString "_tuplegetter.__delete__") 506),(.str (.ofString "/claim/cut.py") 507),(.int 134 0),(.int 2 0),(.int 0 0),(.int 0 0),(.int 3 0),(.ref 234),(.bool true),(.int 181 0),(.ref 235),.none,(.ref 236),(.ref 237),(.ref 238),(.int 510 0),(.int 134 0),(.str (.ofString "/claim/cut.py") 511)]),#[]⟩
noncomputable def o240v0 : Params → Obj := by
  refine' (?f : (b : List Stmt) → b = sBody (nth (sBody (nth progB 9)) 3) → (a : Arguments) → a = sArgs (nth (sBody (nth progB 9)) 3) → (c : Scope) → c = sScope (nth (sBody (nth progB 9)) 3) → Params → Obj) _ ?h1 _ ?h2 _ ?h3
  case f => exact fun b _ a _ c _ P => ⟨(.type "function"),none,(.func ⟨(.ofString "__delete__"),(.ofString "_tuplegetter.__delete__"),a,(.stmts b),c,3,[],.none,.none,.none,(.str (.ofString "limits.limits") 464),none,(.ref 239),.none,0⟩),#[]⟩
  case h1 => conv => rhs; whnf
  case h2 => conv => rhs; whnf
  case h3 => conv => rhs; whnf
noncomputable def o241v0 (P : Params) : Obj := ⟨(.type "tuple"),none,(.seq #[(.str (.ofString "__doc__") 513),(.str (.ofString "index") 514)] 0),#[]⟩
noncomputable def o242v0 (P : Params) : Obj := ⟨(.type "dict"),none,(.dict #[⟨(PySem.PyData.keyHash P (.ofString "__module__")),(.str (.ofString "__module__") 473),(.str (.ofString "limits.limits") 464)⟩,⟨(PySem.PyData.keyHash P (.ofString "__firstlineno__")),(.str (.ofString "__firstlineno__") 477),(.int 118 476)⟩,⟨(PySem.PyData.keyHash P (.ofString "__init__")),(.str (.ofString "__init__") 486),(.ref 218)⟩,⟨(PySem.PyData.keyHash P (.ofString "__get__")),(.str (.ofString "__get__") 495),(.ref 226)⟩,⟨(PySem.PyData.keyHash P (.ofString "__set__")),(.str (.ofString "__set__") 504),(.ref 233)⟩,⟨(PySem.PyData.keyHash P (.ofString "__delete__")),(.str (.ofString "__delete__") 512),(.ref 240)⟩,⟨(PySem.PyData.keyHash P (.ofString "__static_attributes__")),(.str (.ofString "__static_attributes__") 515),(.ref 241)⟩,⟨(PySem.PyData.keyHash P (.ofString "__dict__")),(.str (.ofString "__dict__") 517),(.ref 244)⟩,⟨(PySem.PyData.keyHash P (.ofString "__weakref__")),(.str (.ofString "__weakref__") 519),(.ref 245)⟩,⟨(PySem.PyData.keyHash P (.ofString "__doc__")),(.str (.ofString "__doc__") 520),.none⟩] 4),#[]⟩
noncomputable def o243v0 (P : Params) : Obj := ⟨(.type "type"),none,(.cls ⟨(.ofString "_tuplegetter"),[(.type "object")],[(.ref 243),(.type "object")],242,(.ofString "_tuplegetter"),true,[],[],false,none,false⟩),#[none,none,(some (.str (.ofString "_tuplegetter") 466)),(some (.str (.ofString "_tuplegetter") 474)),(some (.builtin "object.__new__")),(some (.bool true))]⟩
noncomputable def o244v0 (P : Params) : Obj := ⟨(.type "getset_descriptor"),none,(.fields #[(.str (.ofString "__dict__") 516),(.ref 243),(.builtin "function.__dict__"),(.builtin "function.__dict__#set")]),#[]⟩
noncomputable def o245v0 (P : Params) : Obj := ⟨(.type "getset_descriptor"),none,(.fields #[(.str (.ofString "__weakref__") 518),(.ref 243),(.builtin "ExceptionGroup.__weakref__"),.none]),#[]⟩
noncomputable def o246v0 (P : Params) : Obj := ⟨(.type "super"),none,(.fields #[(.ref 243),(.ref 243),(.ref 243)]),#[]⟩
noncomputable def o247v0 (P : Params) : Obj := ⟨(.type "builtin_function_or_method"),none,(.fields #[(.builtin "object.__init_subclass__"),(.ref 243)]),#[]⟩
noncomputable def o248v0 (P : Params) : Obj := ⟨(.type "tuple"),none,(.seq #[] 0),#[]⟩
noncomputable def o249v0 (P : Params) : Obj := ⟨.none,none,(.fields #[]),#[]⟩
noncomputable def o250v0 (P : Params) : Obj := ⟨(.type "tuple"),none,(.seq #[(.str (.ofString "value") 527)] 0),#[]⟩
noncomputable def o251v0 (P : Params) : Obj := ⟨(.type "tuple"),none,(.seq #[] 0),#[]⟩
noncomputable def o252v0 : Params → Obj := by
  refine' (?f : (b : List Stmt) → b = sBody (nth progB 11) → (a : Arguments) → a = sArgs (nth progB 11) → (c : Scope) → c = sScope (nth progB 11) → Params → Obj) _ ?h1 _ ?h2 _ ?h3
  case f => exact fun b _ a _ c _ P => ⟨.none,none,(.func ⟨(.ofString "safe_string"),(.ofString "safe_string"),a,(.stmts b),c,0,[],.none,.none,.none,.none,none,.none,.none,0⟩),#[]⟩
  case h1 => conv => rhs; whnf
  case h2 => conv => rhs; whnf
  case h3 => conv => rhs; whnf
noncomputable def o253v0 (P : Params) : Obj := ⟨(.type "code"),none,(.fields #[(.str (.ofString "safe_string") 524),(.str (.ofString "safe_string") 525),(.str (.ofString "/claim/cut.py") 526),(.int 137 0),(.int 1 0),(.int 0 0),(.int 0 0),(.int 3 0),(.ref 248),(.bool true),(.int 181 0),(.ref 249),.none,(.ref 250),(.ref 251),(.ref 252),(.int 528 0),(.int 137 0),(.str (.ofString "/claim/cut.py") 529)]),#[]⟩
noncomputable def o254v0 : Params → Obj := by
  refine' (?f : (b : List Stmt) → b = sBody (nth progB 11) → (a : Arguments) → a = sArgs (nth progB 11) → (c : Scope) → c = sScope (nth progB 11) → Params → Obj) _ ?h1 _ ?h2 _ ?h3
  case f => exact fun b _ a _ c _ P => ⟨(.type "function"),none,(.func ⟨(.ofString "safe_string"),(.ofString "safe_string"),a,(.stmts b),c,3,[],.none,.none,(.str (dS (nth (sBody (nth progB 11)) 0)) 530),(.str (.ofString "limits.limits") 464),none,(.ref 253),.none,0⟩),#[]⟩
  case h1 => conv => rhs; whnf
  case h2 => conv => rhs; whnf
  case h3 => conv => rhs; whnf
noncomputable def tr3 (P : Params) : BT := (.node (PySem.W.boot_o_0 P) (.node (PySem.W.boot_o_1 P) (.node (o3v3 P) (.node (PySem.W.boot_o_7 P) (.node (o15v0 P) (.node (o31v0 P) (.node (o63v0 P) (.node (o127v0 P) .nil .nil) (.node (o191v0 P) .nil .nil)) (.node (o95v0 P) (.node (o159v0 P) .nil .nil) (.node (o223v0 P) .nil .nil))) (.node (o47v0 P) (.node (o79v0 P) (.node (o143v0 P) .nil .nil) (.node (o207v0 P) .nil .nil)) (.node (o111v0 P) (.node (o175v0 P) .nil .nil) (.node (o239v0 P) .nil .nil)))) (.node (o23v0 P) (.node (o39v0 P) (.node (o71v0 P) (.node (o135v0 P) .nil .nil) (.node (o199v0 P) .nil .nil)) (.node (o103v0 P) (.node (o167v0 P) .nil .nil) (.node (o231v0 P) .nil .nil))) (.node (o55v0 P) (.node (o87v0 P) (.node (o151v0 P) .nil .nil) (.node (o215v0 P) .nil .nil)) (.node (o119v0 P) (.node (o183v0 P) .nil .nil) (.node (o247v0 P) .nil .nil))))) (.node (o11v0 P) (.node (o19v0 P) (.node (o35v0 P) (.node (o67v0 P) (.node (o131v0 P) .nil .nil) (.node (o195v0 P) .nil .nil)) (.node (o99v0 P) (.node (o163v0 P) .nil .nil) (.node (o227v0 P) .nil .nil))) (.node (o51v0 P) (.node (o83v0 P) (.node (o147v0 P) .nil .nil) (.node (o211v0 P) .nil .nil)) (.node (o115v0 P) (.node (o179v0 P) .nil .nil) (.node (o243v0 P) .nil .nil)))) (.node (o27v0 P) (.node (o43v0 P) (.node (o75v0 P) (.node (o139v0 P) .nil .nil) (.node (o203v0 P) .nil .nil)) (.node (o107v0 P) (.node (o171v0 P) .nil .nil) (.node (o235v0 P) .nil .nil))) (.node (o59v0 P) (.node (o91v0 P) (.node (o155v0 P) .nil .nil) (.node (o219v0 P) .nil .nil)) (.node (o123v0 P) (.node (o187v0 P) .nil .nil) (.node (o251v0 P) .nil .nil)))))) (.node (PySem.W.boot_o_5 P) (.node (PySem.W.boot_o_9 P) (.node (o17v0 P) (.node (o33v0 P) (.node (o65v0 P) (.node (o129v0 P) .nil .nil) (.node (o193v0 P) .nil .nil)) (.node (o97v0 P) (.node (o161v0 P) .nil .nil) (.node (o225v0 P) .nil .nil))) (.node (o49v0 P) (.node (o81v0 P) (.node (o145v0 P) .nil .nil) (.node (o209v0 P) .nil .nil)) (.node (o113v0 P) (.node (o177v0 P) .nil .nil) (.node (o241v0 P) .nil .nil)))) (.node (o25v0 P) (.node (o41v0 P) (.node (o73v0 P) (.node (o137v0 P) .nil .nil) (.node (o201v0 P) .nil .nil)) (.node (o105v0 P) (.node (o169v0 P) .nil .nil) (.node (o233v0 P) .nil .nil))) (.node (o57v0 P) (.node (o89v0 P) (.node (o153v0 P) .nil .nil) (.node (o217v0 P) .nil .nil)) (.node (o121v0 P) (.node (o185v0 P) .nil .nil) (.node (o249v0 P) .nil .nil))))) (.node (o13v0 P) (.node (o21v0 P) (.node (o37v0 P) (.node (o69v0 P) (.node (o133v0 P) .nil .nil) (.node (o197v0 P) .nil .nil)) (.node (o101v0 P) (.node (o165v0 P) .nil .nil) (.node (o229v0 P) .nil .nil))) (.node (o53v0 P) (.node (o85v0 P) (.node (o149v0 P) .nil .nil) (.node (o213v0 P) .nil .nil)) (.node (o117v0 P) (.node (o181v0 P) .nil .nil) (.node (o245v0 P) .nil .nil)))) (.node (o29v0 P) (.node (o45v0 P) (.node (o77v0 P) (.node (o141v0 P) .nil .nil) (.node (o205v0 P) .nil .nil)) (.node (o109v0 P) (.node (o173v0 P) .nil .nil) (.node (o237v0 P) .nil .nil))) (.node (o61v0 P) (.node (o93v0 P) (.node (o157v0 P) .nil .nil) (.node (o221v0 P) .nil .nil)) (.node (o125v0 P) (.node (o189v0 P) .nil .nil) (.node (o253v0 P) .nil .nil))))))) (.node (PySem.W.boot_o_2 P) (.node (PySem.W.boot_o_4 P) (.node (PySem.W.boot_o_8 P) (.node (o16v0 P) (.node (o32v0 P) (.node (o64v0 P) (.node (o128v0 P) .nil .nil) (.node (o192v0 P) .nil .nil)) (.node (o96v0 P) (.node (o160v0 P) .nil .nil) (.node (o224v0 P) .nil .nil))) (.node (o48v0 P) (.node (o80v0 P) (.node (o144v0 P) .nil .nil) (.node (o208v0 P) .nil .nil)) (.node (o112v0 P) (.node (o176v0 P) .nil .nil) (.node (o240v0 P) .nil .nil)))) (.node (o24v0 P) (.node (o40v0 P) (.node (o72v0 P) (.node (o136v0 P) .nil .nil) (.node (o200v0 P) .nil .nil)) (.node (o104v0 P) (.node (o168v0 P) .nil .nil) (.node (o232v0 P) .nil .nil))) (.node (o56v0 P) (.node (o88v0 P) (.node (o152v0 P) .nil .nil) (.node (o216v0 P) .nil .nil)) (.node (o120v0 P) (.node (o184v0 P) .nil .nil) (.node (o248v0 P) .nil .nil))))) (.node (o12v3 P) (.node (o20v0 P) (.node (o36v0 P) (.node (o68v0 P) (.node (o132v0 P) .nil .nil) (.node (o196v0 P) .nil .nil)) (.node (o100v0 P) (.node (o164v0 P) .nil .nil) (.node (o228v0 P) .nil .nil))) (.node (o52v0 P) (.node (o84v0 P) (.node (o148v0 P) .nil .nil) (.node (o212v0 P) .nil .nil)) (.node (o116v0 P) (.node (o180v0 P) .nil .nil) (.node (o244v0 P) .nil .nil)))) (.node (o28v0 P) (.node (o44v0 P) (.node (o76v0 P) (.node (o140v0 P) .nil .nil) (.node (o204v0 P) .nil .nil)) (.node (o108v0 P) (.node (o172v0 P) .nil .nil) (.node (o236v0 P) .nil .nil))) (.node (o60v0 P) (.node (o92v0 P) (.node (o156v0 P) .nil .nil) (.node (o220v0 P) .nil .nil)) (.node (o124v0 P) (.node (o188v0 P) .nil .nil) (.node (o252v0 P) .nil .nil)))))) (.node (PySem.W.boot_o_6 P) (.node (PySem.W.boot_o_10 P) (.node (o18v0 P) (.node (o34v0 P) (.node (o66v0 P) (.node (o130v0 P) .nil .nil) (.node (o194v0 P) .nil .nil)) (.node (o98v0 P) (.node (o162v0 P) .nil .nil) (.node (o226v0 P) .nil .nil))) (.node (o50v0 P) (.node (o82v0 P) (.node (o146v0 P) .nil .nil) (.node (o210v0 P) .nil .nil)) (.node (o114v0 P) (.node (o178v0 P) .nil .nil) (.node (o242v0 P) .nil .nil)))) (.node (o26v0 P) (.node (o42v0 P) (.node (o74v0 P) (.node (o138v0 P) .nil .nil) (.node (o202v0 P) .nil .nil)) (.node (o106v0 P) (.node (o170v0 P) .nil .nil) (.node (o234v0 P) .nil .nil))) (.node (o58v0 P) (.node (o90v0 P) (.node (o154v0 P) .nil .nil) (.node (o218v0 P) .nil .nil)) (.node (o122v0 P) (.node (o186v0 P) .nil .nil) (.node (o250v0 P) .nil .nil))))) (.node (o14v0 P) (.node (o22v0 P) (.node (o38v0 P) (.node (o70v0 P) (.node (o134v0 P) .nil .nil) (.node (o198v0 P) .nil .nil)) (.node (o102v0 P) (.node (o166v0 P) .nil .nil) (.node (o230v0 P) .nil .nil))) (.node (o54v0 P) (.node (o86v0 P) (.node (o150v0 P) .nil .nil) (.node (o214v0 P) .nil .nil)) (.node (o118v0 P) (.node (o182v0 P) .nil .nil) (.node (o246v0 P) .nil .nil)))) (.node (o30v0 P) (.node (o46v0 P) (.node (o78v0 P) (.node (o142v0 P) .nil .nil) (.node (o206v0 P) .nil .nil)) (.node (o110v0 P) (.node (o174v0 P) .nil .nil) (.node (o238v0 P) .nil .nil))) (.node (o62v0 P) (.node (o94v0 P) (.node (o158v0 P) .nil .nil) (.node (o222v0 P) .nil .nil)) (.node (o126v0 P) (.node (o190v0 P) .nil .nil) (.node (o254v0 P) .nil .nil))))))))
noncomputable def o3v4 (P : Params) : Obj := ⟨(.type "dict"),none,(.dict #[⟨(PySem.PyData.keyHash P (.ofString "__name__")),(.str (.ofString "__name__") 165),(.str (.ofString "limits.limits") 464)⟩,⟨(PySem.PyData.keyHash P (.ofString "__doc__")),(.str (.ofString "__doc__") 166),.none⟩,⟨(PySem.PyData.keyHash P (.ofString "__package__")),(.str (.ofString "__package__") 167),.none⟩,⟨(PySem.PyData.keyHash P (.ofString "__loader__")),(.str (.ofString "__loader__") 168),(.builtin "__main__.__loader__#opaque")⟩,⟨(PySem.PyData.keyHash P (.ofString "__spec__")),(.str (.ofString "__spec__") 169),.none⟩,⟨(PySem.PyData.keyHash P (.ofString "__annotations__")),(.str (.ofString "__annotations__") 170),(.ref 6)⟩,⟨(PySem.PyData.keyHash P (.ofString "__builtins__")),(.str (.ofString "__builtins__") 171),(.ref 4)⟩,⟨(PySem.PyData.keyHash P (.ofString "__file__")),(.str (.ofString "__file__") 173),(.str (.ofString "/claim/cut.py") 172)⟩,⟨(PySem.PyData.keyHash P (.ofString "__cached__")),(.str (.ofString "__cached__") 174),.none⟩,⟨(PySem.PyData.keyHash P (.ofString "_wall")),(.str (.ofString "_wall") 193),(.ref 21)⟩,⟨(PySem.PyData.keyHash P (.ofString "_tuplegetter")),(.str (.ofString "_tuplegetter") 252),(.ref 243)⟩,⟨(PySem.PyData.keyHash P (.ofString "tuplegetter_util")),(.str (.ofString "tuplegetter_util") 253),(.ref 60)⟩,⟨(PySem.PyData.keyHash P (.ofString "WindowStats")),(.str (.ofString "WindowStats") 368),(.ref 132)⟩,⟨(PySem.PyData.keyHash P (.ofString "RateLimiter")),(.str (.ofString "RateLimiter") 408),(.ref 161)⟩,⟨(PySem.PyData.keyHash P (.ofString "MovingWindowRateLimiter")),(.str (.ofString "MovingWindowRateLimiter") 463),(.ref 202)⟩,⟨(PySem.PyData.keyHash P (.ofString "tuplegetter_limits")),(.str (.ofString "tuplegetter_limits") 523),(.ref 243)⟩,⟨(PySem.PyData.keyHash P (.ofString "safe_string")),(.str (.ofString "safe_string") 531),(.ref 254)⟩,⟨(PySem.PyData.keyHash P (.ofString "Granularity")),(.str (.ofString "Granularity") 646),(.ref 322)⟩] 18),#[]⟩
noncomputable def o12v4 (P : Params) : Obj := ⟨.none,none,(.fields #[(.int 1 0),(.int 0 0),(.ref 20),(.int 5 0),(.int 0 0),(.ref 27),(.int 24 0),(.int 0 0),(.ref 71),(.int 67 0),(.int 0 0),(.ref 141),(.int 74 0),(.int 0 0),(.ref 171),(.int 118 0),(.int 0 0),(.ref 210),(.int 137 0),(.int 0 0),(.ref 253),(.int 144 0),(.int 0 0),(.ref 261)]),#[]⟩
noncomputable def o255v0 (P : Params) : Obj := ⟨(.type "tuple"),none,(.seq #[(.type "tuple")] 0),#[]⟩
noncomputable def o256v0 (P : Params) : Obj := ⟨(.type "builtin_function_or_method"),none,(.fields #[(.builtin "type.__prepare__"),(.type "type")]),#[]⟩
noncomputable def o257v0 (P : Params) : Obj := ⟨(.type "dict"),none,(.dict #[⟨(PySem.PyData.keyHash P (.ofString "__module__")),(.str (.ofString "__module__") 539),(.str (.ofString "limits.limits") 464)⟩,⟨(PySem.PyData.keyHash P (.ofString "__qualname__")),(.str (.ofString "__qualname__") 541),(.str (.ofString "Granularity") 540)⟩,⟨(PySem.PyData.keyHash P (.ofString "__firstlineno__")),(.str (.ofString "__firstlineno__") 543),(.int 144 542)⟩,⟨(PySem.PyData.keyHash P (.ofString "__doc__")),(.str (.ofString "__doc__") 545),(.str (dS (nth (sBody (nth progB 12)) 0)) 544)⟩,⟨(PySem.PyData.keyHash P (.ofString "__slots__")),(.str (.ofString "__slots__") 547),(.ref 263)⟩,⟨(PySem.PyData.keyHash P (.ofString "_fields")),(.str (.ofString "_fields") 550),(.ref 264)⟩,⟨(PySem.PyData.keyHash P (.ofString "_field_defaults")),(.str (.ofString "_field_defaults") 551),(.ref 265)⟩,⟨(PySem.PyData.keyHash P (.ofString "__new__")),(.str (.ofString "__new__") 561),(.ref 272)⟩,⟨(PySem.PyData.keyHash P (.ofString "_make")),(.str (.ofString "_make") 583),(.ref 281)⟩,⟨(PySem.PyData.keyHash P (.ofString "_replace")),(.str (.ofString "_replace") 594),(.ref 290)⟩,⟨(PySem.PyData.keyHash P (.ofString "__replace__")),(.str (.ofString "__replace__") 595),(.ref 290)⟩,⟨(PySem.PyData.keyHash P (.ofString "__repr__")),(.str (.ofString "__repr__") 603),(.ref 297)⟩,⟨(PySem.PyData.keyHash P (.ofString "_asdict")),(.str (.ofString "_asdict") 610),(.ref 304)⟩,⟨(PySem.PyData.keyHash P (.ofString "__getnewargs__")),(.str (.ofString "__getnewargs__") 618),(.ref 311)⟩,⟨(PySem.PyData.keyHash P (.ofString "__match_args__")),(.str (.ofString "__match_args__") 621),(.ref 312)⟩,⟨(PySem.PyData.keyHash P (.ofString "seconds")),(.str (.ofString "seconds") 631),(.ref 314)⟩,⟨(PySem.PyData.keyHash P (.ofString "name")),(.str (.ofString "name") 641),(.ref 317)⟩,⟨(PySem.PyData.keyHash P (.ofString "__static_attributes__")),(.str (.ofString "__static_attributes__") 642),(.ref 319)⟩,⟨(PySem.PyData.keyHash P (.ofString "__classcell__")),(.str (.ofString "__classcell__") 643),(.ref 258)⟩] 19),#[]⟩
noncomputable def o258v0 (P : Params) : Obj := ⟨(.type "cell"),none,(.cell (some (.ref 322))),#[]⟩
noncomputable def o259v0 (P : Params) : Obj := ⟨(.type "tuple"),none,(.seq #[] 0),#[]⟩
noncomputable def o260v0 (P : Params) : Obj := ⟨.none,none,(.fields #[(.int 150 0),(.int 4 0),(.ref 271),(.int 155 0),(.int 4 0),(.ref 278),(.int 162 0),(.int 4 0),(.ref 289),(.int 173 0),(.int 4 0),(.ref 296),(.int 177 0),(.int 4 0),(.ref 303),(.int 180 0),(.int 4 0),(.ref 310)]),#[]⟩
noncomputable def o261v0 (P : Params) : Obj := ⟨(.type "code"),none,(.fields #[(.str (.ofString "Granularity") 534),(.str (.ofString "Granularity") 535),(.str (.ofString "/claim/cut.py") 536),(.int 144 0),(.int 0 0),(.int 0 0),(.int 0 0),(.int 0 0),(.ref 259),(.bool false),(.int 181 0),(.ref 260),.none,.none,.none,.none,(.int 537 0),(.int 144 0),(.str (.ofString "/claim/cut.py") 538)]),#[]⟩
noncomputable def o262v0 (P : Params) : Obj := ⟨(.type "frame"),none,.plain,#[(some (.ref 261)),(some (.ref 3)),(some (.ref 257)),none,(some (.str (.ofString "limits.limits") 464)),none,(some (.ref 0))]⟩
noncomputable def o263v0 (P : Params) : Obj := ⟨(.type "tuple"),none,(.seq #[] 0),#[]⟩
noncomputable def o264v0 (P : Params) : Obj := ⟨(.type "tuple"),none,(.seq #[(.str (.ofString "seconds") 548),(.str (.ofString "name") 549)] 0),#[]⟩
noncomputable def o265v0 (P : Params) : Obj := ⟨(.type "dict"),none,(.dict #[] 0),#[]⟩
noncomputable def o266v0 (P : Params) : Obj := ⟨(.type "tuple"),none,(.seq #[] 0),#[]⟩
noncomputable def o267v0 (P : Params) : Obj := ⟨.none,none,(.fields #[]),#[]⟩
noncomputable def o268v0 (P : Params) : Obj := ⟨(.type "tuple"),none,(.seq #[(.str (.ofString "_cls") 555),(.str (.ofString "seconds") 556),(.str (.ofString "name") 557)] 0),#[]⟩
noncomputable def o269v0 (P : Params) : Obj := ⟨(.type "tuple"),none,(.seq #[] 0),#[]⟩
noncomputable def o270v0 : Params → Obj := by
  refine' (?f : (b : List Stmt) → b = sBody (nth (sBody (nth progB 12)) 4) → (a : Arguments) → a = sArgs (nth (sBody (nth progB 12)) 4) → (c : Scope) → c = sScope (nth (sBody (nth progB 12)) 4) → Params → Obj) _ ?h1 _ ?h2 _ ?h3
  case f => exact fun b _ a _ c _ P => ⟨.none,none,(.func ⟨(.ofString "__new__"),(.ofString "Granularity.__new__"),a,(.stmts b),c,0,[],.none,.none,.none,.none,none,.none,.none,0⟩),#[]⟩
  case h1 => conv => rhs; whnf
  case h2 => conv => rhs; whnf
  case h3 => conv => rhs; whnf
noncomputable def o271v0 (P : Params) : Obj := ⟨(.type "code"),none,(.fields #[(.str (.ofString "__new__") 552),(.str (.ofString "Granularity.__new__") 553),(.str (.ofString "/claim/cut.py") 554),(.int 150 0),(.int 3 0),(.int 0 0),(.int 0 0),(.int 3 0),(.ref 266),(.bool true),(.int 181 0),(.ref 267),.none,(.ref 268),(.ref 269),(.ref 270),(.int 558 0),(.int 150 0),(.str (.ofString "/claim/cut.py") 559)]),#[]⟩
noncomputable def o272v0 : Params → Obj := by
  refine' (?f : (b : List Stmt) → b = sBody (nth (sBody (nth progB 12)) 4) → (a : Arguments) → a = sArgs (nth (sBody (nth progB 12)) 4) → (c : Scope) → c = sScope (nth (sBody (nth progB 12)) 4) → Params → Obj) _ ?h1 _ ?h2 _ ?h3
  case f => exact fun b _ a _ c _ P => ⟨(.type "function"),none,(.func ⟨(.ofString "__new__"),(.ofString "Granularity.__new__"),a,(.stmts b),c,3,[],.none,.none,(.str (dS (nth (sBody (nth (sBody (nth progB 12)) 4)) 0)) 560),(.str (.ofString "limits.limits") 464),none,(.ref 271),.none,0⟩),#[]⟩
  case h1 => conv => rhs; whnf
  case h2 => conv => rhs; whnf
  case h3 => conv => rhs; whnf
noncomputable def o273v0 (P : Params) : Obj := ⟨(.type "tuple"),none,(.seq #[] 0),#[]⟩
noncomputable def o274v0 (P : Params) : Obj := ⟨.none,none,(.fields #[]),#[]⟩
noncomputable def o275v0 (P : Params) : Obj := ⟨(.type "tuple"),none,(.seq #[(.str (.ofString "cls") 565),(.str (.ofString "iterable") 566),(.str (.ofString "result") 567)] 0),#[]⟩
noncomputable def o276v0 (P : Params) : Obj := ⟨(.type "tuple"),none,(.seq #[] 0),#[]⟩
noncomputable def o277v0 : Params → Obj := by
  refine' (?f : (b : List Stmt) → b = sBody (nth (sBody (nth progB 12)) 5) → (a : Arguments) → a = sArgs (nth (sBody (nth progB 12)) 5) → (c : Scope) → c = sScope (nth (sBody (nth progB 12)) 5) → Params → Obj) _ ?h1 _ ?h2 _ ?h3
  case f => exact fun b _ a _ c _ P => ⟨.none,none,(.func ⟨(.ofString "_make"),(.ofString "Granularity._make"),a,(.stmts b),c,0,[],.none,.none,.none,.none,none,.none,.none,0⟩),#[]⟩
  case h1 => conv => rhs; whnf
  case h2 => conv => rhs; whnf
  case h3 => conv => rhs; whnf
noncomputable def o278v0 (P : Params) : Obj := ⟨(.type "code"),none,(.fields #[(.str (.ofString "_make") 562),(.str (.ofString "Granularity._make") 563),(.str (.ofString "/claim/cut.py") 564),(.int 154 0),(.int 2 0),(.int 0 0),(.int 0 0),(.int 3 0),(.ref 273),(.bool true),(.int 181 0),(.ref 274),.none,(.ref 275),(.ref 276),(.ref 277),(.int 568 0),(.int 154 0),(.str (.ofString "/claim/cut.py") 569)]),#[]⟩
noncomputable def o279v0 : Params → Obj := by
  refine' (?f : (b : List Stmt) → b = sBody (nth (sBody (nth progB 12)) 5) → (a : Arguments) → a = sArgs (nth (sBody (nth progB 12)) 5) → (c : Scope) → c = sScope (nth (sBody (nth progB 12)) 5) → Params → Obj) _ ?h1 _ ?h2 _ ?h3
  case f => exact fun b _ a _ c _ P => ⟨(.type "function"),none,(.func ⟨(.ofString "_make"),(.ofString "Granularity._make"),a,(.stmts b),c,3,[],.none,.none,(.str (dS (nth (sBody (nth (sBody (nth progB 12)) 5)) 0)) 570),(.str (.ofString "limits.limits") 464),(some 282),(.ref 278),.none,0⟩),#[]⟩
  case h1 => conv => rhs; whnf
  case h2 => conv => rhs; whnf
  case h3 => conv => rhs; whnf
noncomputable def o280v0 (P : Params) : Obj := ⟨(.type "dict"),none,(.dict #[⟨(PySem.PyData.keyHash P (.ofString "__module__")),(.str (.ofString "__module__") 572),(.str (.ofString "limits.limits") 464)⟩,⟨(PySem.PyData.keyHash P (.ofString "__name__")),(.str (.ofString "__name__") 575),(.str (.ofString "_make") 574)⟩,⟨(PySem.PyData.keyHash P (.ofString "__qualname__")),(.str (.ofString "__qualname__") 578),(.str (.ofString "Granularity._make") 577)⟩,⟨(PySem.PyData.keyHash P (.ofString "__doc__")),(.str (.ofString "__doc__") 580),(.str (dS (nth (sBody (nth (sBody (nth progB 12)) 5)) 0)) 570)⟩,⟨(PySem.PyData.keyHash P (.ofString "__annotations__")),(.str (.ofString "__annotations__") 582),(.ref 282)⟩] 5),#[]⟩
noncomputable def o281v0 (P : Params) : Obj := ⟨(.type "classmethod"),(some 280),(.fields #[(.ref 279),(.bool false)]),#[]⟩
noncomputable def o282v0 (P : Params) : Obj := ⟨(.type "dict"),none,(.dict #[] 0),#[]⟩
noncomputable def o283v0 (P : Params) : Obj := ⟨(.type "tuple"),none,(.seq #[(.ref 258)] 0),#[]⟩
noncomputable def o284v0 (P : Params) : Obj := ⟨(.type "tuple"),none,(.seq #[(.str (.ofString "__class__") 587)] 0),#[]⟩
noncomputable def o285v0 (P : Params) : Obj := ⟨.none,none,(.fields #[]),#[]⟩
noncomputable def o286v0 (P : Params) : Obj := ⟨(.type "tuple"),none,(.seq #[(.str (.ofString "self") 588),(.str (.ofString "kwds") 589),(.str (.ofString "result") 590)] 0),#[]⟩
noncomputable def o287v0 (P : Params) : Obj := ⟨(.type "tuple"),none,(.seq #[] 0),#[]⟩
noncomputable def o288v0 : Params → Obj := by
  refine' (?f : (b : List Stmt) → b = sBody (nth (sBody (nth progB 12)) 6) → (a : Arguments) → a = sArgs (nth (sBody (nth progB 12)) 6) → (c : Scope) → c = sScope (nth (sBody (nth progB 12)) 6) → Params → Obj) _ ?h1 _ ?h2 _ ?h3
  case f => exact fun b _ a _ c _ P => ⟨.none,none,(.func ⟨(.ofString "_replace"),(.ofString "Granularity._replace"),a,(.stmts b),c,0,[],.none,.none,.none,.none,none,.none,.none,0⟩),#[]⟩
  case h1 => conv => rhs; whnf
  case h2 => conv => rhs; whnf
  case h3 => conv => rhs; whnf
noncomputable def o289v0 (P : Params) : Obj := ⟨(.type "code"),none,(.fields #[(.str (.ofString "_replace") 584),(.str (.ofString "Granularity._replace") 585),(.str (.ofString "/claim/cut.py") 586),(.int 162 0),(.int 1 0),(.int 1 0),(.int 0 0),(.int 11 0),(.ref 284),(.bool true),(.int 181 0),(.ref 285),.none,(.ref 286),(.ref 287),(.ref 288),(.int 591 0),(.int 162 0),(.str (.ofString "/claim/cut.py") 592)]),#[]⟩
noncomputable def o290v0 : Params → Obj := by
  refine' (?f : (b : List Stmt) → b = sBody (nth (sBody (nth progB 12)) 6) → (a : Arguments) → a = sArgs (nth (sBody (nth progB 12)) 6) → (c : Scope) → c = sScope (nth (sBody (nth progB 12)) 6) → Params → Obj) _ ?h1 _ ?h2 _ ?h3
  case f => exact fun b _ a _ c _ P => ⟨(.type "function"),none,(.func ⟨(.ofString "_replace"),(.ofString "Granularity._replace"),a,(.stmts b),c,3,[((.ofString "__class__"),258)],.none,.none,(.str (dS (nth (sBody (nth (sBody (nth progB 12)) 6)) 0)) 593),(.str (.ofString "limits.limits") 464),none,(.ref 289),(.ref 283),0⟩),#[]⟩
  case h1 => conv => rhs; whnf
  case h2 => conv => rhs; whnf
  case h3 => conv => rhs; whnf
noncomputable def o291v0 (P : Params) : Obj := ⟨(.type "tuple"),none,(.seq #[] 0),#[]⟩
noncomputable def o292v0 (P : Params) : Obj := ⟨.none,none,(.fields #[]),#[]⟩
noncomputable def o293v0 (P : Params) : Obj := ⟨(.type "tuple"),none,(.seq #[(.str (.ofString "self") 599)] 0),#[]⟩
noncomputable def o294v0 (P : Params) : Obj := ⟨(.type "tuple"),none,(.seq #[] 0),#[]⟩
noncomputable def o295v0 : Params → Obj := by
  refine' (?f : (b : List Stmt) → b = sBody (nth (sBody (nth progB 12)) 8) → (a : Arguments) → a = sArgs (nth (sBody (nth progB 12)) 8) → (c : Scope) → c = sScope (nth (sBody (nth progB 12)) 8) → Params → Obj) _ ?h1 _ ?h2 _ ?h3
  case f => exact fun b _ a _ c _ P => ⟨.none,none,(.func ⟨(.ofString "__repr__"),(.ofString "Granularity.__repr__"),a,(.stmts b),c,0,[],.none,.none,.none,.none,none,.none,.none,0⟩),#[]⟩
  case h1 => conv => rhs; whnf
  case h2 => conv => rhs; whnf
  case h3 => conv => rhs; whnf
noncomputable def o296v0 (P : Params) : Obj := ⟨(.type "code"),none,(.fields #[(.str (.ofString "__repr__") 596),(.str (.ofString "Granularity.__repr__") 597),(.str (.ofString "/claim/cut.py") 598),(.int 173 0),(.int 1 0),(.int 0 0),(.int 0 0),(.int 3 0),(.ref 291),(.bool true),(.int 181 0),(.ref 292),.none,(.ref 293),(.ref 294),(.ref 295),(.int 600 0),(.int 173 0),(.str (.ofString "/claim/cut.py") 601)]),#[]⟩
noncomputable def o297v0 : Params → Obj := by
  refine' (?f : (b : List Stmt) → b = sBody (nth (sBody (nth progB 12)) 8) → (a : Arguments) → a = sArgs (nth (sBody (nth progB 12)) 8) → (c : Scope) → c = sScope (nth (sBody (nth progB 12)) 8) → Params → Obj) _ ?h1 _ ?h2 _ ?h3
  case f => exact fun b _ a _ c _ P => ⟨(.type "function"),none,(.func ⟨(.ofString "__repr__"),(.ofString "Granularity.__repr__"),a,(.stmts b),c,3,[],.none,.none,(.str (dS (nth (sBody (nth (sBody (nth progB 4)) 8)) 0)) 602),(.str (.ofString "limits.limits") 464),none,(.ref 296),.none,0⟩),#[]⟩
  case h1 => conv => rhs; whnf
  case h2 => conv => rhs; whnf
  case h3 => conv => rhs; whnf
noncomputable def o298v0 (P : Params) : Obj := ⟨(.type "tuple"),none,(.seq #[] 0),#[]⟩
noncomputable def o299v0 (P : Params) : Obj := ⟨.none,none,(.fields #[]),#[]⟩
noncomputable def o300v0 (P : Params) : Obj := ⟨(.type "tuple"),none,(.seq #[(.str (.ofString "self") 607)] 0),#[]⟩
noncomputable def o301v0 (P : Params) : Obj := ⟨(.type "tuple"),none,(.seq #[] 0),#[]⟩
noncomputable def o302v0 : Params → Obj := by
  refine' (?f : (b : List Stmt) → b = sBody (nth (sBody (nth progB 12)) 9) → (a : Arguments) → a = sArgs (nth (sBody (nth progB 12)) 9) → (c : Scope) → c = sScope (nth (sBody (nth progB 12)) 9) → Params → Obj) _ ?h1 _ ?h2 _ ?h3
  case f => exact fun b _ a _ c _ P => ⟨.none,none,(.func ⟨(.ofString "_asdict"),(.ofString "Granularity._asdict"),a,(.stmts b),c,0,[],.none,.none,.none,.none,none,.none,.none,0⟩),#[]⟩
  case h1 => conv => rhs; whnf
  case h2 => conv => rhs; whnf
  case h3 => conv => rhs; whnf
noncomputable def o303v0 (P : Params) : Obj := ⟨(.type "code"),none,(.fields #[(.str (.ofString "_asdict") 604),(.str (.ofString "Granularity._asdict") 605),(.str (.ofString "/claim/cut.py") 606),(.int 177 0),(.int 1 0),(.int 0 0),(.int 0 0),(.int 3 0),(.ref 298),(.bool true),(.int 181 0),(.ref 299),.none,(.ref 300),(.ref 301),(.ref 302),(.int 608 0),(.int 177 0),(.str (.ofString "/claim/cut.py") 609)]),#[]⟩
noncomputable def o304v0 : Params → Obj := by
  refine' (?f : (b : List Stmt) → b = sBody (nth (sBody (nth progB 12)) 9) → (a : Arguments) → a = sArgs (nth (sBody (nth progB 12)) 9) → (c : Scope) → c = sScope (nth (sBody (nth progB 12)) 9) → Params → Obj) _ ?h1 _ ?h2 _ ?h3
  case f => exact fun b _ a _ c _ P => ⟨(.type "function"),none,(.func ⟨(.ofString "_asdict"),(.ofString "Granularity._asdict"),a,(.stmts b),c,3,[],.none,.none,.none,(.str (.ofString "limits.limits") 464),none,(.ref 303),.none,0⟩),#[]⟩
  case h1 => conv => rhs; whnf
  case h2 => conv => rhs; whnf
  case h3 => conv => rhs; whnf
noncomputable def o305v0 (P : Params) : Obj := ⟨(.type "tuple"),none,(.seq #[] 0),#[]⟩
noncomputable def o306v0 (P : Params) : Obj := ⟨.none,none,(.fields #[]),#[]⟩
noncomputable def o307v0 (P : Params) : Obj := ⟨(.type "tuple"),none,(.seq #[(.str (.ofString "self") 614)] 0),#[]⟩
noncomputable def o308v0 (P : Params) : Obj := ⟨(.type "tuple"),none,(.seq #[] 0),#[]⟩
noncomputable def o309v0 : Params → Obj := by
  refine' (?f : (b : List Stmt) → b = sBody (nth (sBody (nth progB 12)) 10) → (a : Arguments) → a = sArgs (nth (sBody (nth progB 12)) 10) → (c : Scope) → c = sScope (nth (sBody (nth progB 12)) 10) → Params → Obj) _ ?h1 _ ?h2 _ ?h3
  case f => exact fun b _ a _ c _ P => ⟨.none,none,(.func ⟨(.ofString "__getnewargs__"),(.ofString "Granularity.__getnewargs__"),a,(.stmts b),c,0,[],.none,.none,.none,.none,none,.none,.none,0⟩),#[]⟩
  case h1 => conv => rhs; whnf
  case h2 => conv => rhs; whnf
  case h3 => conv => rhs; whnf
noncomputable def o310v0 (P : Params) : Obj := ⟨(.type "code"),none,(.fields #[(.str (.ofString "__getnewargs__") 611),(.str (.ofString "Granularity.__getnewargs__") 612),(.str (.ofString "/claim/cut.py") 613),(.int 180 0),(.int 1 0),(.int 0 0),(.int 0 0),(.int 3 0),(.ref 305),(.bool true),(.int 181 0),(.ref 306),.none,(.ref 307),(.ref 308),(.ref 309),(.int 615 0),(.int 180 0),(.str (.ofString "/claim/cut.py") 616)]),#[]⟩
noncomputable def o311v0 : Params → Obj := by
  refine' (?f : (b : List Stmt) → b = sBody (nth (sBody (nth progB 12)) 10) → (a : Arguments) → a = sArgs (nth (sBody (nth progB 12)) 10) → (c : Scope) → c = sScope (nth (sBody (nth progB 12)) 10) → Params → Obj) _ ?h1 _ ?h2 _ ?h3
  case f => exact fun b _ a _ c _ P => ⟨(.type "function"),none,(.func ⟨(.ofString "__getnewargs__"),(.ofString "Granularity.__getnewargs__"),a,(.stmts b),c,3,[],.none,.none,(.str (dS (nth (sBody (nth (sBody (nth progB 4)) 10)) 0)) 617),(.str (.ofString "limits.limits") 464),none,(.ref 310),.none,0⟩),#[]⟩
  case h1 => conv => rhs; whnf
  case h2 => conv => rhs; whnf
  case h3 => conv => rhs; whnf
noncomputable def o312v0 (P : Params) : Obj := ⟨(.type "tuple"),none,(.seq #[(.str (.ofString "seconds") 619),(.str (.ofString "name") 620)] 0),#[]⟩
noncomputable def o313v0 (P : Params) : Obj := ⟨(.type "dict"),none,(.dict #[⟨(PySem.PyData.keyHash P (.ofString "index")),(.str (.ofString "index") 628),(.int 0 622)⟩,⟨(PySem.PyData.keyHash P (.ofString "__doc__")),(.str (.ofString "__doc__") 630),(.str (.ofString "Alias for field number 0") 623)⟩] 2),#[]⟩
noncomputable def o314v0 (P : Params) : Obj := ⟨(.ref 243),(some 313),.plain,#[]⟩
noncomputable def o315v0 (P : Params) : Obj := ⟨(.type "frame"),none,(.dict #[⟨(PySem.PyData.keyHash P (.ofString "self")),(.str (.ofString "self") 624),(.ref 314)⟩,⟨(PySem.PyData.keyHash P (.ofString "index")),(.str (.ofString "index") 625),(.int 0 622)⟩,⟨(PySem.PyData.keyHash P (.ofString "doc")),(.str (.ofString "doc") 626),(.str (.ofString "Alias for field number 0") 623)⟩] 3),#[]⟩
noncomputable def o316v0 (P : Params) : Obj := ⟨(.type "dict"),none,(.dict #[⟨(PySem.PyData.keyHash P (.ofString "index")),(.str (.ofString "index") 638),(.int 1 632)⟩,⟨(PySem.PyData.keyHash P (.ofString "__doc__")),(.str (.ofString "__doc__") 640),(.str (.ofString "Alias for field number 1") 633)⟩] 2),#[]⟩
noncomputable def o317v0 (P : Params) : Obj := ⟨(.ref 243),(some 316),.plain,#[]⟩
noncomputable def o318v0 (P : Params) : Obj := ⟨(.type "frame"),none,(.dict #[⟨(PySem.PyData.keyHash P (.ofString "self")),(.str (.ofString "self") 634),(.ref 317)⟩,⟨(PySem.PyData.keyHash P (.ofString "index")),(.str (.ofString "index") 635),(.int 1 632)⟩,⟨(PySem.PyData.keyHash P (.ofString "doc")),(.str (.ofString "doc") 636),(.str (.ofString "Alias for field number 1") 633)⟩] 3),#[]⟩
noncomputable def o319v0 (P : Params) : Obj := ⟨(.type "tuple"),none,(.seq #[] 0),#[]⟩
noncomputable def o320v0 (P : Params) : Obj := ⟨(.type "list"),none,(.seq #[] 0),#[]⟩
noncomputable def o321v0 (P : Params) : Obj := ⟨(.type "dict"),none,(.dict #[⟨(PySem.PyData.keyHash P (.ofString "__module__")),(.str (.ofString "__module__") 539),(.str (.ofString "limits.limits") 464)⟩,⟨(PySem.PyData.keyHash P (.ofString "__firstlineno__")),(.str (.ofString "__firstlineno__") 543),(.int 144 542)⟩,⟨(PySem.PyData.keyHash P (.ofString "__doc__")),(.str (.ofString "__doc__") 545),(.str (dS (nth (sBody (nth progB 12)) 0)) 544)⟩,⟨(PySem.PyData.keyHash P (.ofString "__slots__")),(.str (.ofString "__slots__") 547),(.ref 263)⟩,⟨(PySem.PyData.keyHash P (.ofString "_fields")),(.str (.ofString "_fields") 550),(.ref 264)⟩,⟨(PySem.PyData.keyHash P (.ofString "_field_defaults")),(.str (.ofString "_field_defaults") 551),(.ref 265)⟩,⟨(PySem.PyData.keyHash P (.ofString "__new__")),(.str (.ofString "__new__") 561),(.ref 323)⟩,⟨(PySem.PyData.keyHash P (.ofString "_make")),(.str (.ofString "_make") 583),(.ref 281)⟩,⟨(PySem.PyData.keyHash P (.ofString "_replace")),(.str (.ofString "_replace") 594),(.ref 290)⟩,⟨(PySem.PyData.keyHash P (.ofString "__replace__")),(.str (.ofString "__replace__") 595),(.ref 290)⟩,⟨(PySem.PyData.keyHash P (.ofString "__repr__")),(.str (.ofString "__repr__") 603),(.ref 297)⟩,⟨(PySem.PyData.keyHash P (.ofString "_asdict")),(.str (.ofString "_asdict") 610),(.ref 304)⟩,⟨(PySem.PyData.keyHash P (.ofString "__getnewargs__")),(.str (.ofString "__getnewargs__") 618),(.ref 311)⟩,⟨(PySem.PyData.keyHash P (.ofString "__match_args__")),(.str (.ofString "__match_args__") 621),(.ref 312)⟩,⟨(PySem.PyData.keyHash P (.ofString "seconds")),(.str (.ofString "seconds") 631),(.ref 314)⟩,⟨(PySem.PyData.keyHash P (.ofString "name")),(.str (.ofString "name") 641),(.ref 317)⟩,⟨(PySem.PyData.keyHash P (.ofString "__static_attributes__")),(.str (.ofString "__static_attributes__") 642),(.ref 319)⟩] 2),#[]⟩
noncomputable def o322v0 (P : Params) : Obj := ⟨(.type "type"),none,(.cls ⟨(.ofString "Granularity"),[(.type "tuple")],[(.ref 322),(.type "tuple"),(.type "object")],321,(.ofString "Granularity"),false,[],[],false,none,false⟩),#[(some (.ref 255)),none,(some (.str (.ofString "Granularity") 532)),(some (.str (.ofString "Granularity") 540)),(some .none),(some (.bool false))]⟩
noncomputable def o323v0 (P : Params) : Obj := ⟨(.type "staticmethod"),none,(.fields #[(.ref 272)]),#[]⟩
noncomputable def o324v0 (P : Params) : Obj := ⟨(.type "super"),none,(.fields #[(.ref 322),(.ref 322),(.ref 322)]),#[]⟩
noncomputable def o325v0 (P : Params) : Obj := ⟨(.type "builtin_function_or_method"),none,(.fields #[(.builtin "object.__init_subclass__"),(.ref 322)]),#[]⟩
noncomputable def tr4 (P : Params) : BT := (.node (PySem.W.boot_o_0 P) (.node (PySem.W.boot_o_1 P) (.node (o3v4 P) (.node (PySem.W.boot_o_7 P) (.node (o15v0 P) (.node (o31v0 P) (.node (o63v0 P) (.node (o127v0 P) (.node (o255v0 P) .nil .nil) .nil) (.node (o191v0 P) (.node (o319v0 P) .nil .nil) .nil)) (.node (o95v0 P) (.node (o159v0 P) (.node (o287v0 P) .nil .nil) .nil) (.node (o223v0 P) .nil .nil))) (.node (o47v0 P) (.node (o79v0 P) (.node (o143v0 P) (.node (o271v0 P) .nil .nil) .nil) (.node (o207v0 P) .nil .nil)) (.node (o111v0 P) (.node (o175v0 P) (.node (o303v0 P) .nil .nil) .nil) (.node (o239v0 P) .nil .nil)))) (.node (o23v0 P) (.node (o39v0 P) (.node (o71v0 P) (.node (o135v0 P) (.node (o263v0 P) .nil .nil) .nil) (.node (o199v0 P) .nil .nil)) (.node (o103v0 P) (.node (o167v0 P) (.node (o295v0 P) .nil .nil) .nil) (.node (o231v0 P) .nil .nil))) (.node (o55v0 P) (.node (o87v0 P) (.node (o151v0 P) (.node (o279v0 P) .nil .nil) .nil) (.node (o215v0 P) .nil .nil)) (.node (o119v0 P) (.node (o183v0 P) (.node (o311v0 P) .nil .nil) .nil) (.node (o247v0 P) .nil .nil))))) (.node (o11v0 P) (.node (o19v0 P) (.node (o35v0 P) (.node (o67v0 P) (.node (o131v0 P) (.node (o259v0 P) .nil .nil) .nil) (.node (o195v0 P) (.node (o323v0 P) .nil .nil) .nil)) (.node (o99v0 P) (.node (o163v0 P) (.node (o291v0 P) .nil .nil) .nil) (.node (o227v0 P) .nil .nil))) (.node (o51v0 P) (.node (o83v0 P) (.node (o147v0 P) (.node (o275v0 P) .nil .nil) .nil) (.node (o211v0 P) .nil .nil)) (.node (o115v0 P) (.node (o179v0 P) (.node (o307v0 P) .nil .nil) .nil) (.node (o243v0 P) .nil .nil)))) (.node (o27v0 P) (.node (o43v0 P) (.node (o75v0 P) (.node (o139v0 P) (.node (o267v0 P) .nil .nil) .nil) (.node (o203v0 P) .nil .nil)) (.node (o107v0 P) (.node (o171v0 P) (.node (o299v0 P) .nil .nil) .nil) (.node (o235v0 P) .nil .nil))) (.node (o59v0 P) (.node (o91v0 P) (.node (o155v0 P) (.node (o283v0 P) .nil .nil) .nil) (.node (o219v0 P) .nil .nil)) (.node (o123v0 P) (.node (o187v0 P) (.node (o315v0 P) .nil .nil) .nil) (.node (o251v0 P) .nil .nil)))))) (.node (PySem.W.boot_o_5 P) (.node (PySem.W.boot_o_9 P) (.node (o17v0 P) (.node (o33v0 P) (.node (o65v0 P) (.node (o129v0 P) (.node (o257v0 P) .nil .nil) .nil) (.node (o193v0 P) (.node (o321v0 P) .nil .nil) .nil)) (.node (o97v0 P) (.node (o161v0 P) (.node (o289v0 P) .nil .nil) .nil) (.node (o225v0 P) .nil .nil))) (.node (o49v0 P) (.node (o81v0 P) (.node (o145v0 P) (.node (o273v0 P) .nil .nil) .nil) (.node (o209v0 P) .nil .nil)) (.node (o113v0 P) (.node (o177v0 P) (.node (o305v0 P) .nil .nil) .nil) (.node (o241v0 P) .nil .nil)))) (.node (o25v0 P) (.node (o41v0 P) (.node (o73v0 P) (.node (o137v0 P) (.node (o265v0 P) .nil .nil) .nil) (.node (o201v0 P) .nil .nil)) (.node (o105v0 P) (.node (o169v0 P) (.node (o297v0 P) .nil .nil) .nil) (.node (o233v0 P) .nil .nil))) (.node (o57v0 P) (.node (o89v0 P) (.node (o153v0 P) (.node (o281v0 P) .nil .nil) .nil) (.node (o217v0 P) .nil .nil)) (.node (o121v0 P) (.node (o185v0 P) (.node (o313v0 P) .nil .nil) .nil) (.node (o249v0 P) .nil .nil))))) (.node (o13v0 P) (.node (o21v0 P) (.node (o37v0 P) (.node (o69v0 P) (.node (o133v0 P) (.node (o261v0 P) .nil .nil) .nil) (.node (o197v0 P) (.node (o325v0 P) .nil .nil) .nil)) (.node (o101v0 P) (.node (o165v0 P) (.node (o293v0 P) .nil .nil) .nil) (.node (o229v0 P) .nil .nil))) (.node (o53v0 P) (.node (o85v0 P) (.node (o149v0 P) (.node (o277v0 P) .nil .nil) .nil) (.node (o213v0 P) .nil .nil)) (.node (o117v0 P) (.node (o181v0 P) (.node (o309v0 P) .nil .nil) .nil) (.node (o245v0 P) .nil .nil)))) (.node (o29v0 P) (.node (o45v0 P) (.node (o77v0 P) (.node (o141v0 P) (.node (o269v0 P) .nil .nil) .nil) (.node (o205v0 P) .nil .nil)) (.node (o109v0 P) (.node (o173v0 P) (.node (o301v0 P) .nil .nil) .nil) (.node (o237v0 P) .nil .nil))) (.node (o61v0 P) (.node (o93v0 P) (.node (o157v0 P) (.node (o285v0 P) .nil .nil) .nil) (.node (o221v0 P) .nil .nil)) (.node (o125v0 P) (.node (o189v0 P) (.node (o317v0 P) .nil .nil) .nil) (.node (o253v0 P) .nil .nil))))))) (.node (PySem.W.boot_o_2 P) (.node (PySem.W.boot_o_4 P) (.node (PySem.W.boot_o_8 P) (.node (o16v0 P) (.node (o32v0 P) (.node (o64v0 P) (.node (o128v0 P) (.node (o256v0 P) .nil .nil) .nil) (.node (o192v0 P) (.node (o320v0 P) .nil .nil) .nil)) (.node (o96v0 P) (.node (o160v0 P) (.node (o288v0 P) .nil .nil) .nil) (.node (o224v0 P) .nil .nil))) (.node (o48v0 P) (.node (o80v0 P) (.node (o144v0 P) (.node (o272v0 P) .nil .nil) .nil) (.node (o208v0 P) .nil .nil)) (.node (o112v0 P) (.node (o176v0 P) (.node (o304v0 P) .nil .nil) .nil) (.node (o240v0 P) .nil .nil)))) (.node (o24v0 P) (.node (o40v0 P) (.node (o72v0 P) (.node (o136v0 P) (.node (o264v0 P) .nil .nil) .nil) (.node (o200v0 P) .nil .nil)) (.node (o104v0 P) (.node (o168v0 P) (.node (o296v0 P) .nil .nil) .nil) (.node (o232v0 P) .nil .nil))) (.node (o56v0 P) (.node (o88v0 P) (.node (o152v0 P) (.node (o280v0 P) .nil .nil) .nil) (.node (o216v0 P) .nil .nil)) (.node (o120v0 P) (.node (o184v0 P) (.node (o312v0 P) .nil .nil) .nil) (.node (o248v0 P) .nil .nil))))) (.node (o12v4 P) (.node (o20v0 P) (.node (o36v0 P) (.node (o68v0 P) (.node (o132v0 P) (.node (o260v0 P) .nil .nil) .nil) (.node (o196v0 P) (.node (o324v0 P) .nil .nil) .nil)) (.node (o100v0 P) (.node (o164v0 P) (.node (o292v0 P) .nil .nil) .nil) (.node (o228v0 P) .nil .nil))) (.node (o52v0 P) (.node (o84v0 P) (.node (o148v0 P) (.node (o276v0 P) .nil .nil) .nil) (.node (o212v0 P) .nil .nil)) (.node (o116v0 P) (.node (o180v0 P) (.node (o308v0 P) .nil .nil) .nil) (.node (o244v0 P) .nil .nil)))) (.node (o28v0 P) (.node (o44v0 P) (.node (o76v0 P) (.node (o140v0 P) (.node (o268v0 P) .nil .nil) .nil) (.node (o204v0 P) .nil .nil)) (.node (o108v0 P) (.node (o172v0 P) (.node (o300v0 P) .nil .nil) .nil) (.node (o236v0 P) .nil .nil))) (.node (o60v0 P) (.node (o92v0 P) (.node (o156v0 P) (.node (o284v0 P) .nil .nil) .nil) (.node (o220v0 P) .nil .nil)) (.node (o124v0 P) (.node (o188v0 P) (.node (o316v0 P) .nil .nil) .nil) (.node (o252v0 P) .nil .nil)))))) (.node (PySem.W.boot_o_6 P) (.node (PySem.W.boot_o_10 P) (.node (o18v0 P) (.node (o34v0 P) (.node (o66v0 P) (.node (o130v0 P) (.node (o258v0 P) .nil .nil) .nil) (.node (o194v0 P) (.node (o322v0 P) .nil .nil) .nil)) (.node (o98v0 P) (.node (o162v0 P) (.node (o290v0 P) .nil .nil) .nil) (.node (o226v0 P) .nil .nil))) (.node (o50v0 P) (.node (o82v0 P) (.node (o146v0 P) (.node (o274v0 P) .nil .nil) .nil) (.node (o210v0 P) .nil .nil)) (.node (o114v0 P) (.node (o178v0 P) (.node (o306v0 P) .nil .nil) .nil) (.node (o242v0 P) .nil .nil)))) (.node (o26v0 P) (.node (o42v0 P) (.node (o74v0 P) (.node (o138v0 P) (.node (o266v0 P) .nil .nil) .nil) (.node (o202v0 P) .nil .nil)) (.node (o106v0 P) (.node (o170v0 P) (.node (o298v0 P) .nil .nil) .nil) (.node (o234v0 P) .nil .nil))) (.node (o58v0 P) (.node (o90v0 P) (.node (o154v0 P) (.node (o282v0 P) .nil .nil) .nil) (.node (o218v0 P) .nil .nil)) (.node (o122v0 P) (.node (o186v0 P) (.node (o314v0 P) .nil .nil) .nil) (.node (o250v0 P) .nil .nil))))) (.node (o14v0 P) (.node (o22v0 P) (.node (o38v0 P) (.node (o70v0 P) (.node (o134v0 P) (.node (o262v0 P) .nil .nil) .nil) (.node (o198v0 P) .nil .nil)) (.node (o102v0 P) (.node (o166v0 P) (.node (o294v0 P) .nil .nil) .nil) (.node (o230v0 P) .nil .nil))) (.node (o54v0 P) (.node (o86v0 P) (.node (o150v0 P) (.node (o278v0 P) .nil .nil) .nil) (.node (o214v0 P) .nil .nil)) (.node (o118v0 P) (.node (o182v0 P) (.node (o310v0 P) .nil .nil) .nil) (.node (o246v0 P) .nil .nil)))) (.node (o30v0 P) (.node (o46v0 P) (.node (o78v0 P) (.node (o142v0 P) (.node (o270v0 P) .nil .nil) .nil) (.node (o206v0 P) .nil .nil)) (.node (o110v0 P) (.node (o174v0 P) (.node (o302v0 P) .nil .nil) .nil) (.node (o238v0 P) .nil .nil))) (.node (o62v0 P) (.node (o94v0 P) (.node (o158v0 P) (.node (o286v0 P) .nil .nil) .nil) (.node (o222v0 P) .nil .nil)) (.node (o126v0 P) (.node (o190v0 P) (.node (o318v0 P) .nil .nil) .nil) (.node (o254v0 P) .nil .nil))))))))
noncomputable def o3v5 (P : Params) : Obj := ⟨(.type "dict"),none,(.dict #[⟨(PySem.PyData.keyHash P (.ofString "__name__")),(.str (.ofString "__name__") 165),(.str (.ofString "limits.limits") 464)⟩,⟨(PySem.PyData.keyHash P (.ofString "__doc__")),(.str (.ofString "__doc__") 166),.none⟩,⟨(PySem.PyData.keyHash P (.ofString "__package__")),(.str (.ofString "__package__") 167),.none⟩,⟨(PySem.PyData.keyHash P (.ofString "__loader__")),(.str (.ofString "__loader__") 168),(.builtin "__main__.__loader__#opaque")⟩,⟨(PySem.PyData.keyHash P (.ofString "__spec__")),(.str (.ofString "__spec__") 169),.none⟩,⟨(PySem.PyData.keyHash P (.ofString "__annotations__")),(.str (.ofString "__annotations__") 170),(.ref 6)⟩,⟨(PySem.PyData.keyHash P (.ofString "__builtins__")),(.str (.ofString "__builtins__") 171),(.ref 4)⟩,⟨(PySem.PyData.keyHash P (.ofString "__file__")),(.str (.ofString "__file__") 173),(.str (.ofString "/claim/cut.py") 172)⟩,⟨(PySem.PyData.keyHash P (.ofString "__cached__")),(.str (.ofString "__cached__") 174),.none⟩,⟨(PySem.PyData.keyHash P (.ofString "_wall")),(.str (.ofString "_wall") 193),(.ref 21)⟩,⟨(PySem.PyData.keyHash P (.ofString "_tuplegetter")),(.str (.ofString "_tuplegetter") 252),(.ref 243)⟩,⟨(PySem.PyData.keyHash P (.ofString "tuplegetter_util")),(.str (.ofString "tuplegetter_util") 253),(.ref 60)⟩,⟨(PySem.PyData.keyHash P (.ofString "WindowStats")),(.str (.ofString "WindowStats") 368),(.ref 132)⟩,⟨(PySem.PyData.keyHash P (.ofString "RateLimiter")),(.str (.ofString "RateLimiter") 408),(.ref 161)⟩,⟨(PySem.PyData.keyHash P (.ofString "MovingWindowRateLimiter")),(.str (.ofString "MovingWindowRateLimiter") 463),(.ref 202)⟩,⟨(PySem.PyData.keyHash P (.ofString "tuplegetter_limits")),(.str (.ofString "tuplegetter_limits") 523),(.ref 243)⟩,⟨(PySem.PyData.keyHash P (.ofString "safe_string")),(.str (.ofString "safe_string") 531),(.ref 254)⟩,⟨(PySem.PyData.keyHash P (.ofString "Granularity")),(.str (.ofString "Granularity") 646),(.ref 322)⟩,⟨(PySem.PyData.keyHash P (.ofString "RateLimitItem")),(.str (.ofString "RateLimitItem") 743),(.ref 388)⟩,⟨(PySem.PyData.keyHash P (.ofString "RateLimitItemPerMinute")),(.str (.ofString "RateLimitItemPerMinute") 771),(.ref 407)⟩] 20),#[]⟩
noncomputable def o12v5 (P : Params) : Obj := ⟨.none,none,(.fields #[(.int 1 0),(.int 0 0),(.ref 20),(.int 5 0),(.int 0 0),(.ref 27),(.int 24 0),(.int 0 0),(.ref 71),(.int 67 0),(.int 0 0),(.ref 141),(.int 74 0),(.int 0 0),(.ref 171),(.int 118 0),(.int 0 0),(.ref 210),(.int 137 0),(.int 0 0),(.ref 253),(.int 144 0),(.int 0 0),(.ref 261),(.int 186 0),(.int 0 0),(.ref 331),(.int 235 0),(.int 0 0),(.ref 398)]),#[]⟩
noncomputable def o326v0 (P : Params) : Obj := ⟨(.type "tuple"),none,(.seq #[] 0),#[]⟩
noncomputable def o327v0 (P : Params) : Obj := ⟨(.type "builtin_function_or_method"),none,(.fields #[(.builtin "type.__prepare__"),(.type "type")]),#[]⟩
noncomputable def o328v0 (P : Params) : Obj := ⟨(.type "dict"),none,(.dict #[⟨(PySem.PyData.keyHash P (.ofString "__module__")),(.str (.ofString "__module__") 654),(.str (.ofString "limits.limits") 464)⟩,⟨(PySem.PyData.keyHash P (.ofString "__qualname__")),(.str (.ofString "__qualname__") 656),(.str (.ofString "RateLimitItem") 655)⟩,⟨(PySem.PyData.keyHash P (.ofString "__firstlineno__")),(.str (.ofString "__firstlineno__") 658),(.int 186 657)⟩,⟨(PySem.PyData.keyHash P (.ofString "__doc__")),(.str (.ofString "__doc__") 660),(.str (dS (nth (sBody (nth progB 13)) 0)) 659)⟩,⟨(PySem.PyData.keyHash P (.ofString "__init__")),(.str (.ofString "__init__") 674),(.ref 340)⟩,⟨(PySem.PyData.keyHash P (.ofString "check_granularity_string")),(.str (.ofString "check_granularity_string") 694),(.ref 349)⟩,⟨(PySem.PyData.keyHash P (.ofString "get_expiry")),(.str (.ofString "get_expiry") 702),(.ref 357)⟩,⟨(PySem.PyData.keyHash P (.ofString "key_for")),(.str (.ofString "key_for") 709),(.ref 364)⟩,⟨(PySem.PyData.keyHash P (.ofString "__eq__")),(.str (.ofString "__eq__") 717),(.ref 371)⟩,⟨(PySem.PyData.keyHash P (.ofString "__repr__")),(.str (.ofString "__repr__") 724),(.ref 378)⟩,⟨(PySem.PyData.keyHash P (.ofString "__lt__")),(.str (.ofString "__lt__") 732),(.ref 385)⟩,⟨(PySem.PyData.keyHash P (.ofString "__static_attributes__")),(.str (.ofString "__static_attributes__") 736),(.ref 386)⟩] 12),#[]⟩
noncomputable def o329v0 (P : Params) : Obj := ⟨(.type "tuple"),none,(.seq #[] 0),#[]⟩
noncomputable def o330v0 (P : Params) : Obj := ⟨.none,none,(.fields #[(.int 198 0),(.int 4 0),(.ref 339),(.int 204 0),(.int 4 0),(.ref 346),(.int 207 0),(.int 4 0),(.ref 356),(.int 213 0),(.int 4 0),(.ref 363),(.int 225 0),(.int 4 0),(.ref 370),(.int 230 0),(.int 4 0),(.ref 377),(.int 233 0),(.int 4 0),(.ref 384)]),#[]⟩
noncomputable def o331v0 (P : Params) : Obj := ⟨(.type "code"),none,(.fields #[(.str (.ofString "RateLimitItem") 649),(.str (.ofString "RateLimitItem") 650),(.str (.ofString "/claim/cut.py") 651),(.int 186 0),(.int 0 0),(.int 0 0),(.int 0 0),(.int 0 0),(.ref 329),(.bool false),(.int 181 0),(.ref 330),.none,.none,.none,.none,(.int 652 0),(.int 186 0),(.str (.ofString "/claim/cut.py") 653)]),#[]⟩
noncomputable def o332v0 (P : Params) : Obj := ⟨(.type "frame"),none,.plain,#[(some (.ref 331)),(some (.ref 3)),(some (.ref 328)),none,(some (.str (.ofString "limits.limits") 464)),none,(some (.ref 0))]⟩
noncomputable def o333v0 (P : Params) : Obj := ⟨(.type "tuple"),none,(.seq #[(.int 1 663),(.str (.ofString "LIMITER") 664)] 0),#[]⟩
noncomputable def o334v0 (P : Params) : Obj := ⟨(.type "tuple"),none,(.seq #[] 0),#[]⟩
noncomputable def o335v0 (P : Params) : Obj := ⟨.none,none,(.fields #[]),#[]⟩
noncomputable def o336v0 (P : Params) : Obj := ⟨(.type "tuple"),none,(.seq #[(.str (.ofString "self") 668),(.str (.ofString "amount") 669),(.str (.ofString "multiples") 670),(.str (.ofString "namespace") 671)] 0),#[]⟩
noncomputable def o337v0 (P : Params) : Obj := ⟨(.type "tuple"),none,(.seq #[] 0),#[]⟩
noncomputable def o338v0 : Params → Obj := by
  refine' (?f : (b : List Stmt) → b = sBody (nth (sBody (nth progB 13)) 2) → (a : Arguments) → a = sArgs (nth (sBody (nth progB 13)) 2) → (c : Scope) → c = sScope (nth (sBody (nth progB 13)) 2) → Params → Obj) _ ?h1 _ ?h2 _ ?h3
  case f => exact fun b _ a _ c _ P => ⟨.none,none,(.func ⟨(.ofString "__init__"),(.ofString "RateLimitItem.__init__"),a,(.stmts b),c,0,[],.none,.none,.none,.none,none,.none,.none,0⟩),#[]⟩
  case h1 => conv => rhs; whnf
  case h2 => conv => rhs; whnf
  case h3 => conv => rhs; whnf
noncomputable def o339v0 (P : Params) : Obj := ⟨(.type "code"),none,(.fields #[(.str (.ofString "__init__") 665),(.str (.ofString "RateLimitItem.__init__") 666),(.str (.ofString "/claim/cut.py") 667),(.int 198 0),(.int 4 0),(.int 0 0),(.int 0 0),(.int 3 0),(.ref 334),(.bool true),(.int 181 0),(.ref 335),.none,(.ref 336),(.ref 337),(.ref 338),(.int 672 0),(.int 198 0),(.str (.ofString "/claim/cut.py") 673)]),#[]⟩
noncomputable def o340v0 : Params → Obj := by
  refine' (?f : (b : List Stmt) → b = sBody (nth (sBody (nth progB 13)) 2) → (a : Arguments) → a = sArgs (nth (sBody (nth progB 13)) 2) → (c : Scope) → c = sScope (nth (sBody (nth progB 13)) 2) → Params → Obj) _ ?h1 _ ?h2 _ ?h3
  case f => exact fun b _ a _ c _ P => ⟨(.type "function"),none,(.func ⟨(.ofString "__init__"),(.ofString "RateLimitItem.__init__"),a,(.stmts b),c,3,[],(.ref 333),.none,.none,(.str (.ofString "limits.limits") 464),none,(.ref 339),.none,0⟩),#[]⟩
  case h1 => conv => rhs; whnf
  case h2 => conv => rhs; whnf
  case h3 => conv => rhs; whnf
noncomputable def o341v0 (P : Params) : Obj := ⟨(.type "tuple"),none,(.seq #[] 0),#[]⟩
noncomputable def o342v0 (P : Params) : Obj := ⟨.none,none,(.fields #[]),#[]⟩
noncomputable def o343v0 (P : Params) : Obj := ⟨(.type "tuple"),none,(.seq #[(.str (.ofString "cls") 678),(.str (.ofString "granularity_string") 679)] 0),#[]⟩
noncomputable def o344v0 (P : Params) : Obj := ⟨(.type "tuple"),none,(.seq #[] 0),#[]⟩
noncomputable def o345v0 : Params → Obj := by
  refine' (?f : (b : List Stmt) → b = sBody (nth (sBody (nth progB 13)) 3) → (a : Arguments) → a = sArgs (nth (sBody (nth progB 13)) 3) → (c : Scope) → c = sScope (nth (sBody (nth progB 13)) 3) → Params → Obj) _ ?h1 _ ?h2 _ ?h3
  case f => exact fun b _ a _ c _ P => ⟨.none,none,(.func ⟨(.ofString "check_granularity_string"),(.ofString "RateLimitItem.check_granularity_string"),a,(.stmts b),c,0,[],.none,.none,.none,.none,none,.none,.none,0⟩),#[]⟩
  case h1 => conv => rhs; whnf
  case h2 => conv => rhs; whnf
  case h3 => conv => rhs; whnf
noncomputable def o346v0 (P : Params) : Obj := ⟨(.type "code"),none,(.fields #[(.str (.ofString "check_granularity_string") 675),(.str (.ofString "RateLimitItem.check_granularity_string") 676),(.str (.ofString "/claim/cut.py") 677),(.int 203 0),(.int 2 0),(.int 0 0),(.int 0 0),(.int 3 0),(.ref 341),(.bool true),(.int 181 0),(.ref 342),.none,(.ref 343),(.ref 344),(.ref 345),(.int 680 0),(.int 203 0),(.str (.ofString "/claim/cut.py") 681)]),#[]⟩
noncomputable def o347v0 : Params → Obj := by
  refine' (?f : (b : List Stmt) → b = sBody (nth (sBody (nth progB 13)) 3) → (a : Arguments) → a = sArgs (nth (sBody (nth progB 13)) 3) → (c : Scope) → c = sScope (nth (sBody (nth progB 13)) 3) → Params → Obj) _ ?h1 _ ?h2 _ ?h3
  case f => exact fun b _ a _ c _ P => ⟨(.type "function"),none,(.func ⟨(.ofString "check_granularity_string"),(.ofString "RateLimitItem.check_granularity_string"),a,(.stmts b),c,3,[],.none,.none,.none,(.str (.ofString "limits.limits") 464),(some 350),(.ref 346),.none,0⟩),#[]⟩
  case h1 => conv => rhs; whnf
  case h2 => conv => rhs; whnf
  case h3 => conv => rhs; whnf
noncomputable def o348v0 (P : Params) : Obj := ⟨(.type "dict"),none,(.dict #[⟨(PySem.PyData.keyHash P (.ofString "__module__")),(.str (.ofString "__module__") 683),(.str (.ofString "limits.limits") 464)⟩,⟨(PySem.PyData.keyHash P (.ofString "__name__")),(.str (.ofString "__name__") 686),(.str (.ofString "check_granularity_string") 685)⟩,⟨(PySem.PyData.keyHash P (.ofString "__qualname__")),(.str (.ofString "__qualname__") 689),(.str (.ofString "RateLimitItem.check_granularity_string") 688)⟩,⟨(PySem.PyData.keyHash P (.ofString "__doc__")),(.str (.ofString "__doc__") 691),.none⟩,⟨(PySem.PyData.keyHash P (.ofString "__annotations__")),(.str (.ofString "__annotations__") 693),(.ref 350)⟩] 5),#[]⟩
noncomputable def o349v0 (P : Params) : Obj := ⟨(.type "classmethod"),(some 348),(.fields #[(.ref 347),(.bool false)]),#[]⟩
noncomputable def o350v0 (P : Params) : Obj := ⟨(.type "dict"),none,(.dict #[] 0),#[]⟩
noncomputable def o351v0 (P : Params) : Obj := ⟨(.type "tuple"),none,(.seq #[] 0),#[]⟩
noncomputable def o352v0 (P : Params) : Obj := ⟨.none,none,(.fields #[]),#[]⟩
noncomputable def o353v0 (P : Params) : Obj := ⟨(.type "tuple"),none,(.seq #[(.str (.ofString "self") 698)] 0),#[]⟩
noncomputable def o354v0 (P : Params) : Obj := ⟨(.type "tuple"),none,(.seq #[] 0),#[]⟩
noncomputable def o355v0 : Params → Obj := by
  refine' (?f : (b : List Stmt) → b = sBody (nth (sBody (nth progB 13)) 4) → (a : Arguments) → a = sArgs (nth (sBody (nth progB 13)) 4) → (c : Scope) → c = sScope (nth (sBody (nth progB 13)) 4) → Params → Obj) _ ?h1 _ ?h2 _ ?h3
  case f => exact fun b _ a _ c _ P => ⟨.none,none,(.func ⟨(.ofString "get_expiry"),(.ofString "RateLimitItem.get_expiry"),a,(.stmts b),c,0,[],.none,.none,.none,.none,none,.none,.none,0⟩),#[]⟩
  case h1 => conv => rhs; whnf
  case h2 => conv => rhs; whnf
  case h3 => conv => rhs; whnf
noncomputable def o356v0 (P : Params) : Obj := ⟨(.type "code"),none,(.fields #[(.str (.ofString "get_expiry") 695),(.str (.ofString "RateLimitItem.get_expiry") 696),(.str (.ofString "/claim/cut.py") 697),(.int 207 0),(.int 1 0),(.int 0 0),(.int 0 0),(.int 3 0),(.ref 351),(.bool true),(.int 181 0),(.ref 352),.none,(.ref 353),(.ref 354),(.ref 355),(.int 699 0),(.int 207 0),(.str (.ofString "/claim/cut.py") 700)]),#[]⟩
noncomputable def o357v0 : Params → Obj := by
  refine' (?f : (b : List Stmt) → b = sBody (nth (sBody (nth progB 13)) 4) → (a : Arguments) → a = sArgs (nth (sBody (nth progB 13)) 4) → (c : Scope) → c = sScope (nth (sBody (nth progB 13)) 4) → Params → Obj) _ ?h1 _ ?h2 _ ?h3
  case f => exact fun b _ a _ c _ P => ⟨(.type "function"),none,(.func ⟨(.ofString "get_expiry"),(.ofString "RateLimitItem.get_expiry"),a,(.stmts b),c,3,[],.none,.none,(.str (dS (nth (sBody (nth (sBody (nth progB 13)) 4)) 0)) 701),(.str (.ofString "limits.limits") 464),none,(.ref 356),.none,0⟩),#[]⟩
  case h1 => conv => rhs; whnf
  case h2 => conv => rhs; whnf
  case h3 => conv => rhs; whnf
noncomputable def o358v0 (P : Params) : Obj := ⟨(.type "tuple"),none,(.seq #[] 0),#[]⟩
noncomputable def o359v0 (P : Params) : Obj := ⟨(.type "tuple"),none,(.seq #[(.ref 358)] 0),#[]⟩
noncomputable def o360v0 (P : Params) : Obj := ⟨(.type "tuple"),none,(.seq #[] 0),#[]⟩
noncomputable def o361v0 (P : Params) : Obj := ⟨.none,none,(.fields #[]),#[]⟩
noncomputable def o362v0 : Params → Obj := by
  refine' (?f : (b : List Stmt) → b = sBody (nth (sBody (nth progB 13)) 5) → (a : Arguments) → a = sArgs (nth (sBody (nth progB 13)) 5) → (c : Scope) → c = sScope (nth (sBody (nth progB 13)) 5) → Params → Obj) _ ?h1 _ ?h2 _ ?h3
  case f => exact fun b _ a _ c _ P => ⟨.none,none,(.func ⟨(.ofString "key_for"),(.ofString "RateLimitItem.key_for"),a,(.stmts b),c,0,[],.none,.none,.none,.none,none,.none,.none,0⟩),#[]⟩
  case h1 => conv => rhs; whnf
  case h2 => conv => rhs; whnf
  case h3 => conv => rhs; whnf
noncomputable def o363v0 (P : Params) : Obj := ⟨(.type "code"),none,(.fields #[(.str (.ofString "key_for") 703),(.str (.ofString "RateLimitItem.key_for") 704),(.str (.ofString "/claim/cut.py") 705),(.int 213 0),(.int 2 0),(.int 0 0),(.int 0 0),(.int 3 0),(.ref 360),(.bool true),(.int 181 0),(.ref 361),.none,.none,.none,(.ref 362),(.int 706 0),(.int 213 0),(.str (.ofString "/claim/cut.py") 707)]),#[]⟩
noncomputable def o364v0 : Params → Obj := by
  refine' (?f : (b : List Stmt) → b = sBody (nth (sBody (nth progB 13)) 5) → (a : Arguments) → a = sArgs (nth (sBody (nth progB 13)) 5) → (c : Scope) → c = sScope (nth (sBody (nth progB 13)) 5) → Params → Obj) _ ?h1 _ ?h2 _ ?h3
  case f => exact fun b _ a _ c _ P => ⟨(.type "function"),none,(.func ⟨(.ofString "key_for"),(.ofString "RateLimitItem.key_for"),a,(.stmts b),c,3,[],(.ref 359),.none,(.str (dS (nth (sBody (nth (sBody (nth progB 13)) 5)) 0)) 708),(.str (.ofString "limits.limits") 464),none,(.ref 363),.none,0⟩),#[]⟩
  case h1 => conv => rhs; whnf
  case h2 => conv => rhs; whnf
  case h3 => conv => rhs; whnf
noncomputable def o365v0 (P : Params) : Obj := ⟨(.type "tuple"),none,(.seq #[] 0),#[]⟩
noncomputable def o366v0 (P : Params) : Obj := ⟨.none,none,(.fields #[]),#[]⟩
noncomputable def o367v0 (P : Params) : Obj := ⟨(.type "tuple"),none,(.seq #[(.str (.ofString "self") 713),(.str (.ofString "other") 714)] 0),#[]⟩
noncomputable def o368v0 (P : Params) : Obj := ⟨(.type "tuple"),none,(.seq #[] 0),#[]⟩
noncomputable def o369v0 : Params → Obj := by
  refine' (?f : (b : List Stmt) → b = sBody (nth (sBody (nth progB 13)) 6) → (a : Arguments) → a = sArgs (nth (sBody (nth progB 13)) 6) → (c : Scope) → c = sScope (nth (sBody (nth progB 13)) 6) → Params → Obj) _ ?h1 _ ?h2 _ ?h3
  case f => exact fun b _ a _ c _ P => ⟨.none,none,(.func ⟨(.ofString "__eq__"),(.ofString "RateLimitItem.__eq__"),a,(.stmts b),c,0,[],.none,.none,.none,.none,none,.none,.none,0⟩),#[]⟩
  case h1 => conv => rhs; whnf
  case h2 => conv => rhs; whnf
  case h3 => conv => rhs; whnf
noncomputable def o370v0 (P : Params) : Obj := ⟨(.type "code"),none,(.fields #[(.str (.ofString "__eq__") 710),(.str (.ofString "RateLimitItem.__eq__") 711),(.str (.ofString "/claim/cut.py") 712),(.int 225 0),(.int 2 0),(.int 0 0),(.int 0 0),(.int 3 0),(.ref 365),(.bool true),(.int 181 0),(.ref 366),.none,(.ref 367),(.ref 368),(.ref 369),(.int 715 0),(.int 225 0),(.str (.ofString "/claim/cut.py") 716)]),#[]⟩
noncomputable def o371v0 : Params → Obj := by
  refine' (?f : (b : List Stmt) → b = sBody (nth (sBody (nth progB 13)) 6) → (a : Arguments) → a = sArgs (nth (sBody (nth progB 13)) 6) → (c : Scope) → c = sScope (nth (sBody (nth progB 13)) 6) → Params → Obj) _ ?h1 _ ?h2 _ ?h3
  case f => exact fun b _ a _ c _ P => ⟨(.type "function"),none,(.func ⟨(.ofString "__eq__"),(.ofString "RateLimitItem.__eq__"),a,(.stmts b),c,3,[],.none,.none,.none,(.str (.ofString "limits.limits") 464),none,(.ref 370),.none,0⟩),#[]⟩
  case h1 => conv => rhs; whnf
  case h2 => conv => rhs; whnf
  case h3 => conv => rhs; whnf
noncomputable def o372v0 (P : Params) : Obj := ⟨(.type "tuple"),none,(.seq #[] 0),#[]⟩
noncomputable def o373v0 (P : Params) : Obj := ⟨.none,none,(.fields #[]),#[]⟩
noncomputable def o374v0 (P : Params) : Obj := ⟨(.type "tuple"),none,(.seq #[(.str (.ofString "self") 721)] 0),#[]⟩
noncomputable def o375v0 (P : Params) : Obj := ⟨(.type "tuple"),none,(.seq #[] 0),#[]⟩
noncomputable def o376v0 : Params → Obj := by
  refine' (?f : (b : List Stmt) → b = sBody (nth (sBody (nth progB 13)) 7) → (a : Arguments) → a = sArgs (nth (sBody (nth progB 13)) 7) → (c : Scope) → c = sScope (nth (sBody (nth progB 13)) 7) → Params → Obj) _ ?h1 _ ?h2 _ ?h3
  case f => exact fun b _ a _ c _ P => ⟨.none,none,(.func ⟨(.ofString "__repr__"),(.ofString "RateLimitItem.__repr__"),a,(.stmts b),c,0,[],.none,.none,.none,.none,none,.none,.none,0⟩),#[]⟩
  case h1 => conv => rhs; whnf
  case h2 => conv => rhs; whnf
  case h3 => conv => rhs; whnf
noncomputable def o377v0 (P : Params) : Obj := ⟨(.type "code"),none,(.fields #[(.str (.ofString "__repr__") 718),(.str (.ofString "RateLimitItem.__repr__") 719),(.str (.ofString "/claim/cut.py") 720),(.int 230 0),(.int 1 0),(.int 0 0),(.int 0 0),(.int 3 0),(.ref 372),(.bool true),(.int 181 0),(.ref 373),.none,(.ref 374),(.ref 375),(.ref 376),(.int 722 0),(.int 230 0),(.str (.ofString "/claim/cut.py") 723)]),#[]⟩
noncomputable def o378v0 : Params → Obj := by
  refine' (?f : (b : List Stmt) → b = sBody (nth (sBody (nth progB 13)) 7) → (a : Arguments) → a = sArgs (nth (sBody (nth progB 13)) 7) → (c : Scope) → c = sScope (nth (sBody (nth progB 13)) 7) → Params → Obj) _ ?h1 _ ?h2 _ ?h3
  case f => exact fun b _ a _ c _ P => ⟨(.type "function"),none,(.func ⟨(.ofString "__repr__"),(.ofString "RateLimitItem.__repr__"),a,(.stmts b),c,3,[],.none,.none,.none,(.str (.ofString "limits.limits") 464),none,(.ref 377),.none,0⟩),#[]⟩
  case h1 => conv => rhs; whnf
  case h2 => conv => rhs; whnf
  case h3 => conv => rhs; whnf
noncomputable def o379v0 (P : Params) : Obj := ⟨(.type "tuple"),none,(.seq #[] 0),#[]⟩
noncomputable def o380v0 (P : Params) : Obj := ⟨.none,none,(.fields #[]),#[]⟩
noncomputable def o381v0 (P : Params) : Obj := ⟨(.type "tuple"),none,(.seq #[(.str (.ofString "self") 728),(.str (.ofString "other") 729)] 0),#[]⟩
noncomputable def o382v0 (P : Params) : Obj := ⟨(.type "tuple"),none,(.seq #[] 0),#[]⟩
noncomputable def o383v0 : Params → Obj := by
  refine' (?f : (b : List Stmt) → b = sBody (nth (sBody (nth progB 13)) 8) → (a : Arguments) → a = sArgs (nth (sBody (nth progB 13)) 8) → (c : Scope) → c = sScope (nth (sBody (nth progB 13)) 8) → Params → Obj) _ ?h1 _ ?h2 _ ?h3
  case f => exact fun b _ a _ c _ P => ⟨.none,none,(.func ⟨(.ofString "__lt__"),(.ofString "RateLimitItem.__lt__"),a,(.stmts b),c,0,[],.none,.none,.none,.none,none,.none,.none,0⟩),#[]⟩
  case h1 => conv => rhs; whnf
  case h2 => conv => rhs; whnf
  case h3 => conv => rhs; whnf
noncomputable def o384v0 (P : Params) : Obj := ⟨(.type "code"),none,(.fields #[(.str (.ofString "__lt__") 725),(.str (.ofString "RateLimitItem.__lt__") 726),(.str (.ofString "/claim/cut.py") 727),(.int 233 0),(.int 2 0),(.int 0 0),(.int 0 0),(.int 3 0),(.ref 379),(.bool true),(.int 181 0),(.ref 380),.none,(.ref 381),(.ref 382),(.ref 383),(.int 730 0),(.int 233 0),(.str (.ofString "/claim/cut.py") 731)]),#[]⟩
noncomputable def o385v0 : Params → Obj := by
  refine' (?f : (b : List Stmt) → b = sBody (nth (sBody (nth progB 13)) 8) → (a : Arguments) → a = sArgs (nth (sBody (nth progB 13)) 8) → (c : Scope) → c = sScope (nth (sBody (nth progB 13)) 8) → Params → Obj) _ ?h1 _ ?h2 _ ?h3
  case f => exact fun b _ a _ c _ P => ⟨(.type "function"),none,(.func ⟨(.ofString "__lt__"),(.ofString "RateLimitItem.__lt__"),a,(.stmts b),c,3,[],.none,.none,.none,(.str (.ofString "limits.limits") 464),none,(.ref 384),.none,0⟩),#[]⟩
  case h1 => conv => rhs; whnf
  case h2 => conv => rhs; whnf
  case h3 => conv => rhs; whnf
noncomputable def o386v0 (P : Params) : Obj := ⟨(.type "tuple"),none,(.seq #[(.str (.ofString "amount") 733),(.str (.ofString "multiples") 734),(.str (.ofString "namespace") 735)] 0),#[]⟩
noncomputable def o387v0 (P : Params) : Obj := ⟨(.type "dict"),none,(.dict #[⟨(PySem.PyData.keyHash P (.ofString "__module__")),(.str (.ofString "__module__") 654),(.str (.ofString "limits.limits") 464)⟩,⟨(PySem.PyData.keyHash P (.ofString "__firstlineno__")),(.str (.ofString "__firstlineno__") 658),(.int 186 657)⟩,⟨(PySem.PyData.keyHash P (.ofString "__doc__")),(.str (.ofString "__doc__") 660),(.str (dS (nth (sBody (nth progB 13)) 0)) 659)⟩,⟨(PySem.PyData.keyHash P (.ofString "__init__")),(.str (.ofString "__init__") 674),(.ref 340)⟩,⟨(PySem.PyData.keyHash P (.ofString "check_granularity_string")),(.str (.ofString "check_granularity_string") 694),(.ref 349)⟩,⟨(PySem.PyData.keyHash P (.ofString "get_expiry")),(.str (.ofString "get_expiry") 702),(.ref 357)⟩,⟨(PySem.PyData.keyHash P (.ofString "key_for")),(.str (.ofString "key_for") 709),(.ref 364)⟩,⟨(PySem.PyData.keyHash P (.ofString "__eq__")),(.str (.ofString "__eq__") 717),(.ref 371)⟩,⟨(PySem.PyData.keyHash P (.ofString "__repr__")),(.str (.ofString "__repr__") 724),(.ref 378)⟩,⟨(PySem.PyData.keyHash P (.ofString "__lt__")),(.str (.ofString "__lt__") 732),(.ref 385)⟩,⟨(PySem.PyData.keyHash P (.ofString "__static_attributes__")),(.str (.ofString "__static_attributes__") 736),(.ref 386)⟩,⟨(PySem.PyData.keyHash P (.ofString "__dict__")),(.str (.ofString "__dict__") 738),(.ref 389)⟩,⟨(PySem.PyData.keyHash P (.ofString "__weakref__")),(.str (.ofString "__weakref__") 740),(.ref 390)⟩,⟨(PySem.PyData.keyHash P (.ofString "__hash__")),(.str (.ofString "__hash__") 741),.none⟩] 4),#[]⟩
noncomputable def o388v0 (P : Params) : Obj := ⟨(.type "type"),none,(.cls ⟨(.ofString "RateLimitItem"),[(.type "object")],[(.ref 388),(.type "object")],387,(.ofString "RateLimitItem"),true,[],[(.ref 407)],false,none,false⟩),#[none,none,(some (.str (.ofString "RateLimitItem") 647)),(some (.str (.ofString "RateLimitItem") 655)),(some (.builtin "object.__new__")),(some (.bool true))]⟩
noncomputable def o389v0 (P : Params) : Obj := ⟨(.type "getset_descriptor"),none,(.fields #[(.str (.ofString "__dict__") 737),(.ref 388),(.builtin "function.__dict__"),(.builtin "function.__dict__#set")]),#[]⟩
noncomputable def o390v0 (P : Params) : Obj := ⟨(.type "getset_descriptor"),none,(.fields #[(.str (.ofString "__weakref__") 739),(.ref 388),(.builtin "ExceptionGroup.__weakref__"),.none]),#[]⟩
noncomputable def o391v0 (P : Params) : Obj := ⟨(.type "super"),none,(.fields #[(.ref 388),(.ref 388),(.ref 388)]),#[]⟩
noncomputable def o392v0 (P : Params) : Obj := ⟨(.type "builtin_function_or_method"),none,(.fields #[(.builtin "object.__init_subclass__"),(.ref 388)]),#[]⟩
noncomputable def o393v0 (P : Params) : Obj := ⟨(.type "tuple"),none,(.seq #[(.ref 388)] 0),#[]⟩
noncomputable def o394v0 (P : Params) : Obj := ⟨(.type "builtin_function_or_method"),none,(.fields #[(.builtin "type.__prepare__"),(.type "type")]),#[]⟩
noncomputable def o395v0 (P : Params) : Obj := ⟨(.type "dict"),none,(.dict #[⟨(PySem.PyData.keyHash P (.ofString "__module__")),(.str (.ofString "__module__") 751),(.str (.ofString "limits.limits") 464)⟩,⟨(PySem.PyData.keyHash P (.ofString "__qualname__")),(.str (.ofString "__qualname__") 753),(.str (.ofString "RateLimitItemPerMinute") 752)⟩,⟨(PySem.PyData.keyHash P (.ofString "__firstlineno__")),(.str (.ofString "__firstlineno__") 755),(.int 235 754)⟩,⟨(PySem.PyData.keyHash P (.ofString "__doc__")),(.str (.ofString "__doc__") 757),(.str (dS (nth (sBody (nth progB 14)) 0)) 756)⟩,⟨(PySem.PyData.keyHash P (.ofString "GRANULARITY")),(.str (.ofString "GRANULARITY") 767),(.ref 404)⟩,⟨(PySem.PyData.keyHash P (.ofString "__static_attributes__")),(.str (.ofString "__static_attributes__") 769),(.ref 405)⟩] 6),#[]⟩
noncomputable def o396v0 (P : Params) : Obj := ⟨(.type "tuple"),none,(.seq #[] 0),#[]⟩
noncomputable def o397v0 (P : Params) : Obj := ⟨.none,none,(.fields #[]),#[]⟩
noncomputable def o398v0 (P : Params) : Obj := ⟨(.type "code"),none,(.fields #[(.str (.ofString "RateLimitItemPerMinute") 746),(.str (.ofString "RateLimitItemPerMinute") 747),(.str (.ofString "/claim/cut.py") 748),(.int 235 0),(.int 0 0),(.int 0 0),(.int 0 0),(.int 0 0),(.ref 396),(.bool false),(.int 181 0),(.ref 397),.none,.none,.none,.none,(.int 749 0),(.int 235 0),(.str (.ofString "/claim/cut.py") 750)]),#[]⟩
noncomputable def o399v0 (P : Params) : Obj := ⟨(.type "frame"),none,.plain,#[(some (.ref 398)),(some (.ref 3)),(some (.ref 395)),none,(some (.str (.ofString "limits.limits") 464)),none,(some (.ref 0))]⟩
noncomputable def o400v0 (P : Params) : Obj := ⟨(.type "frame"),none,(.dict #[⟨(PySem.PyData.keyHash P (.ofString "_cls")),(.str (.ofString "_cls") 762),(.ref 322)⟩,⟨(PySem.PyData.keyHash P (.ofString "seconds")),(.str (.ofString "seconds") 763),(.int 60 759)⟩,⟨(PySem.PyData.keyHash P (.ofString "name")),(.str (.ofString "name") 764),(.str (.ofString "minute") 760)⟩] 3),#[]⟩
noncomputable def o401v0 (P : Params) : Obj := ⟨(.type "tuple"),none,(.seq #[(.int 60 759),(.str (.ofString "minute") 760)] 0),#[]⟩
noncomputable def o402v0 (P : Params) : Obj := ⟨(.type "list"),none,(.seq #[(.int 60 759),(.str (.ofString "minute") 760)] 1),#[]⟩
noncomputable def o403v0 (P : Params) : Obj := ⟨(.type "dict"),none,(.dict #[] 0),#[]⟩
noncomputable def o404v0 (P : Params) : Obj := ⟨(.ref 322),(some 403),(.seq #[(.int 60 759),(.str (.ofString "minute") 760)] 0),#[]⟩
noncomputable def o405v0 (P : Params) : Obj := ⟨(.type "tuple"),none,(.seq #[] 0),#[]⟩
noncomputable def o406v0 (P : Params) : Obj := ⟨(.type "dict"),none,(.dict #[⟨(PySem.PyData.keyHash P (.ofString "__module__")),(.str (.ofString "__module__") 751),(.str (.ofString "limits.limits") 464)⟩,⟨(PySem.PyData.keyHash P (.ofString "__firstlineno__")),(.str (.ofString "__firstlineno__") 755),(.int 235 754)⟩,⟨(PySem.PyData.keyHash P (.ofString "__doc__")),(.str (.ofString "__doc__") 757),(.str (dS (nth (sBody (nth progB 14)) 0)) 756)⟩,⟨(PySem.PyData.keyHash P (.ofString "GRANULARITY")),(.str (.ofString "GRANULARITY") 767),(.ref 404)⟩,⟨(PySem.PyData.keyHash P (.ofString "__static_attributes__")),(.str (.ofString "__static_attributes__") 769),(.ref 405)⟩] 1),#[]⟩
noncomputable def o407v0 (P : Params) : Obj := ⟨(.type "type"),none,(.cls ⟨(.ofString "RateLimitItemPerMinute"),[(.ref 388)],[(.ref 407),(.ref 388),(.type "object")],406,(.ofString "RateLimitItemPerMinute"),true,[],[],false,none,false⟩),#[(some (.ref 393)),none,(some (.str (.ofString "RateLimitItemPerMinute") 744)),(some (.str (.ofString "RateLimitItemPerMinute") 752)),(some (.builtin "object.__new__")),(some (.bool true))]⟩
noncomputable def o408v0 (P : Params) : Obj := ⟨(.type "super"),none,(.fields #[(.ref 407),(.ref 407),(.ref 407)]),#[]⟩
noncomputable def o409v0 (P : Params) : Obj := ⟨(.type "builtin_function_or_method"),none,(.fields #[(.builtin "object.__init_subclass__"),(.ref 407)]),#[]⟩
noncomputable def tr5 (P : Params) : BT := (.node (PySem.W.boot_o_0 P) (.node (PySem.W.boot_o_1 P) (.node (o3v5 P) (.node (PySem.W.boot_o_7 P) (.node (o15v0 P) (.node (o31v0 P) (.node (o63v0 P) (.node (o127v0 P) (.node (o255v0 P) .nil .nil) (.node (o383v0 P) .nil .nil)) (.node (o191v0 P) (.node (o319v0 P) .nil .nil) .nil)) (.node (o95v0 P) (.node (o159v0 P) (.node (o287v0 P) .nil .nil) .nil) (.node (o223v0 P) (.node (o351v0 P) .nil .nil) .nil))) (.node (o47v0 P) (.node (o79v0 P) (.node (o143v0 P) (.node (o271v0 P) .nil .nil) (.node (o399v0 P) .nil .nil)) (.node (o207v0 P) (.node (o335v0 P) .nil .nil) .nil)) (.node (o111v0 P) (.node (o175v0 P) (.node (o303v0 P) .nil .nil) .nil) (.node (o239v0 P) (.node (o367v0 P) .nil .nil) .nil)))) (.node (o23v0 P) (.node (o39v0 P) (.node (o71v0 P) (.node (o135v0 P) (.node (o263v0 P) .nil .nil) (.node (o391v0 P) .nil .nil)) (.node (o199v0 P) (.node (o327v0 P) .nil .nil) .nil)) (.node (o103v0 P) (.node (o167v0 P) (.node (o295v0 P) .nil .nil) .nil) (.node (o231v0 P) (.node (o359v0 P) .nil .nil) .nil))) (.node (o55v0 P) (.node (o87v0 P) (.node (o151v0 P) (.node (o279v0 P) .nil .nil) (.node (o407v0 P) .nil .nil)) (.node (o215v0 P) (.node (o343v0 P) .nil .nil) .nil)) (.node (o119v0 P) (.node (o183v0 P) (.node (o311v0 P) .nil .nil) .nil) (.node (o247v0 P) (.node (o375v0 P) .nil .nil) .nil))))) (.node (o11v0 P) (.node (o19v0 P) (.node (o35v0 P) (.node (o67v0 P) (.node (o131v0 P) (.node (o259v0 P) .nil .nil) (.node (o387v0 P) .nil .nil)) (.node (o195v0 P) (.node (o323v0 P) .nil .nil) .nil)) (.node (o99v0 P) (.node (o163v0 P) (.node (o291v0 P) .nil .nil) .nil) (.node (o227v0 P) (.node (o355v0 P) .nil .nil) .nil))) (.node (o51v0 P) (.node (o83v0 P) (.node (o147v0 P) (.node (o275v0 P) .nil .nil) (.node (o403v0 P) .nil .nil)) (.node (o211v0 P) (.node (o339v0 P) .nil .nil) .nil)) (.node (o115v0 P) (.node (o179v0 P) (.node (o307v0 P) .nil .nil) .nil) (.node (o243v0 P) (.node (o371v0 P) .nil .nil) .nil)))) (.node (o27v0 P) (.node (o43v0 P) (.node (o75v0 P) (.node (o139v0 P) (.node (o267v0 P) .nil .nil) (.node (o395v0 P) .nil .nil)) (.node (o203v0 P) (.node (o331v0 P) .nil .nil) .nil)) (.node (o107v0 P) (.node (o171v0 P) (.node (o299v0 P) .nil .nil) .nil) (.node (o235v0 P) (.node (o363v0 P) .nil .nil) .nil))) (.node (o59v0 P) (.node (o91v0 P) (.node (o155v0 P) (.node (o283v0 P) .nil .nil) .nil) (.node (o219v0 P) (.node (o347v0 P) .nil .nil) .nil)) (.node (o123v0 P) (.node (o187v0 P) (.node (o315v0 P) .nil .nil) .nil) (.node (o251v0 P) (.node (o379v0 P) .nil .nil) .nil)))))) (.node (PySem.W.boot_o_5 P) (.node (PySem.W.boot_o_9 P) (.node (o17v0 P) (.node (o33v0 P) (.node (o65v0 P) (.node (o129v0 P) (.node (o257v0 P) .nil .nil) (.node (o385v0 P) .nil .nil)) (.node (o193v0 P) (.node (o321v0 P) .nil .nil) .nil)) (.node (o97v0 P) (.node (o161v0 P) (.node (o289v0 P) .nil .nil) .nil) (.node (o225v0 P) (.node (o353v0 P) .nil .nil) .nil))) (.node (o49v0 P) (.node (o81v0 P) (.node (o145v0 P) (.node (o273v0 P) .nil .nil) (.node (o401v0 P) .nil .nil)) (.node (o209v0 P) (.node (o337v0 P) .nil .nil) .nil)) (.node (o113v0 P) (.node (o177v0 P) (.node (o305v0 P) .nil .nil) .nil) (.node (o241v0 P) (.node (o369v0 P) .nil .nil) .nil)))) (.node (o25v0 P) (.node (o41v0 P) (.node (o73v0 P) (.node (o137v0 P) (.node (o265v0 P) .nil .nil) (.node (o393v0 P) .nil .nil)) (.node (o201v0 P) (.node (o329v0 P) .nil .nil) .nil)) (.node (o105v0 P) (.node (o169v0 P) (.node (o297v0 P) .nil .nil) .nil) (.node (o233v0 P) (.node (o361v0 P) .nil .nil) .nil))) (.node (o57v0 P) (.node (o89v0 P) (.node (o153v0 P) (.node (o281v0 P) .nil .nil) (.node (o409v0 P) .nil .nil)) (.node (o217v0 P) (.node (o345v0 P) .nil .nil) .nil)) (.node (o121v0 P) (.node (o185v0 P) (.node (o313v0 P) .nil .nil) .nil) (.node (o249v0 P) (.node (o377v0 P) .nil .nil) .nil))))) (.node (o13v0 P) (.node (o21v0 P) (.node (o37v0 P) (.node (o69v0 P) (.node (o133v0 P) (.node (o261v0 P) .nil .nil) (.node (o389v0 P) .nil .nil)) (.node (o197v0 P) (.node (o325v0 P) .nil .nil) .nil)) (.node (o101v0 P) (.node (o165v0 P) (.node (o293v0 P) .nil .nil) .nil) (.node (o229v0 P) (.node (o357v0 P) .nil .nil) .nil))) (.node (o53v0 P) (.node (o85v0 P) (.node (o149v0 P) (.node (o277v0 P) .nil .nil) (.node (o405v0 P) .nil .nil)) (.node (o213v0 P) (.node (o341v0 P) .nil .nil) .nil)) (.node (o117v0 P) (.node (o181v0 P) (.node (o309v0 P) .nil .nil) .nil) (.node (o245v0 P) (.node (o373v0 P) .nil .nil) .nil)))) (.node (o29v0 P) (.node (o45v0 P) (.node (o77v0 P) (.node (o141v0 P) (.node (o269v0 P) .nil .nil) (.node (o397v0 P) .nil .nil)) (.node (o205v0 P) (.node (o333v0 P) .nil .nil) .nil)) (.node (o109v0 P) (.node (o173v0 P) (.node (o301v0 P) .nil .nil) .nil) (.node (o237v0 P) (.node (o365v0 P) .nil .nil) .nil))) (.node (o61v0 P) (.node (o93v0 P) (.node (o157v0 P) (.node (o285v0 P) .nil .nil) .nil) (.node (o221v0 P) (.node (o349v0 P) .nil .nil) .nil)) (.node (o125v0 P) (.node (o189v0 P) (.node (o317v0 P) .nil .nil) .nil) (.node (o253v0 P) (.node (o381v0 P) .nil .nil) .nil))))))) (.node (PySem.W.boot_o_2 P) (.node (PySem.W.boot_o_4 P) (.node (PySem.W.boot_o_8 P) (.node (o16v0 P) (.node (o32v0 P) (.node (o64v0 P) (.node (o128v0 P) (.node (o256v0 P) .nil .nil) (.node (o384v0 P) .nil .nil)) (.node (o192v0 P) (.node (o320v0 P) .nil .nil) .nil)) (.node (o96v0 P) (.node (o160v0 P) (.node (o288v0 P) .nil .nil) .nil) (.node (o224v0 P) (.node (o352v0 P) .nil .nil) .nil))) (.node (o48v0 P) (.node (o80v0 P) (.node (o144v0 P) (.node (o272v0 P) .nil .nil) (.node (o400v0 P) .nil .nil)) (.node (o208v0 P) (.node (o336v0 P) .nil .nil) .nil)) (.node (o112v0 P) (.node (o176v0 P) (.node (o304v0 P) .nil .nil) .nil) (.node (o240v0 P) (.node (o368v0 P) .nil .nil) .nil)))) (.node (o24v0 P) (.node (o40v0 P) (.node (o72v0 P) (.node (o136v0 P) (.node (o264v0 P) .nil .nil) (.node (o392v0 P) .nil .nil)) (.node (o200v0 P) (.node (o328v0 P) .nil .nil) .nil)) (.node (o104v0 P) (.node (o168v0 P) (.node (o296v0 P) .nil .nil) .nil) (.node (o232v0 P) (.node (o360v0 P) .nil .nil) .nil))) (.node (o56v0 P) (.node (o88v0 P) (.node (o152v0 P) (.node (o280v0 P) .nil .nil) (.node (o408v0 P) .nil .nil)) (.node (o216v0 P) (.node (o344v0 P) .nil .nil) .nil)) (.node (o120v0 P) (.node (o184v0 P) (.node (o312v0 P) .nil .nil) .nil) (.node (o248v0 P) (.node (o376v0 P) .nil .nil) .nil))))) (.node (o12v5 P) (.node (o20v0 P) (.node (o36v0 P) (.node (o68v0 P) (.node (o132v0 P) (.node (o260v0 P) .nil .nil) (.node (o388v0 P) .nil .nil)) (.node (o196v0 P) (.node (o324v0 P) .nil .nil) .nil)) (.node (o100v0 P) (.node (o164v0 P) (.node (o292v0 P) .nil .nil) .nil) (.node (o228v0 P) (.node (o356v0 P) .nil .nil) .nil))) (.node (o52v0 P) (.node (o84v0 P) (.node (o148v0 P) (.node (o276v0 P) .nil .nil) (.node (o404v0 P) .nil .nil)) (.node (o212v0 P) (.node (o340v0 P) .nil .nil) .nil)) (.node (o116v0 P) (.node (o180v0 P) (.node (o308v0 P) .nil .nil) .nil) (.node (o244v0 P) (.node (o372v0 P) .nil .nil) .nil)))) (.node (o28v0 P) (.node (o44v0 P) (.node (o76v0 P) (.node (o140v0 P) (.node (o268v0 P) .nil .nil) (.node (o396v0 P) .nil .nil)) (.node (o204v0 P) (.node (o332v0 P) .nil .nil) .nil)) (.node (o108v0 P) (.node (o172v0 P) (.node (o300v0 P) .nil .nil) .nil) (.node (o236v0 P) (.node (o364v0 P) .nil .nil) .nil))) (.node (o60v0 P) (.node (o92v0 P) (.node (o156v0 P) (.node (o284v0 P) .nil .nil) .nil) (.node (o220v0 P) (.node (o348v0 P) .nil .nil) .nil)) (.node (o124v0 P) (.node (o188v0 P) (.node (o316v0 P) .nil .nil) .nil) (.node (o252v0 P) (.node (o380v0 P) .nil .nil) .nil)))))) (.node (PySem.W.boot_o_6 P) (.node (PySem.W.boot_o_10 P) (.node (o18v0 P) (.node (o34v0 P) (.node (o66v0 P) (.node (o130v0 P) (.node (o258v0 P) .nil .nil) (.node (o386v0 P) .nil .nil)) (.node (o194v0 P) (.node (o322v0 P) .nil .nil) .nil)) (.node (o98v0 P) (.node (o162v0 P) (.node (o290v0 P) .nil .nil) .nil) (.node (o226v0 P) (.node (o354v0 P) .nil .nil) .nil))) (.node (o50v0 P) (.node (o82v0 P) (.node (o146v0 P) (.node (o274v0 P) .nil .nil) (.node (o402v0 P) .nil .nil)) (.node (o210v0 P) (.node (o338v0 P) .nil .nil) .nil)) (.node (o114v0 P) (.node (o178v0 P) (.node (o306v0 P) .nil .nil) .nil) (.node (o242v0 P) (.node (o370v0 P) .nil .nil) .nil)))) (.node (o26v0 P) (.node (o42v0 P) (.node (o74v0 P) (.node (o138v0 P) (.node (o266v0 P) .nil .nil) (.node (o394v0 P) .nil .nil)) (.node (o202v0 P) (.node (o330v0 P) .nil .nil) .nil)) (.node (o106v0 P) (.node (o170v0 P) (.node (o298v0 P) .nil .nil) .nil) (.node (o234v0 P) (.node (o362v0 P) .nil .nil) .nil))) (.node (o58v0 P) (.node (o90v0 P) (.node (o154v0 P) (.node (o282v0 P) .nil .nil) .nil) (.node (o218v0 P) (.node (o346v0 P) .nil .nil) .nil)) (.node (o122v0 P) (.node (o186v0 P) (.node (o314v0 P) .nil .nil) .nil) (.node (o250v0 P) (.node (o378v0 P) .nil .nil) .nil))))) (.node (o14v0 P) (.node (o22v0 P) (.node (o38v0 P) (.node (o70v0 P) (.node (o134v0 P) (.node (o262v0 P) .nil .nil) (.node (o390v0 P) .nil .nil)) (.node (o198v0 P) (.node (o326v0 P) .nil .nil) .nil)) (.node (o102v0 P) (.node (o166v0 P) (.node (o294v0 P) .nil .nil) .nil) (.node (o230v0 P) (.node (o358v0 P) .nil .nil) .nil))) (.node (o54v0 P) (.node (o86v0 P) (.node (o150v0 P) (.node (o278v0 P) .nil .nil) (.node (o406v0 P) .nil .nil)) (.node (o214v0 P) (.node (o342v0 P) .nil .nil) .nil)) (.node (o118v0 P) (.node (o182v0 P) (.node (o310v0 P) .nil .nil) .nil) (.node (o246v0 P) (.node (o374v0 P) .nil .nil) .nil)))) (.node (o30v0 P) (.node (o46v0 P) (.node (o78v0 P) (.node (o142v0 P) (.node (o270v0 P) .nil .nil) (.node (o398v0 P) .nil .nil)) (.node (o206v0 P) (.node (o334v0 P) .nil .nil) .nil)) (.node (o110v0 P) (.node (o174v0 P) (.node (o302v0 P) .nil .nil) .nil) (.node (o238v0 P) (.node (o366v0 P) .nil .nil) .nil))) (.node (o62v0 P) (.node (o94v0 P) (.node (o158v0 P) (.node (o286v0 P) .nil .nil) .nil) (.node (o222v0 P) (.node (o350v0 P) .nil .nil) .nil)) (.node (o126v0 P) (.node (o190v0 P) (.node (o318v0 P) .nil .nil) .nil) (.node (o254v0 P) (.node (o382v0 P) .nil .nil) .nil))))))))
noncomputable def o3v6 (P : Params) : Obj := ⟨(.type "dict"),none,(.dict #[⟨(PySem.PyData.keyHash P (.ofString "__name__")),(.str (.ofString "__name__") 165),(.str (.ofString "limits.storage.memory") 846)⟩,⟨(PySem.PyData.keyHash P (.ofString "__doc__")),(.str (.ofString "__doc__") 166),.none⟩,⟨(PySem.PyData.keyHash P (.ofString "__package__")),(.str (.ofString "__package__") 167),.none⟩,⟨(PySem.PyData.keyHash P (.ofString "__loader__")),(.str (.ofString "__loader__") 168),(.builtin "__main__.__loader__#opaque")⟩,⟨(PySem.PyData.keyHash P (.ofString "__spec__")),(.str (.ofString "__spec__") 169),.none⟩,⟨(PySem.PyData.keyHash P (.ofString "__annotations__")),(.str (.ofString "__annotations__") 170),(.ref 6)⟩,⟨(PySem.PyData.keyHash P (.ofString "__builtins__")),(.str (.ofString "__builtins__") 171),(.ref 4)⟩,⟨(PySem.PyData.keyHash P (.ofString "__file__")),(.str (.ofString "__file__") 173),(.str (.ofString "/claim/cut.py") 172)⟩,⟨(PySem.PyData.keyHash P (.ofString "__cached__")),(.str (.ofString "__cached__") 174),.none⟩,⟨(PySem.PyData.keyHash P (.ofString "_wall")),(.str (.ofString "_wall") 193),(.ref 21)⟩,⟨(PySem.PyData.keyHash P (.ofString "_tuplegetter")),(.str (.ofString "_tuplegetter") 252),(.ref 243)⟩,⟨(PySem.PyData.keyHash P (.ofString "tuplegetter_util")),(.str (.ofString "tuplegetter_util") 253),(.ref 60)⟩,⟨(PySem.PyData.keyHash P (.ofString "WindowStats")),(.str (.ofString "WindowStats") 368),(.ref 132)⟩,⟨(PySem.PyData.keyHash P (.ofString "RateLimiter")),(.str (.ofString "RateLimiter") 408),(.ref 161)⟩,⟨(PySem.PyData.keyHash P (.ofString "MovingWindowRateLimiter")),(.str (.ofString "MovingWindowRateLimiter") 463),(.ref 202)⟩,⟨(PySem.PyData.keyHash P (.ofString "tuplegetter_limits")),(.str (.ofString "tuplegetter_limits") 523),(.ref 243)⟩,⟨(PySem.PyData.keyHash P (.ofString "safe_string")),(.str (.ofString "safe_string") 531),(.ref 254)⟩,⟨(PySem.PyData.keyHash P (.ofString "Granularity")),(.str (.ofString "Granularity") 646),(.ref 322)⟩,⟨(PySem.PyData.keyHash P (.ofString "RateLimitItem")),(.str (.ofString "RateLimitItem") 743),(.ref 388)⟩,⟨(PySem.PyData.keyHash P (.ofString "RateLimitItemPerMinute")),(.str (.ofString "RateLimitItemPerMinute") 771),(.ref 407)⟩,⟨(PySem.PyData.keyHash P (.ofString "RateLimitItemPerSecond")),(.str (.ofString "RateLimitItemPerSecond") 799),(.ref 424)⟩,⟨(PySem.PyData.keyHash P (.ofString "TimestampedSlidingWindow")),(.str (.ofString "TimestampedSlidingWindow") 845),(.ref 446)⟩,⟨(PySem.PyData.keyHash P (.ofString "bisect_left")),(.str (.ofString "bisect_left") 860),(.ref 457)⟩,⟨(PySem.PyData.keyHash P (.ofString "Entry")),(.str (.ofString "Entry") 891),(.ref 474)⟩] 24),#[]⟩
noncomputable def o12v6 (P : Params) : Obj := ⟨.none,none,(.fields #[(.int 1 0),(.int 0 0),(.ref 20),(.int 5 0),(.int 0 0),(.ref 27),(.int 24 0),(.int 0 0),(.ref 71),(.int 67 0),(.int 0 0),(.ref 141),(.int 74 0),(.int 0 0),(.ref 171),(.int 118 0),(.int 0 0),(.ref 210),(.int 137 0),(.int 0 0),(.ref 253),(.int 144 0),(.int 0 0),(.ref 261),(.int 186 0),(.int 0 0),(.ref 331),(.int 235 0),(.int 0 0),(.ref 398),(.int 241 0),(.int 0 0),(.ref 415),(.int 248 0),(.int 0 0),(.ref 432),(.int 255 0),(.int 0 0),(.ref 456),(.int 266 0),(.int 0 0),(.ref 463)]),#[]⟩
noncomputable def o388v1 (P : Params) : Obj := ⟨(.type "type"),none,(.cls ⟨(.ofString "RateLimitItem"),[(.type "object")],[(.ref 388),(.type "object")],387,(.ofString "RateLimitItem"),true,[],[(.ref 407),(.ref 424)],false,none,false⟩),#[none,none,(some (.str (.ofString "RateLimitItem") 647)),(some (.str (.ofString "RateLimitItem") 655)),(some (.builtin "object.__new__")),(some (.bool true))]⟩
noncomputable def o410v0 (P : Params) : Obj := ⟨(.type "tuple"),none,(.seq #[(.ref 388)] 0),#[]⟩
noncomputable def o411v0 (P : Params) : Obj := ⟨(.type "builtin_function_or_method"),none,(.fields #[(.builtin "type.__prepare__"),(.type "type")]),#[]⟩
noncomputable def o412v0 (P : Params) : Obj := ⟨(.type "dict"),none,(.dict #[⟨(PySem.PyData.keyHash P (.ofString "__module__")),(.str (.ofString "__module__") 779),(.str (.ofString "limits.limits") 464)⟩,⟨(PySem.PyData.keyHash P (.ofString "__qualname__")),(.str (.ofString "__qualname__") 781),(.str (.ofString "RateLimitItemPerSecond") 780)⟩,⟨(PySem.PyData.keyHash P (.ofString "__firstlineno__")),(.str (.ofString "__firstlineno__") 783),(.int 241 782)⟩,⟨(PySem.PyData.keyHash P (.ofString "__doc__")),(.str (.ofString "__doc__") 785),(.str (dS (nth (sBody (nth progB 15)) 0)) 784)⟩,⟨(PySem.PyData.keyHash P (.ofString "GRANULARITY")),(.str (.ofString "GRANULARITY") 795),(.ref 421)⟩,⟨(PySem.PyData.keyHash P (.ofString "__static_attributes__")),(.str (.ofString "__static_attributes__") 797),(.ref 422)⟩] 6),#[]⟩
noncomputable def o413v0 (P : Params) : Obj := ⟨(.type "tuple"),none,(.seq #[] 0),#[]⟩
noncomputable def o414v0 (P : Params) : Obj := ⟨.none,none,(.fields #[]),#[]⟩
noncomputable def o415v0 (P : Params) : Obj := ⟨(.type "code"),none,(.fields #[(.str (.ofString "RateLimitItemPerSecond") 774),(.str (.ofString "RateLimitItemPerSecond") 775),(.str (.ofString "/claim/cut.py") 776),(.int 241 0),(.int 0 0),(.int 0 0),(.int 0 0),(.int 0 0),(.ref 413),(.bool false),(.int 181 0),(.ref 414),.none,.none,.none,.none,(.int 777 0),(.int 241 0),(.str (.ofString "/claim/cut.py") 778)]),#[]⟩
noncomputable def o416v0 (P : Params) : Obj := ⟨(.type "frame"),none,.plain,#[(some (.ref 415)),(some (.ref 3)),(some (.ref 412)),none,(some (.str (.ofString "limits.limits") 464)),none,(some (.ref 0))]⟩
noncomputable def o417v0 (P : Params) : Obj := ⟨(.type "frame"),none,(.dict #[⟨(PySem.PyData.keyHash P (.ofString "_cls")),(.str (.ofString "_cls") 790),(.ref 322)⟩,⟨(PySem.PyData.keyHash P (.ofString "seconds")),(.str (.ofString "seconds") 791),(.int 1 787)⟩,⟨(PySem.PyData.keyHash P (.ofString "name")),(.str (.ofString "name") 792),(.str (.ofString "second") 788)⟩] 3),#[]⟩
noncomputable def o418v0 (P : Params) : Obj := ⟨(.type "tuple"),none,(.seq #[(.int 1 787),(.str (.ofString "second") 788)] 0),#[]⟩
noncomputable def o419v0 (P : Params) : Obj := ⟨(.type "list"),none,(.seq #[(.int 1 787),(.str (.ofString "second") 788)] 1),#[]⟩
noncomputable def o420v0 (P : Params) : Obj := ⟨(.type "dict"),none,(.dict #[] 0),#[]⟩
noncomputable def o421v0 (P : Params) : Obj := ⟨(.ref 322),(some 420),(.seq #[(.int 1 787),(.str (.ofString "second") 788)] 0),#[]⟩
noncomputable def o422v0 (P : Params) : Obj := ⟨(.type "tuple"),none,(.seq #[] 0),#[]⟩
noncomputable def o423v0 (P : Params) : Obj := ⟨(.type "dict"),none,(.dict #[⟨(PySem.PyData.keyHash P (.ofString "__module__")),(.str (.ofString "__module__") 779),(.str (.ofString "limits.limits") 464)⟩,⟨(PySem.PyData.keyHash P (.ofString "__firstlineno__")),(.str (.ofString "__firstlineno__") 783),(.int 241 782)⟩,⟨(PySem.PyData.keyHash P (.ofString "__doc__")),(.str (.ofString "__doc__") 785),(.str (dS (nth (sBody (nth progB 15)) 0)) 784)⟩,⟨(PySem.PyData.keyHash P (.ofString "GRANULARITY")),(.str (.ofString "GRANULARITY") 795),(.ref 421)⟩,⟨(PySem.PyData.keyHash P (.ofString "__static_attributes__")),(.str (.ofString "__static_attributes__") 797),(.ref 422)⟩] 1),#[]⟩
noncomputable def o424v0 (P : Params) : Obj := ⟨(.type "type"),none,(.cls ⟨(.ofString "RateLimitItemPerSecond"),[(.ref 388)],[(.ref 424),(.ref 388),(.type "object")],423,(.ofString "RateLimitItemPerSecond"),true,[],[],false,none,false⟩),#[(some (.ref 410)),none,(some (.str (.ofString "RateLimitItemPerSecond") 772)),(some (.str (.ofString "RateLimitItemPerSecond") 780)),(some (.builtin "object.__new__")),(some (.bool true))]⟩
noncomputable def o425v0 (P : Params) : Obj := ⟨(.type "super"),none,(.fields #[(.ref 424),(.ref 424),(.ref 424)]),#[]⟩
noncomputable def o426v0 (P : Params) : Obj := ⟨(.type "builtin_function_or_method"),none,(.fields #[(.builtin "object.__init_subclass__"),(.ref 424)]),#[]⟩
noncomputable def o427v0 (P : Params) : Obj := ⟨(.type "tuple"),none,(.seq #[] 0),#[]⟩
noncomputable def o428v0 (P : Params) : Obj := ⟨(.type "builtin_function_or_method"),none,(.fields #[(.builtin "type.__prepare__"),(.type "type")]),#[]⟩
noncomputable def o429v0 (P : Params) : Obj := ⟨(.type "dict"),none,(.dict #[⟨(PySem.PyData.keyHash P (.ofString "__module__")),(.str (.ofString "__module__") 809),(.str (.ofString "limits.storage.base") 800)⟩,⟨(PySem.PyData.keyHash P (.ofString "__qualname__")),(.str (.ofString "__qualname__") 811),(.str (.ofString "TimestampedSlidingWindow") 810)⟩,⟨(PySem.PyData.keyHash P (.ofString "__firstlineno__")),(.str (.ofString "__firstlineno__") 813),(.int 248 812)⟩,⟨(PySem.PyData.keyHash P (.ofString "__doc__")),(.str (.ofString "__doc__") 815),(.str (dS (nth (sBody (nth progB 17)) 0)) 814)⟩,⟨(PySem.PyData.keyHash P (.ofString "sliding_window_keys")),(.str (.ofString "sliding_window_keys") 838),(.ref 442)⟩,⟨(PySem.PyData.keyHash P (.ofString "__static_attributes__")),(.str (.ofString "__static_attributes__") 839),(.ref 444)⟩] 6),#[]⟩
noncomputable def o430v0 (P : Params) : Obj := ⟨(.type "tuple"),none,(.seq #[] 0),#[]⟩
noncomputable def o431v0 (P : Params) : Obj := ⟨.none,none,(.fields #[(.int 252 0),(.int 4 0),(.ref 439)]),#[]⟩
noncomputable def o432v0 (P : Params) : Obj := ⟨(.type "code"),none,(.fields #[(.str (.ofString "TimestampedSlidingWindow") 804),(.str (.ofString "TimestampedSlidingWindow") 805),(.str (.ofString "/claim/cut.py") 806),(.int 248 0),(.int 0 0),(.int 0 0),(.int 0 0),(.int 0 0),(.ref 430),(.bool false),(.int 181 0),(.ref 431),.none,.none,.none,.none,(.int 807 0),(.int 248 0),(.str (.ofString "/claim/cut.py") 808)]),#[]⟩
noncomputable def o433v0 (P : Params) : Obj := ⟨(.type "frame"),none,.plain,#[(some (.ref 432)),(some (.ref 3)),(some (.ref 429)),none,(some (.str (.ofString "limits.storage.base") 800)),none,(some (.ref 0))]⟩
noncomputable def o434v0 (P : Params) : Obj := ⟨(.type "tuple"),none,(.seq #[] 0),#[]⟩
noncomputable def o435v0 (P : Params) : Obj := ⟨.none,none,(.fields #[]),#[]⟩
noncomputable def o436v0 (P : Params) : Obj := ⟨(.type "tuple"),none,(.seq #[(.str (.ofString "cls") 820),(.str (.ofString "key") 821),(.str (.ofString "expiry") 822),(.str (.ofString "at") 823)] 0),#[]⟩
noncomputable def o437v0 (P : Params) : Obj := ⟨(.type "tuple"),none,(.seq #[] 0),#[]⟩
noncomputable def o438v0 : Params → Obj := by
  refine' (?f : (b : List Stmt) → b = sBody (nth (sBody (nth progB 17)) 1) → (a : Arguments) → a = sArgs (nth (sBody (nth progB 17)) 1) → (c : Scope) → c = sScope (nth (sBody (nth progB 17)) 1) → Params → Obj) _ ?h1 _ ?h2 _ ?h3
  case f => exact fun b _ a _ c _ P => ⟨.none,none,(.func ⟨(.ofString "sliding_window_keys"),(.ofString "TimestampedSlidingWindow.sliding_window_keys"),a,(.stmts b),c,0,[],.none,.none,.none,.none,none,.none,.none,0⟩),#[]⟩
  case h1 => conv => rhs; whnf
  case h2 => conv => rhs; whnf
  case h3 => conv => rhs; whnf
noncomputable def o439v0 (P : Params) : Obj := ⟨(.type "code"),none,(.fields #[(.str (.ofString "sliding_window_keys") 817),(.str (.ofString "TimestampedSlidingWindow.sliding_window_keys") 818),(.str (.ofString "/claim/cut.py") 819),(.int 251 0),(.int 4 0),(.int 0 0),(.int 0 0),(.int 3 0),(.ref 434),(.bool true),(.int 181 0),(.ref 435),.none,(.ref 436),(.ref 437),(.ref 438),(.int 824 0),(.int 251 0),(.str (.ofString "/claim/cut.py") 825)]),#[]⟩
noncomputable def o440v0 : Params → Obj := by
  refine' (?f : (b : List Stmt) → b = sBody (nth (sBody (nth progB 17)) 1) → (a : Arguments) → a = sArgs (nth (sBody (nth progB 17)) 1) → (c : Scope) → c = sScope (nth (sBody (nth progB 17)) 1) → Params → Obj) _ ?h1 _ ?h2 _ ?h3
  case f => exact fun b _ a _ c _ P => ⟨(.type "function"),none,(.func ⟨(.ofString "sliding_window_keys"),(.ofString "TimestampedSlidingWindow.sliding_window_keys"),a,(.stmts b),c,3,[],.none,.none,.none,(.str (.ofString "limits.storage.base") 800),(some 443),(.ref 439),.none,0⟩),#[]⟩
  case h1 => conv => rhs; whnf
  case h2 => conv => rhs; whnf
  case h3 => conv => rhs; whnf
noncomputable def o441v0 (P : Params) : Obj := ⟨(.type "dict"),none,(.dict #[⟨(PySem.PyData.keyHash P (.ofString "__module__")),(.str (.ofString "__module__") 827),(.str (.ofString "limits.storage.base") 800)⟩,⟨(PySem.PyData.keyHash P (.ofString "__name__")),(.str (.ofString "__name__") 830),(.str (.ofString "sliding_window_keys") 829)⟩,⟨(PySem.PyData.keyHash P (.ofString "__qualname__")),(.str (.ofString "__qualname__") 833),(.str (.ofString "TimestampedSlidingWindow.sliding_window_keys") 832)⟩,⟨(PySem.PyData.keyHash P (.ofString "__doc__")),(.str (.ofString "__doc__") 835),.none⟩,⟨(PySem.PyData.keyHash P (.ofString "__annotations__")),(.str (.ofString "__annotations__") 837),(.ref 443)⟩] 5),#[]⟩
noncomputable def o442v0 (P : Params) : Obj := ⟨(.type "classmethod"),(some 441),(.fields #[(.ref 440),(.bool false)]),#[]⟩
noncomputable def o443v0 (P : Params) : Obj := ⟨(.type "dict"),none,(.dict #[] 0),#[]⟩
noncomputable def o444v0 (P : Params) : Obj := ⟨(.type "tuple"),none,(.seq #[] 0),#[]⟩
noncomputable def o445v0 (P : Params) : Obj := ⟨(.type "dict"),none,(.dict #[⟨(PySem.PyData.keyHash P (.ofString "__module__")),(.str (.ofString "__module__") 809),(.str (.ofString "limits.storage.base") 800)⟩,⟨(PySem.PyData.keyHash P (.ofString "__firstlineno__")),(.str (.ofString "__firstlineno__") 813),(.int 248 812)⟩,⟨(PySem.PyData.keyHash P (.ofString "__doc__")),(.str (.ofString "__doc__") 815),(.str (dS (nth (sBody (nth progB 17)) 0)) 814)⟩,⟨(PySem.PyData.keyHash P (.ofString "sliding_window_keys")),(.str (.ofString "sliding_window_keys") 838),(.ref 442)⟩,⟨(PySem.PyData.keyHash P (.ofString "__static_attributes__")),(.str (.ofString "__static_attributes__") 839),(.ref 444)⟩,⟨(PySem.PyData.keyHash P (.ofString "__dict__")),(.str (.ofString "__dict__") 841),(.ref 447)⟩,⟨(PySem.PyData.keyHash P (.ofString "__weakref__")),(.str (.ofString "__weakref__") 843),(.ref 448)⟩] 3),#[]⟩
noncomputable def o446v0 (P : Params) : Obj := ⟨(.type "type"),none,(.cls ⟨(.ofString "TimestampedSlidingWindow"),[(.type "object")],[(.ref 446),(.type "object")],445,(.ofString "TimestampedSlidingWindow"),true,[],[],false,none,false⟩),#[none,none,(some (.str (.ofString "TimestampedSlidingWindow") 802)),(some (.str (.ofString "TimestampedSlidingWindow") 810)),(some (.builtin "object.__new__")),(some (.bool true))]⟩
noncomputable def o447v0 (P : Params) : Obj := ⟨(.type "getset_descriptor"),none,(.fields #[(.str (.ofString "__dict__") 840),(.ref 446),(.builtin "function.__dict__"),(.builtin "function.__dict__#set")]),#[]⟩
noncomputable def o448v0 (P : Params) : Obj := ⟨(.type "getset_descriptor"),none,(.fields #[(.str (.ofString "__weakref__") 842),(.ref 446),(.builtin "ExceptionGroup.__weakref__"),.none]),#[]⟩
noncomputable def o449v0 (P : Params) : Obj := ⟨(.type "super"),none,(.fields #[(.ref 446),(.ref 446),(.ref 446)]),#[]⟩
noncomputable def o450v0 (P : Params) : Obj := ⟨(.type "builtin_function_or_method"),none,(.fields #[(.builtin "object.__init_subclass__"),(.ref 446)]),#[]⟩
noncomputable def o451v0 (P : Params) : Obj := ⟨(.type "tuple"),none,(.seq #[] 0),#[]⟩
noncomputable def o452v0 (P : Params) : Obj := ⟨.none,none,(.fields #[]),#[]⟩
noncomputable def o453v0 (P : Params) : Obj := ⟨(.type "tuple"),none,(.seq #[(.str (.ofString "rows") 851),(.str (.ofString "x") 852),(.str (.ofString "key") 853),(.str (.ofString "lo") 854),(.str (.ofString "hi") 855),(.str (.ofString "mid") 856)] 0),#[]⟩
noncomputable def o454v0 (P : Params) : Obj := ⟨(.type "tuple"),none,(.seq #[] 0),#[]⟩
noncomputable def o455v0 : Params → Obj := by
  refine' (?f : (b : List Stmt) → b = sBody (nth progB 19) → (a : Arguments) → a = sArgs (nth progB 19) → (c : Scope) → c = sScope (nth progB 19) → Params → Obj) _ ?h1 _ ?h2 _ ?h3
  case f => exact fun b _ a _ c _ P => ⟨.none,none,(.func ⟨(.ofString "bisect_left"),(.ofString "bisect_left"),a,(.stmts b),c,0,[],.none,.none,.none,.none,none,.none,.none,0⟩),#[]⟩
  case h1 => conv => rhs; whnf
  case h2 => conv => rhs; whnf
  case h3 => conv => rhs; whnf
noncomputable def o456v0 (P : Params) : Obj := ⟨(.type "code"),none,(.fields #[(.str (.ofString "bisect_left") 848),(.str (.ofString "bisect_left") 849),(.str (.ofString "/claim/cut.py") 850),(.int 255 0),(.int 3 0),(.int 0 0),(.int 0 0),(.int 3 0),(.ref 451),(.bool true),(.int 181 0),(.ref 452),.none,(.ref 453),(.ref 454),(.ref 455),(.int 857 0),(.int 255 0),(.str (.ofString "/claim/cut.py") 858)]),#[]⟩
noncomputable def o457v0 : Params → Obj := by
  refine' (?f : (b : List Stmt) → b = sBody (nth progB 19) → (a : Arguments) → a = sArgs (nth progB 19) → (c : Scope) → c = sScope (nth progB 19) → Params → Obj) _ ?h1 _ ?h2 _ ?h3
  case f => exact fun b _ a _ c _ P => ⟨(.type "function"),none,(.func ⟨(.ofString "bisect_left"),(.ofString "bisect_left"),a,(.stmts b),c,3,[],.none,.none,(.str (dS (nth (sBody (nth progB 19)) 0)) 859),(.str (.ofString "limits.storage.memory") 846),none,(.ref 456),.none,0⟩),#[]⟩
  case h1 => conv => rhs; whnf
  case h2 => conv => rhs; whnf
  case h3 => conv => rhs; whnf
noncomputable def o458v0 (P : Params) : Obj := ⟨(.type "tuple"),none,(.seq #[] 0),#[]⟩
noncomputable def o459v0 (P : Params) : Obj := ⟨(.type "builtin_function_or_method"),none,(.fields #[(.builtin "type.__prepare__"),(.type "type")]),#[]⟩
noncomputable def o460v0 (P : Params) : Obj := ⟨(.type "dict"),none,(.dict #[⟨(PySem.PyData.keyHash P (.ofString "__module__")),(.str (.ofString "__module__") 868),(.str (.ofString "limits.storage.memory") 846)⟩,⟨(PySem.PyData.keyHash P (.ofString "__qualname__")),(.str (.ofString "__qualname__") 870),(.str (.ofString "Entry") 869)⟩,⟨(PySem.PyData.keyHash P (.ofString "__firstlineno__")),(.str (.ofString "__firstlineno__") 872),(.int 266 871)⟩,⟨(PySem.PyData.keyHash P (.ofString "__init__")),(.str (.ofString "__init__") 881),(.ref 471)⟩,⟨(PySem.PyData.keyHash P (.ofString "__static_attributes__")),(.str (.ofString "__static_attributes__") 884),(.ref 472)⟩] 5),#[]⟩
noncomputable def o461v0 (P : Params) : Obj := ⟨(.type "tuple"),none,(.seq #[] 0),#[]⟩
noncomputable def o462v0 (P : Params) : Obj := ⟨.none,none,(.fields #[(.int 268 0),(.int 4 0),(.ref 470)]),#[]⟩
noncomputable def o463v0 (P : Params) : Obj := ⟨(.type "code"),none,(.fields #[(.str (.ofString "Entry") 863),(.str (.ofString "Entry") 864),(.str (.ofString "/claim/cut.py") 865),(.int 266 0),(.int 0 0),(.int 0 0),(.int 0 0),(.int 0 0),(.ref 461),(.bool false),(.int 181 0),(.ref 462),.none,.none,.none,.none,(.int 866 0),(.int 266 0),(.str (.ofString "/claim/cut.py") 867)]),#[]⟩
noncomputable def o464v0 (P : Params) : Obj := ⟨(.type "frame"),none,.plain,#[(some (.ref 463)),(some (.ref 3)),(some (.ref 460)),none,(some (.str (.ofString "limits.storage.memory") 846)),none,(some (.ref 0))]⟩
noncomputable def o465v0 (P : Params) : Obj := ⟨(.type "tuple"),none,(.seq #[] 0),#[]⟩
noncomputable def o466v0 (P : Params) : Obj := ⟨.none,none,(.fields #[]),#[]⟩
noncomputable def o467v0 (P : Params) : Obj := ⟨(.type "tuple"),none,(.seq #[(.str (.ofString "self") 876),(.str (.ofString "expiry") 877),(.str (.ofString "atime") 878)] 0),#[]⟩
noncomputable def o468v0 (P : Params) : Obj := ⟨(.type "tuple"),none,(.seq #[] 0),#[]⟩
noncomputable def o469v0 : Params → Obj := by
  refine' (?f : (b : List Stmt) → b = sBody (nth (sBody (nth progB 20)) 0) → (a : Arguments) → a = sArgs (nth (sBody (nth progB 20)) 0) → (c : Scope) → c = sScope (nth (sBody (nth progB 20)) 0) → Params → Obj) _ ?h1 _ ?h2 _ ?h3
  case f => exact fun b _ a _ c _ P => ⟨.none,none,(.func ⟨(.ofString "__init__"),(.ofString "Entry.__init__"),a,(.stmts b),c,0,[],.none,.none,.none,.none,none,.none,.none,0⟩),#[]⟩
  case h1 => conv => rhs; whnf
  case h2 => conv => rhs; whnf
  case h3 => conv => rhs; whnf
noncomputable def o470v0 (P : Params) : Obj := ⟨(.type "code"),none,(.fields #[(.str (.ofString "__init__") 873),(.str (.ofString "Entry.__init__") 874),(.str (.ofString "/claim/cut.py") 875),(.int 268 0),(.int 3 0),(.int 0 0),(.int 0 0),(.int 3 0),(.ref 465),(.bool true),(.int 181 0),(.ref 466),.none,(.ref 467),(.ref 468),(.ref 469),(.int 879 0),(.int 268 0),(.str (.ofString "/claim/cut.py") 880)]),#[]⟩
noncomputable def o471v0 : Params → Obj := by
  refine' (?f : (b : List Stmt) → b = sBody (nth (sBody (nth progB 20)) 0) → (a : Arguments) → a = sArgs (nth (sBody (nth progB 20)) 0) → (c : Scope) → c = sScope (nth (sBody (nth progB 20)) 0) → Params → Obj) _ ?h1 _ ?h2 _ ?h3
  case f => exact fun b _ a _ c _ P => ⟨(.type "function"),none,(.func ⟨(.ofString "__init__"),(.ofString "Entry.__init__"),a,(.stmts b),c,3,[],.none,.none,.none,(.str (.ofString "limits.storage.memory") 846),none,(.ref 470),.none,0⟩),#[]⟩
  case h1 => conv => rhs; whnf
  case h2 => conv => rhs; whnf
  case h3 => conv => rhs; whnf
noncomputable def o472v0 (P : Params) : Obj := ⟨(.type "tuple"),none,(.seq #[(.str (.ofString "atime") 882),(.str (.ofString "expiry") 883)] 0),#[]⟩
noncomputable def o473v0 (P : Params) : Obj := ⟨(.type "dict"),none,(.dict #[⟨(PySem.PyData.keyHash P (.ofString "__module__")),(.str (.ofString "__module__") 868),(.str (.ofString "limits.storage.memory") 846)⟩,⟨(PySem.PyData.keyHash P (.ofString "__firstlineno__")),(.str (.ofString "__firstlineno__") 872),(.int 266 871)⟩,⟨(PySem.PyData.keyHash P (.ofString "__init__")),(.str (.ofString "__init__") 881),(.ref 471)⟩,⟨(PySem.PyData.keyHash P (.ofString "__static_attributes__")),(.str (.ofString "__static_attributes__") 884),(.ref 472)⟩,⟨(PySem.PyData.keyHash P (.ofString "__dict__")),(.str (.ofString "__dict__") 886),(.ref 475)⟩,⟨(PySem.PyData.keyHash P (.ofString "__weakref__")),(.str (.ofString "__weakref__") 888),(.ref 476)⟩,⟨(PySem.PyData.keyHash P (.ofString "__doc__")),(.str (.ofString "__doc__") 889),.none⟩] 4),#[]⟩
noncomputable def o474v0 (P : Params) : Obj := ⟨(.type "type"),none,(.cls ⟨(.ofString "Entry"),[(.type "object")],[(.ref 474),(.type "object")],473,(.ofString "Entry"),true,[],[],false,none,false⟩),#[none,none,(some (.str (.ofString "Entry") 861)),(some (.str (.ofString "Entry") 869)),(some (.builtin "object.__new__")),(some (.bool true))]⟩
noncomputable def o475v0 (P : Params) : Obj := ⟨(.type "getset_descriptor"),none,(.fields #[(.str (.ofString "__dict__") 885),(.ref 474),(.builtin "function.__dict__"),(.builtin "function.__dict__#set")]),#[]⟩
noncomputable def o476v0 (P : Params) : Obj := ⟨(.type "getset_descriptor"),none,(.fields #[(.str (.ofString "__weakref__") 887),(.ref 474),(.builtin "ExceptionGroup.__weakref__"),.none]),#[]⟩
noncomputable def o477v0 (P : Params) : Obj := ⟨(.type "super"),none,(.fields #[(.ref 474),(.ref 474),(.ref 474)]),#[]⟩
noncomputable def o478v0 (P : Params) : Obj := ⟨(.type "builtin_function_or_method"),none,(.fields #[(.builtin "object.__init_subclass__"),(.ref 474)]),#[]⟩
noncomputable def tr6 (P : Params) : BT := (.node (PySem.W.boot_o_0 P) (.node (PySem.W.boot_o_1 P) (.node (o3v6 P) (.node (PySem.W.boot_o_7 P) (.node (o15v0 P) (.node (o31v0 P) (.node (o63v0 P) (.node (o127v0 P) (.node (o255v0 P) .nil .nil) (.node (o383v0 P) .nil .nil)) (.node (o191v0 P) (.node (o319v0 P) .nil .nil) (.node (o447v0 P) .nil .nil))) (.node (o95v0 P) (.node (o159v0 P) (.node (o287v0 P) .nil .nil) (.node (o415v0 P) .nil .nil)) (.node (o223v0 P) (.node (o351v0 P) .nil .nil) .nil))) (.node (o47v0 P) (.node (o79v0 P) (.node (o143v0 P) (.node (o271v0 P) .nil .nil) (.node (o399v0 P) .nil .nil)) (.node (o207v0 P) (.node (o335v0 P) .nil .nil) (.node (o463v0 P) .nil .nil))) (.node (o111v0 P) (.node (o175v0 P) (.node (o303v0 P) .nil .nil) (.node (o431v0 P) .nil .nil)) (.node (o239v0 P) (.node (o367v0 P) .nil .nil) .nil)))) (.node (o23v0 P) (.node (o39v0 P) (.node (o71v0 P) (.node (o135v0 P) (.node (o263v0 P) .nil .nil) (.node (o391v0 P) .nil .nil)) (.node (o199v0 P) (.node (o327v0 P) .nil .nil) (.node (o455v0 P) .nil .nil))) (.node (o103v0 P) (.node (o167v0 P) (.node (o295v0 P) .nil .nil) (.node (o423v0 P) .nil .nil)) (.node (o231v0 P) (.node (o359v0 P) .nil .nil) .nil))) (.node (o55v0 P) (.node (o87v0 P) (.node (o151v0 P) (.node (o279v0 P) .nil .nil) (.node (o407v0 P) .nil .nil)) (.node (o215v0 P) (.node (o343v0 P) .nil .nil) (.node (o471v0 P) .nil .nil))) (.node (o119v0 P) (.node (o183v0 P) (.node (o311v0 P) .nil .nil) (.node (o439v0 P) .nil .nil)) (.node (o247v0 P) (.node (o375v0 P) .nil .nil) .nil))))) (.node (o11v0 P) (.node (o19v0 P) (.node (o35v0 P) (.node (o67v0 P) (.node (o131v0 P) (.node (o259v0 P) .nil .nil) (.node (o387v0 P) .nil .nil)) (.node (o195v0 P) (.node (o323v0 P) .nil .nil) (.node (o451v0 P) .nil .nil))) (.node (o99v0 P) (.node (o163v0 P) (.node (o291v0 P) .nil .nil) (.node (o419v0 P) .nil .nil)) (.node (o227v0 P) (.node (o355v0 P) .nil .nil) .nil))) (.node (o51v0 P) (.node (o83v0 P) (.node (o147v0 P) (.node (o275v0 P) .nil .nil) (.node (o403v0 P) .nil .nil)) (.node (o211v0 P) (.node (o339v0 P) .nil .nil) (.node (o467v0 P) .nil .nil))) (.node (o115v0 P) (.node (o179v0 P) (.node (o307v0 P) .nil .nil) (.node (o435v0 P) .nil .nil)) (.node (o243v0 P) (.node (o371v0 P) .nil .nil) .nil)))) (.node (o27v0 P) (.node (o43v0 P) (.node (o75v0 P) (.node (o139v0 P) (.node (o267v0 P) .nil .nil) (.node (o395v0 P) .nil .nil)) (.node (o203v0 P) (.node (o331v0 P) .nil .nil) (.node (o459v0 P) .nil .nil))) (.node (o107v0 P) (.node (o171v0 P) (.node (o299v0 P) .nil .nil) (.node (o427v0 P) .nil .nil)) (.node (o235v0 P) (.node (o363v0 P) .nil .nil) .nil))) (.node (o59v0 P) (.node (o91v0 P) (.node (o155v0 P) (.node (o283v0 P) .nil .nil) (.node (o411v0 P) .nil .nil)) (.node (o219v0 P) (.node (o347v0 P) .nil .nil) (.node (o475v0 P) .nil .nil))) (.node (o123v0 P) (.node (o187v0 P) (.node (o315v0 P) .nil .nil) (.node (o443v0 P) .nil .nil)) (.node (o251v0 P) (.node (o379v0 P) .nil .nil) .nil)))))) (.node (PySem.W.boot_o_5 P) (.node (PySem.W.boot_o_9 P) (.node (o17v0 P) (.node (o33v0 P) (.node (o65v0 P) (.node (o129v0 P) (.node (o257v0 P) .nil .nil) (.node (o385v0 P) .nil .nil)) (.node (o193v0 P) (.node (o321v0 P) .nil .nil) (.node (o449v0 P) .nil .nil))) (.node (o97v0 P) (.node (o161v0 P) (.node (o289v0 P) .nil .nil) (.node (o417v0 P) .nil .nil)) (.node (o225v0 P) (.node (o353v0 P) .nil .nil) .nil))) (.node (o49v0 P) (.node (o81v0 P) (.node (o145v0 P) (.node (o273v0 P) .nil .nil) (.node (o401v0 P) .nil .nil)) (.node (o209v0 P) (.node (o337v0 P) .nil .nil) (.node (o465v0 P) .nil .nil))) (.node (o113v0 P) (.node (o177v0 P) (.node (o305v0 P) .nil .nil) (.node (o433v0 P) .nil .nil)) (.node (o241v0 P) (.node (o369v0 P) .nil .nil) .nil)))) (.node (o25v0 P) (.node (o41v0 P) (.node (o73v0 P) (.node (o137v0 P) (.node (o265v0 P) .nil .nil) (.node (o393v0 P) .nil .nil)) (.node (o201v0 P) (.node (o329v0 P) .nil .nil) (.node (o457v0 P) .nil .nil))) (.node (o105v0 P) (.node (o169v0 P) (.node (o297v0 P) .nil .nil) (.node (o425v0 P) .nil .nil)) (.node (o233v0 P) (.node (o361v0 P) .nil .nil) .nil))) (.node (o57v0 P) (.node (o89v0 P) (.node (o153v0 P) (.node (o281v0 P) .nil .nil) (.node (o409v0 P) .nil .nil)) (.node (o217v0 P) (.node (o345v0 P) .nil .nil) (.node (o473v0 P) .nil .nil))) (.node (o121v0 P) (.node (o185v0 P) (.node (o313v0 P) .nil .nil) (.node (o441v0 P) .nil .nil)) (.node (o249v0 P) (.node (o377v0 P) .nil .nil) .nil))))) (.node (o13v0 P) (.node (o21v0 P) (.node (o37v0 P) (.node (o69v0 P) (.node (o133v0 P) (.node (o261v0 P) .nil .nil) (.node (o389v0 P) .nil .nil)) (.node (o197v0 P) (.node (o325v0 P) .nil .nil) (.node (o453v0 P) .nil .nil))) (.node (o101v0 P) (.node (o165v0 P) (.node (o293v0 P) .nil .nil) (.node (o421v0 P) .nil .nil)) (.node (o229v0 P) (.node (o357v0 P) .nil .nil) .nil))) (.node (o53v0 P) (.node (o85v0 P) (.node (o149v0 P) (.node (o277v0 P) .nil .nil) (.node (o405v0 P) .nil .nil)) (.node (o213v0 P) (.node (o341v0 P) .nil .nil) (.node (o469v0 P) .nil .nil))) (.node (o117v0 P) (.node (o181v0 P) (.node (o309v0 P) .nil .nil) (.node (o437v0 P) .nil .nil)) (.node (o245v0 P) (.node (o373v0 P) .nil .nil) .nil)))) (.node (o29v0 P) (.node (o45v0 P) (.node (o77v0 P) (.node (o141v0 P) (.node (o269v0 P) .nil .nil) (.node (o397v0 P) .nil .nil)) (.node (o205v0 P) (.node (o333v0 P) .nil .nil) (.node (o461v0 P) .nil .nil))) (.node (o109v0 P) (.node (o173v0 P) (.node (o301v0 P) .nil .nil) (.node (o429v0 P) .nil .nil)) (.node (o237v0 P) (.node (o365v0 P) .nil .nil) .nil))) (.node (o61v0 P) (.node (o93v0 P) (.node (o157v0 P) (.node (o285v0 P) .nil .nil) (.node (o413v0 P) .nil .nil)) (.node (o221v0 P) (.node (o349v0 P) .nil .nil) (.node (o477v0 P) .nil .nil))) (.node (o125v0 P) (.node (o189v0 P) (.node (o317v0 P) .nil .nil) (.node (o445v0 P) .nil .nil)) (.node (o253v0 P) (.node (o381v0 P) .nil .nil) .nil))))))) (.node (PySem.W.boot_o_2 P) (.node (PySem.W.boot_o_4 P) (.node (PySem.W.boot_o_8 P) (.node (o16v0 P) (.node (o32v0 P) (.node (o64v0 P) (.node (o128v0 P) (.node (o256v0 P) .nil .nil) (.node (o384v0 P) .nil .nil)) (.node (o192v0 P) (.node (o320v0 P) .nil .nil) (.node (o448v0 P) .nil .nil))) (.node (o96v0 P) (.node (o160v0 P) (.node (o288v0 P) .nil .nil) (.node (o416v0 P) .nil .nil)) (.node (o224v0 P) (.node (o352v0 P) .nil .nil) .nil))) (.node (o48v0 P) (.node (o80v0 P) (.node (o144v0 P) (.node (o272v0 P) .nil .nil) (.node (o400v0 P) .nil .nil)) (.node (o208v0 P) (.node (o336v0 P) .nil .nil) (.node (o464v0 P) .nil .nil))) (.node (o112v0 P) (.node (o176v0 P) (.node (o304v0 P) .nil .nil) (.node (o432v0 P) .nil .nil)) (.node (o240v0 P) (.node (o368v0 P) .nil .nil) .nil)))) (.node (o24v0 P) (.node (o40v0 P) (.node (o72v0 P) (.node (o136v0 P) (.node (o264v0 P) .nil .nil) (.node (o392v0 P) .nil .nil)) (.node (o200v0 P) (.node (o328v0 P) .nil .nil) (.node (o456v0 P) .nil .nil))) (.node (o104v0 P) (.node (o168v0 P) (.node (o296v0 P) .nil .nil) (.node (o424v0 P) .nil .nil)) (.node (o232v0 P) (.node (o360v0 P) .nil .nil) .nil))) (.node (o56v0 P) (.node (o88v0 P) (.node (o152v0 P) (.node (o280v0 P) .nil .nil) (.node (o408v0 P) .nil .nil)) (.node (o216v0 P) (.node (o344v0 P) .nil .nil) (.node (o472v0 P) .nil .nil))) (.node (o120v0 P) (.node (o184v0 P) (.node (o312v0 P) .nil .nil) (.node (o440v0 P) .nil .nil)) (.node (o248v0 P) (.node (o376v0 P) .nil .nil) .nil))))) (.node (o12v6 P) (.node (o20v0 P) (.node (o36v0 P) (.node (o68v0 P) (.node (o132v0 P) (.node (o260v0 P) .nil .nil) (.node (o388v1 P) .nil .nil)) (.node (o196v0 P) (.node (o324v0 P) .nil .nil) (.node (o452v0 P) .nil .nil))) (.node (o100v0 P) (.node (o164v0 P) (.node (o292v0 P) .nil .nil) (.node (o420v0 P) .nil .nil)) (.node (o228v0 P) (.node (o356v0 P) .nil .nil) .nil))) (.node (o52v0 P) (.node (o84v0 P) (.node (o148v0 P) (.node (o276v0 P) .nil .nil) (.node (o404v0 P) .nil .nil)) (.node (o212v0 P) (.node (o340v0 P) .nil .nil) (.node (o468v0 P) .nil .nil))) (.node (o116v0 P) (.node (o180v0 P) (.node (o308v0 P) .nil .nil) (.node (o436v0 P) .nil .nil)) (.node (o244v0 P) (.node (o372v0 P) .nil .nil) .nil)))) (.node (o28v0 P) (.node (o44v0 P) (.node (o76v0 P) (.node (o140v0 P) (.node (o268v0 P) .nil .nil) (.node (o396v0 P) .nil .nil)) (.node (o204v0 P) (.node (o332v0 P) .nil .nil) (.node (o460v0 P) .nil .nil))) (.node (o108v0 P) (.node (o172v0 P) (.node (o300v0 P) .nil .nil) (.node (o428v0 P) .nil .nil)) (.node (o236v0 P) (.node (o364v0 P) .nil .nil) .nil))) (.node (o60v0 P) (.node (o92v0 P) (.node (o156v0 P) (.node (o284v0 P) .nil .nil) (.node (o412v0 P) .nil .nil)) (.node (o220v0 P) (.node (o348v0 P) .nil .nil) (.node (o476v0 P) .nil .nil))) (.node (o124v0 P) (.node (o188v0 P) (.node (o316v0 P) .nil .nil) (.node (o444v0 P) .nil .nil)) (.node (o252v0 P) (.node (o380v0 P) .nil .nil) .nil)))))) (.node (PySem.W.boot_o_6 P) (.node (PySem.W.boot_o_10 P) (.node (o18v0 P) (.node (o34v0 P) (.node (o66v0 P) (.node (o130v0 P) (.node (o258v0 P) .nil .nil) (.node (o386v0 P) .nil .nil)) (.node (o194v0 P) (.node (o322v0 P) .nil .nil) (.node (o450v0 P) .nil .nil))) (.node (o98v0 P) (.node (o162v0 P) (.node (o290v0 P) .nil .nil) (.node (o418v0 P) .nil .nil)) (.node (o226v0 P) (.node (o354v0 P) .nil .nil) .nil))) (.node (o50v0 P) (.node (o82v0 P) (.node (o146v0 P) (.node (o274v0 P) .nil .nil) (.node (o402v0 P) .nil .nil)) (.node (o210v0 P) (.node (o338v0 P) .nil .nil) (.node (o466v0 P) .nil .nil))) (.node (o114v0 P) (.node (o178v0 P) (.node (o306v0 P) .nil .nil) (.node (o434v0 P) .nil .nil)) (.node (o242v0 P) (.node (o370v0 P) .nil .nil) .nil)))) (.node (o26v0 P) (.node (o42v0 P) (.node (o74v0 P) (.node (o138v0 P) (.node (o266v0 P) .nil .nil) (.node (o394v0 P) .nil .nil)) (.node (o202v0 P) (.node (o330v0 P) .nil .nil) (.node (o458v0 P) .nil .nil))) (.node (o106v0 P) (.node (o170v0 P) (.node (o298v0 P) .nil .nil) (.node (o426v0 P) .nil .nil)) (.node (o234v0 P) (.node (o362v0 P) .nil .nil) .nil))) (.node (o58v0 P) (.node (o90v0 P) (.node (o154v0 P) (.node (o282v0 P) .nil .nil) (.node (o410v0 P) .nil .nil)) (.node (o218v0 P) (.node (o346v0 P) .nil .nil) (.node (o474v0 P) .nil .nil))) (.node (o122v0 P) (.node (o186v0 P) (.node (o314v0 P) .nil .nil) (.node (o442v0 P) .nil .nil)) (.node (o250v0 P) (.node (o378v0 P) .nil .nil) .nil))))) (.node (o14v0 P) (.node (o22v0 P) (.node (o38v0 P) (.node (o70v0 P) (.node (o134v0 P) (.node (o262v0 P) .nil .nil) (.node (o390v0 P) .nil .nil)) (.node (o198v0 P) (.node (o326v0 P) .nil .nil) (.node (o454v0 P) .nil .nil))) (.node (o102v0 P) (.node (o166v0 P) (.node (o294v0 P) .nil .nil) (.node (o422v0 P) .nil .nil)) (.node (o230v0 P) (.node (o358v0 P) .nil .nil) .nil))) (.node (o54v0 P) (.node (o86v0 P) (.node (o150v0 P) (.node (o278v0 P) .nil .nil) (.node (o406v0 P) .nil .nil)) (.node (o214v0 P) (.node (o342v0 P) .nil .nil) (.node (o470v0 P) .nil .nil))) (.node (o118v0 P) (.node (o182v0 P) (.node (o310v0 P) .nil .nil) (.node (o438v0 P) .nil .nil)) (.node (o246v0 P) (.node (o374v0 P) .nil .nil) .nil)))) (.node (o30v0 P) (.node (o46v0 P) (.node (o78v0 P) (.node (o142v0 P) (.node (o270v0 P) .nil .nil) (.node (o398v0 P) .nil .nil)) (.node (o206v0 P) (.node (o334v0 P) .nil .nil) (.node (o462v0 P) .nil .nil))) (.node (o110v0 P) (.node (o174v0 P) (.node (o302v0 P) .nil .nil) (.node (o430v0 P) .nil .nil)) (.node (o238v0 P) (.node (o366v0 P) .nil .nil) .nil))) (.node (o62v0 P) (.node (o94v0 P) (.node (o158v0 P) (.node (o286v0 P) .nil .nil) (.node (o414v0 P) .nil .nil)) (.node (o222v0 P) (.node (o350v0 P) .nil .nil) (.node (o478v0 P) .nil .nil))) (.node (o126v0 P) (.node (o190v0 P) (.node (o318v0 P) .nil .nil) (.node (o446v0 P) .nil .nil)) (.node (o254v0 P) (.node (o382v0 P) .nil .nil) .nil))))))))
noncomputable def o3v7 (P : Params) : Obj := ⟨(.type "dict"),none,(.dict #[⟨(PySem.PyData.keyHash P (.ofString "__name__")),(.str (.ofString "__name__") 165),(.str (.ofString "law_jb0022_01") 1065)⟩,⟨(PySem.PyData.keyHash P (.ofString "__doc__")),(.str (.ofString "__doc__") 166),.none⟩,⟨(PySem.PyData.keyHash P (.ofString "__package__")),(.str (.ofString "__package__") 167),.none⟩,⟨(PySem.PyData.keyHash P (.ofString "__loader__")),(.str (.ofString "__loader__") 168),(.builtin "__main__.__loader__#opaque")⟩,⟨(PySem.PyData.keyHash P (.ofString "__spec__")),(.str (.ofString "__spec__") 169),.none⟩,⟨(PySem.PyData.keyHash P (.ofString "__annotations__")),(.str (.ofString "__annotations__") 170),(.ref 6)⟩,⟨(PySem.PyData.keyHash P (.ofString "__builtins__")),(.str (.ofString "__builtins__") 171),(.ref 4)⟩,⟨(PySem.PyData.keyHash P (.ofString "__file__")),(.str (.ofString "__file__") 173),(.str (.ofString "/claim/cut.py") 172)⟩,⟨(PySem.PyData.keyHash P (.ofString "__cached__")),(.str (.ofString "__cached__") 174),.none⟩,⟨(PySem.PyData.keyHash P (.ofString "_wall")),(.str (.ofString "_wall") 193),(.ref 21)⟩,⟨(PySem.PyData.keyHash P (.ofString "_tuplegetter")),(.str (.ofString "_tuplegetter") 252),(.ref 243)⟩,⟨(PySem.PyData.keyHash P (.ofString "tuplegetter_util")),(.str (.ofString "tuplegetter_util") 253),(.ref 60)⟩,⟨(PySem.PyData.keyHash P (.ofString "WindowStats")),(.str (.ofString "WindowStats") 368),(.ref 132)⟩,⟨(PySem.PyData.keyHash P (.ofString "RateLimiter")),(.str (.ofString "RateLimiter") 408),(.ref 161)⟩,⟨(PySem.PyData.keyHash P (.ofString "MovingWindowRateLimiter")),(.str (.ofString "MovingWindowRateLimiter") 463),(.ref 202)⟩,⟨(PySem.PyData.keyHash P (.ofString "tuplegetter_limits")),(.str (.ofString "tuplegetter_limits") 523),(.ref 243)⟩,⟨(PySem.PyData.keyHash P (.ofString "safe_string")),(.str (.ofString "safe_string") 531),(.ref 254)⟩,⟨(PySem.PyData.keyHash P (.ofString "Granularity")),(.str (.ofString "Granularity") 646),(.ref 322)⟩,⟨(PySem.PyData.keyHash P (.ofString "RateLimitItem")),(.str (.ofString "RateLimitItem") 743),(.ref 388)⟩,⟨(PySem.PyData.keyHash P (.ofString "RateLimitItemPerMinute")),(.str (.ofString "RateLimitItemPerMinute") 771),(.ref 407)⟩,⟨(PySem.PyData.keyHash P (.ofString "RateLimitItemPerSecond")),(.str (.ofString "RateLimitItemPerSecond") 799),(.ref 424)⟩,⟨(PySem.PyData.keyHash P (.ofString "TimestampedSlidingWindow")),(.str (.ofString "TimestampedSlidingWindow") 845),(.ref 446)⟩,⟨(PySem.PyData.keyHash P (.ofString "bisect_left")),(.str (.ofString "bisect_left") 860),(.ref 457)⟩,⟨(PySem.PyData.keyHash P (.ofString "Entry")),(.str (.ofString "Entry") 891),(.ref 474)⟩,⟨(PySem.PyData.keyHash P (.ofString "MemoryStorage")),(.str (.ofString "MemoryStorage") 1064),(.ref 597)⟩,⟨(PySem.PyData.keyHash P (.ofString "_law_steps")),(.str (.ofString "_law_steps") 1075),(.ref 600)⟩,⟨(PySem.PyData.keyHash P (.ofString "_law_callers")),(.str (.ofString "_law_callers") 1080),(.ref 604)⟩,⟨(PySem.PyData.keyHash P (.ofString "_law_counted")),(.str (.ofString "_law_counted") 1092),(.ref 611)⟩,⟨(PySem.PyData.keyHash P (.ofString "law")),(.str (.ofString "law") 1098),(.ref 616)⟩] 29),#[]⟩
noncomputable def o12v7 (P : Params) : Obj := ⟨.none,none,(.fields #[(.int 1 0),(.int 0 0),(.ref 20),(.int 5 0),(.int 0 0),(.ref 27),(.int 24 0),(.int 0 0),(.ref 71),(.int 67 0),(.int 0 0),(.ref 141),(.int 74 0),(.int 0 0),(.ref 171),(.int 118 0),(.int 0 0),(.ref 210),(.int 137 0),(.int 0 0),(.ref 253),(.int 144 0),(.int 0 0),(.ref 261),(.int 186 0),(.int 0 0),(.ref 331),(.int 235 0),(.int 0 0),(.ref 398),(.int 241 0),(.int 0 0),(.ref 415),(.int 248 0),(.int 0 0),(.ref 432),(.int 255 0),(.int 0 0),(.ref 456),(.int 266 0),(.int 0 0),(.ref 463),(.int 271 0),(.int 0 0),(.ref 484),(.int 386 0),(.int 0 0),(.ref 610),(.int 395 0),(.int 0 0),(.ref 615)]),#[]⟩
noncomputable def o446v1 (P : Params) : Obj := ⟨(.type "type"),none,(.cls ⟨(.ofString "TimestampedSlidingWindow"),[(.type "object")],[(.ref 446),(.type "object")],445,(.ofString "TimestampedSlidingWindow"),true,[],[(.ref 597)],false,none,false⟩),#[none,none,(some (.str (.ofString "TimestampedSlidingWindow") 802)),(some (.str (.ofString "TimestampedSlidingWindow") 810)),(some (.builtin "object.__new__")),(some (.bool true))]⟩
noncomputable def o479v0 (P : Params) : Obj := ⟨(.type "tuple"),none,(.seq #[(.ref 446)] 0),#[]⟩
noncomputable def o480v0 (P : Params) : Obj := ⟨(.type "builtin_function_or_method"),none,(.fields #[(.builtin "type.__prepare__"),(.type "type")]),#[]⟩
noncomputable def o481v0 (P : Params) : Obj := ⟨(.type "dict"),none,(.dict #[⟨(PySem.PyData.keyHash P (.ofString "__module__")),(.str (.ofString "__module__") 899),(.str (.ofString "limits.storage.memory") 846)⟩,⟨(PySem.PyData.keyHash P (.ofString "__qualname__")),(.str (.ofString "__qualname__") 901),(.str (.ofString "MemoryStorage") 900)⟩,⟨(PySem.PyData.keyHash P (.ofString "__firstlineno__")),(.str (.ofString "__firstlineno__") 903),(.int 271 902)⟩,⟨(PySem.PyData.keyHash P (.ofString "__doc__")),(.str (.ofString "__doc__") 905),(.str (dS (nth (sBody (nth progB 21)) 0)) 904)⟩,⟨(PySem.PyData.keyHash P (.ofString "__init__")),(.str (.ofString "__init__") 914),(.ref 492)⟩,⟨(PySem.PyData.keyHash P (.ofString "expire_events")),(.str (.ofString "expire_events") 924),(.ref 499)⟩,⟨(PySem.PyData.keyHash P (.ofString "incr")),(.str (.ofString "incr") 935),(.ref 507)⟩,⟨(PySem.PyData.keyHash P (.ofString "decr")),(.str (.ofString "decr") 945),(.ref 515)⟩,⟨(PySem.PyData.keyHash P (.ofString "get")),(.str (.ofString "get") 954),(.ref 522)⟩,⟨(PySem.PyData.keyHash P (.ofString "clear")),(.str (.ofString "clear") 963),(.ref 529)⟩,⟨(PySem.PyData.keyHash P (.ofString "acquire_entry")),(.str (.ofString "acquire_entry") 978),(.ref 537)⟩,⟨(PySem.PyData.keyHash P (.ofString "get_expiry")),(.str (.ofString "get_expiry") 987),(.ref 544)⟩,⟨(PySem.PyData.keyHash P (.ofString "get_moving_window")),(.str (.ofString "get_moving_window") 1001),(.ref 551)⟩,⟨(PySem.PyData.keyHash P (.ofString "acquire_sliding_window_entry")),(.str (.ofString "acquire_sliding_window_entry") 1013),(.ref 559)⟩,⟨(PySem.PyData.keyHash P (.ofString "_get_sliding_window_info")),(.str (.ofString "_get_sliding_window_info") 1024),(.ref 566)⟩,⟨(PySem.PyData.keyHash P (.ofString "get_sliding_window")),(.str (.ofString "get_sliding_window") 1033),(.ref 573)⟩,⟨(PySem.PyData.keyHash P (.ofString "clear_sliding_window")),(.str (.ofString "clear_sliding_window") 1042),(.ref 580)⟩,⟨(PySem.PyData.keyHash P (.ofString "check")),(.str (.ofString "check") 1049),(.ref 587)⟩,⟨(PySem.PyData.keyHash P (.ofString "reset")),(.str (.ofString "reset") 1057),(.ref 594)⟩,⟨(PySem.PyData.keyHash P (.ofString "__static_attributes__")),(.str (.ofString "__static_attributes__") 1062),(.ref 595)⟩] 20),#[]⟩
noncomputable def o482v0 (P : Params) : Obj := ⟨(.type "tuple"),none,(.seq #[] 0),#[]⟩
noncomputable def o483v0 (P : Params) : Obj := ⟨.none,none,(.fields #[(.int 279 0),(.int 4 0),(.ref 491),(.int 285 0),(.int 4 0),(.ref 498),(.int 296 0),(.int 4 0),(.ref 506),(.int 299 0),(.int 4 0),(.ref 514),(.int 302 0),(.int 4 0),(.ref 521),(.int 311 0),(.int 4 0),(.ref 528),(.int 319 0),(.int 4 0),(.ref 536),(.int 340 0),(.int 4 0),(.ref 543),(.int 346 0),(.int 4 0),(.ref 550),(.int 362 0),(.int 4 0),(.ref 558),(.int 365 0),(.int 4 0),(.ref 565),(.int 368 0),(.int 4 0),(.ref 572),(.int 371 0),(.int 4 0),(.ref 579),(.int 374 0),(.int 4 0),(.ref 586),(.int 377 0),(.int 4 0),(.ref 593)]),#[]⟩
noncomputable def o484v0 (P : Params) : Obj := ⟨(.type "code"),none,(.fields #[(.str (.ofString "MemoryStorage") 894),(.str (.ofString "MemoryStorage") 895),(.str (.ofString "/claim/cut.py") 896),(.int 271 0),(.int 0 0),(.int 0 0),(.int 0 0),(.int 0 0),(.ref 482),(.bool false),(.int 181 0),(.ref 483),.none,.none,.none,.none,(.int 897 0),(.int 271 0),(.str (.ofString "/claim/cut.py") 898)]),#[]⟩
noncomputable def o485v0 (P : Params) : Obj := ⟨(.type "frame"),none,.plain,#[(some (.ref 484)),(some (.ref 3)),(some (.ref 481)),none,(some (.str (.ofString "limits.storage.memory") 846)),none,(some (.ref 0))]⟩
noncomputable def o486v0 (P : Params) : Obj := ⟨(.type "tuple"),none,(.seq #[] 0),#[]⟩
noncomputable def o487v0 (P : Params) : Obj := ⟨.none,none,(.fields #[]),#[]⟩
noncomputable def o488v0 (P : Params) : Obj := ⟨(.type "tuple"),none,(.seq #[(.str (.ofString "self") 910),(.str (.ofString "clock") 911)] 0),#[]⟩
noncomputable def o489v0 (P : Params) : Obj := ⟨(.type "tuple"),none,(.seq #[] 0),#[]⟩
noncomputable def o490v0 : Params → Obj := by
  refine' (?f : (b : List Stmt) → b = sBody (nth (sBody (nth progB 21)) 1) → (a : Arguments) → a = sArgs (nth (sBody (nth progB 21)) 1) → (c : Scope) → c = sScope (nth (sBody (nth progB 21)) 1) → Params → Obj) _ ?h1 _ ?h2 _ ?h3
  case f => exact fun b _ a _ c _ P => ⟨.none,none,(.func ⟨(.ofString "__init__"),(.ofString "MemoryStorage.__init__"),a,(.stmts b),c,0,[],.none,.none,.none,.none,none,.none,.none,0⟩),#[]⟩
  case h1 => conv => rhs; whnf
  case h2 => conv => rhs; whnf
  case h3 => conv => rhs; whnf
noncomputable def o491v0 (P : Params) : Obj := ⟨(.type "code"),none,(.fields #[(.str (.ofString "__init__") 907),(.str (.ofString "MemoryStorage.__init__") 908),(.str (.ofString "/claim/cut.py") 909),(.int 279 0),(.int 2 0),(.int 0 0),(.int 0 0),(.int 3 0),(.ref 486),(.bool true),(.int 181 0),(.ref 487),.none,(.ref 488),(.ref 489),(.ref 490),(.int 912 0),(.int 279 0),(.str (.ofString "/claim/cut.py") 913)]),#[]⟩
noncomputable def o492v0 : Params → Obj := by
  refine' (?f : (b : List Stmt) → b = sBody (nth (sBody (nth progB 21)) 1) → (a : Arguments) → a = sArgs (nth (sBody (nth progB 21)) 1) → (c : Scope) → c = sScope (nth (sBody (nth progB 21)) 1) → Params → Obj) _ ?h1 _ ?h2 _ ?h3
  case f => exact fun b _ a _ c _ P => ⟨(.type "function"),none,(.func ⟨(.ofString "__init__"),(.ofString "MemoryStorage.__init__"),a,(.stmts b),c,3,[],.none,.none,.none,(.str (.ofString "limits.storage.memory") 846),none,(.ref 491),.none,0⟩),#[]⟩
  case h1 => conv => rhs; whnf
  case h2 => conv => rhs; whnf
  case h3 => conv => rhs; whnf
noncomputable def o493v0 (P : Params) : Obj := ⟨(.type "tuple"),none,(.seq #[] 0),#[]⟩
noncomputable def o494v0 (P : Params) : Obj := ⟨.none,none,(.fields #[]),#[]⟩
noncomputable def o495v0 (P : Params) : Obj := ⟨(.type "tuple"),none,(.seq #[(.str (.ofString "self") 918),(.str (.ofString "key") 919),(.str (.ofString "events") 920),(.str (.ofString "oldest") 921)] 0),#[]⟩
noncomputable def o496v0 (P : Params) : Obj := ⟨(.type "tuple"),none,(.seq #[] 0),#[]⟩
noncomputable def o497v0 : Params → Obj := by
  refine' (?f : (b : List Stmt) → b = sBody (nth (sBody (nth progB 21)) 2) → (a : Arguments) → a = sArgs (nth (sBody (nth progB 21)) 2) → (c : Scope) → c = sScope (nth (sBody (nth progB 21)) 2) → Params → Obj) _ ?h1 _ ?h2 _ ?h3
  case f => exact fun b _ a _ c _ P => ⟨.none,none,(.func ⟨(.ofString "expire_events"),(.ofString "MemoryStorage.expire_events"),a,(.stmts b),c,0,[],.none,.none,.none,.none,none,.none,.none,0⟩),#[]⟩
  case h1 => conv => rhs; whnf
  case h2 => conv => rhs; whnf
  case h3 => conv => rhs; whnf
noncomputable def o498v0 (P : Params) : Obj := ⟨(.type "code"),none,(.fields #[(.str (.ofString "expire_events") 915),(.str (.ofString "MemoryStorage.expire_events") 916),(.str (.ofString "/claim/cut.py") 917),(.int 285 0),(.int 1 0),(.int 0 0),(.int 0 0),(.int 3 0),(.ref 493),(.bool true),(.int 181 0),(.ref 494),.none,(.ref 495),(.ref 496),(.ref 497),(.int 922 0),(.int 285 0),(.str (.ofString "/claim/cut.py") 923)]),#[]⟩
noncomputable def o499v0 : Params → Obj := by
  refine' (?f : (b : List Stmt) → b = sBody (nth (sBody (nth progB 21)) 2) → (a : Arguments) → a = sArgs (nth (sBody (nth progB 21)) 2) → (c : Scope) → c = sScope (nth (sBody (nth progB 21)) 2) → Params → Obj) _ ?h1 _ ?h2 _ ?h3
  case f => exact fun b _ a _ c _ P => ⟨(.type "function"),none,(.func ⟨(.ofString "expire_events"),(.ofString "MemoryStorage.expire_events"),a,(.stmts b),c,3,[],.none,.none,.none,(.str (.ofString "limits.storage.memory") 846),none,(.ref 498),.none,0⟩),#[]⟩
  case h1 => conv => rhs; whnf
  case h2 => conv => rhs; whnf
  case h3 => conv => rhs; whnf
noncomputable def o500v0 (P : Params) : Obj := ⟨(.type "tuple"),none,(.seq #[(.int 1 925)] 0),#[]⟩
noncomputable def o501v0 (P : Params) : Obj := ⟨(.type "tuple"),none,(.seq #[] 0),#[]⟩
noncomputable def o502v0 (P : Params) : Obj := ⟨.none,none,(.fields #[]),#[]⟩
noncomputable def o503v0 (P : Params) : Obj := ⟨(.type "tuple"),none,(.seq #[(.str (.ofString "self") 929),(.str (.ofString "key") 930),(.str (.ofString "expiry") 931),(.str (.ofString "amount") 932)] 0),#[]⟩
noncomputable def o504v0 (P : Params) : Obj := ⟨(.type "tuple"),none,(.seq #[] 0),#[]⟩
noncomputable def o505v0 : Params → Obj := by
  refine' (?f : (b : List Stmt) → b = sBody (nth (sBody (nth progB 21)) 3) → (a : Arguments) → a = sArgs (nth (sBody (nth progB 21)) 3) → (c : Scope) → c = sScope (nth (sBody (nth progB 21)) 3) → Params → Obj) _ ?h1 _ ?h2 _ ?h3
  case f => exact fun b _ a _ c _ P => ⟨.none,none,(.func ⟨(.ofString "incr"),(.ofString "MemoryStorage.incr"),a,(.stmts b),c,0,[],.none,.none,.none,.none,none,.none,.none,0⟩),#[]⟩
  case h1 => conv => rhs; whnf
  case h2 => conv => rhs; whnf
  case h3 => conv => rhs; whnf
noncomputable def o506v0 (P : Params) : Obj := ⟨(.type "code"),none,(.fields #[(.str (.ofString "incr") 926),(.str (.ofString "MemoryStorage.incr") 927),(.str (.ofString "/claim/cut.py") 928),(.int 296 0),(.int 4 0),(.int 0 0),(.int 0 0),(.int 3 0),(.ref 501),(.bool true),(.int 181 0),(.ref 502),.none,(.ref 503),(.ref 504),(.ref 505),(.int 933 0),(.int 296 0),(.str (.ofString "/claim/cut.py") 934)]),#[]⟩
noncomputable def o507v0 : Params → Obj := by
  refine' (?f : (b : List Stmt) → b = sBody (nth (sBody (nth progB 21)) 3) → (a : Arguments) → a = sArgs (nth (sBody (nth progB 21)) 3) → (c : Scope) → c = sScope (nth (sBody (nth progB 21)) 3) → Params → Obj) _ ?h1 _ ?h2 _ ?h3
  case f => exact fun b _ a _ c _ P => ⟨(.type "function"),none,(.func ⟨(.ofString "incr"),(.ofString "MemoryStorage.incr"),a,(.stmts b),c,3,[],(.ref 500),.none,.none,(.str (.ofString "limits.storage.memory") 846),none,(.ref 506),.none,0⟩),#[]⟩
  case h1 => conv => rhs; whnf
  case h2 => conv => rhs; whnf
  case h3 => conv => rhs; whnf
noncomputable def o508v0 (P : Params) : Obj := ⟨(.type "tuple"),none,(.seq #[(.int 1 936)] 0),#[]⟩
noncomputable def o509v0 (P : Params) : Obj := ⟨(.type "tuple"),none,(.seq #[] 0),#[]⟩
noncomputable def o510v0 (P : Params) : Obj := ⟨.none,none,(.fields #[]),#[]⟩
noncomputable def o511v0 (P : Params) : Obj := ⟨(.type "tuple"),none,(.seq #[(.str (.ofString "self") 940),(.str (.ofString "key") 941),(.str (.ofString "amount") 942)] 0),#[]⟩
noncomputable def o512v0 (P : Params) : Obj := ⟨(.type "tuple"),none,(.seq #[] 0),#[]⟩
noncomputable def o513v0 : Params → Obj := by
  refine' (?f : (b : List Stmt) → b = sBody (nth (sBody (nth progB 21)) 4) → (a : Arguments) → a = sArgs (nth (sBody (nth progB 21)) 4) → (c : Scope) → c = sScope (nth (sBody (nth progB 21)) 4) → Params → Obj) _ ?h1 _ ?h2 _ ?h3
  case f => exact fun b _ a _ c _ P => ⟨.none,none,(.func ⟨(.ofString "decr"),(.ofString "MemoryStorage.decr"),a,(.stmts b),c,0,[],.none,.none,.none,.none,none,.none,.none,0⟩),#[]⟩
  case h1 => conv => rhs; whnf
  case h2 => conv => rhs; whnf
  case h3 => conv => rhs; whnf
noncomputable def o514v0 (P : Params) : Obj := ⟨(.type "code"),none,(.fields #[(.str (.ofString "decr") 937),(.str (.ofString "MemoryStorage.decr") 938),(.str (.ofString "/claim/cut.py") 939),(.int 299 0),(.int 3 0),(.int 0 0),(.int 0 0),(.int 3 0),(.ref 509),(.bool true),(.int 181 0),(.ref 510),.none,(.ref 511),(.ref 512),(.ref 513),(.int 943 0),(.int 299 0),(.str (.ofString "/claim/cut.py") 944)]),#[]⟩
noncomputable def o515v0 : Params → Obj := by
  refine' (?f : (b : List Stmt) → b = sBody (nth (sBody (nth progB 21)) 4) → (a : Arguments) → a = sArgs (nth (sBody (nth progB 21)) 4) → (c : Scope) → c = sScope (nth (sBody (nth progB 21)) 4) → Params → Obj) _ ?h1 _ ?h2 _ ?h3
  case f => exact fun b _ a _ c _ P => ⟨(.type "function"),none,(.func ⟨(.ofString "decr"),(.ofString "MemoryStorage.decr"),a,(.stmts b),c,3,[],(.ref 508),.none,.none,(.str (.ofString "limits.storage.memory") 846),none,(.ref 514),.none,0⟩),#[]⟩
  case h1 => conv => rhs; whnf
  case h2 => conv => rhs; whnf
  case h3 => conv => rhs; whnf
noncomputable def o516v0 (P : Params) : Obj := ⟨(.type "tuple"),none,(.seq #[] 0),#[]⟩
noncomputable def o517v0 (P : Params) : Obj := ⟨.none,none,(.fields #[]),#[]⟩
noncomputable def o518v0 (P : Params) : Obj := ⟨(.type "tuple"),none,(.seq #[(.str (.ofString "self") 949),(.str (.ofString "key") 950)] 0),#[]⟩
noncomputable def o519v0 (P : Params) : Obj := ⟨(.type "tuple"),none,(.seq #[] 0),#[]⟩
noncomputable def o520v0 : Params → Obj := by
  refine' (?f : (b : List Stmt) → b = sBody (nth (sBody (nth progB 21)) 5) → (a : Arguments) → a = sArgs (nth (sBody (nth progB 21)) 5) → (c : Scope) → c = sScope (nth (sBody (nth progB 21)) 5) → Params → Obj) _ ?h1 _ ?h2 _ ?h3
  case f => exact fun b _ a _ c _ P => ⟨.none,none,(.func ⟨(.ofString "get"),(.ofString "MemoryStorage.get"),a,(.stmts b),c,0,[],.none,.none,.none,.none,none,.none,.none,0⟩),#[]⟩
  case h1 => conv => rhs; whnf
  case h2 => conv => rhs; whnf
  case h3 => conv => rhs; whnf
noncomputable def o521v0 (P : Params) : Obj := ⟨(.type "code"),none,(.fields #[(.str (.ofString "get") 946),(.str (.ofString "MemoryStorage.get") 947),(.str (.ofString "/claim/cut.py") 948),(.int 302 0),(.int 2 0),(.int 0 0),(.int 0 0),(.int 3 0),(.ref 516),(.bool true),(.int 181 0),(.ref 517),.none,(.ref 518),(.ref 519),(.ref 520),(.int 951 0),(.int 302 0),(.str (.ofString "/claim/cut.py") 952)]),#[]⟩
noncomputable def o522v0 : Params → Obj := by
  refine' (?f : (b : List Stmt) → b = sBody (nth (sBody (nth progB 21)) 5) → (a : Arguments) → a = sArgs (nth (sBody (nth progB 21)) 5) → (c : Scope) → c = sScope (nth (sBody (nth progB 21)) 5) → Params → Obj) _ ?h1 _ ?h2 _ ?h3
  case f => exact fun b _ a _ c _ P => ⟨(.type "function"),none,(.func ⟨(.ofString "get"),(.ofString "MemoryStorage.get"),a,(.stmts b),c,3,[],.none,.none,(.str (dS (nth (sBody (nth (sBody (nth progB 21)) 5)) 0)) 953),(.str (.ofString "limits.storage.memory") 846),none,(.ref 521),.none,0⟩),#[]⟩
  case h1 => conv => rhs; whnf
  case h2 => conv => rhs; whnf
  case h3 => conv => rhs; whnf
noncomputable def o523v0 (P : Params) : Obj := ⟨(.type "tuple"),none,(.seq #[] 0),#[]⟩
noncomputable def o524v0 (P : Params) : Obj := ⟨.none,none,(.fields #[]),#[]⟩
noncomputable def o525v0 (P : Params) : Obj := ⟨(.type "tuple"),none,(.seq #[(.str (.ofString "self") 958),(.str (.ofString "key") 959)] 0),#[]⟩
noncomputable def o526v0 (P : Params) : Obj := ⟨(.type "tuple"),none,(.seq #[] 0),#[]⟩
noncomputable def o527v0 : Params → Obj := by
  refine' (?f : (b : List Stmt) → b = sBody (nth (sBody (nth progB 21)) 6) → (a : Arguments) → a = sArgs (nth (sBody (nth progB 21)) 6) → (c : Scope) → c = sScope (nth (sBody (nth progB 21)) 6) → Params → Obj) _ ?h1 _ ?h2 _ ?h3
  case f => exact fun b _ a _ c _ P => ⟨.none,none,(.func ⟨(.ofString "clear"),(.ofString "MemoryStorage.clear"),a,(.stmts b),c,0,[],.none,.none,.none,.none,none,.none,.none,0⟩),#[]⟩
  case h1 => conv => rhs; whnf
  case h2 => conv => rhs; whnf
  case h3 => conv => rhs; whnf
noncomputable def o528v0 (P : Params) : Obj := ⟨(.type "code"),none,(.fields #[(.str (.ofString "clear") 955),(.str (.ofString "MemoryStorage.clear") 956),(.str (.ofString "/claim/cut.py") 957),(.int 311 0),(.int 2 0),(.int 0 0),(.int 0 0),(.int 3 0),(.ref 523),(.bool true),(.int 181 0),(.ref 524),.none,(.ref 525),(.ref 526),(.ref 527),(.int 960 0),(.int 311 0),(.str (.ofString "/claim/cut.py") 961)]),#[]⟩
noncomputable def o529v0 : Params → Obj := by
  refine' (?f : (b : List Stmt) → b = sBody (nth (sBody (nth progB 21)) 6) → (a : Arguments) → a = sArgs (nth (sBody (nth progB 21)) 6) → (c : Scope) → c = sScope (nth (sBody (nth progB 21)) 6) → Params → Obj) _ ?h1 _ ?h2 _ ?h3
  case f => exact fun b _ a _ c _ P => ⟨(.type "function"),none,(.func ⟨(.ofString "clear"),(.ofString "MemoryStorage.clear"),a,(.stmts b),c,3,[],.none,.none,(.str (dS (nth (sBody (nth (sBody (nth progB 21)) 6)) 0)) 962),(.str (.ofString "limits.storage.memory") 846),none,(.ref 528),.none,0⟩),#[]⟩
  case h1 => conv => rhs; whnf
  case h2 => conv => rhs; whnf
  case h3 => conv => rhs; whnf
noncomputable def o530v0 (P : Params) : Obj := ⟨(.type "tuple"),none,(.seq #[(.int 1 964)] 0),#[]⟩
noncomputable def o531v0 (P : Params) : Obj := ⟨(.type "tuple"),none,(.seq #[] 0),#[]⟩
noncomputable def o532v0 (P : Params) : Obj := ⟨.none,none,(.fields #[]),#[]⟩
noncomputable def o533v0 (P : Params) : Obj := ⟨(.type "tuple"),none,(.seq #[(.str (.ofString "self") 968),(.str (.ofString "key") 969),(.str (.ofString "limit") 970),(.str (.ofString "expiry") 971),(.str (.ofString "amount") 972),(.str (.ofString "timestamp") 973),(.str (.ofString "entry") 974)] 0),#[]⟩
noncomputable def o534v0 (P : Params) : Obj := ⟨(.type "tuple"),none,(.seq #[] 0),#[]⟩
noncomputable def o535v0 : Params → Obj := by
  refine' (?f : (b : List Stmt) → b = sBody (nth (sBody (nth progB 21)) 7) → (a : Arguments) → a = sArgs (nth (sBody (nth progB 21)) 7) → (c : Scope) → c = sScope (nth (sBody (nth progB 21)) 7) → Params → Obj) _ ?h1 _ ?h2 _ ?h3
  case f => exact fun b _ a _ c _ P => ⟨.none,none,(.func ⟨(.ofString "acquire_entry"),(.ofString "MemoryStorage.acquire_entry"),a,(.stmts b),c,0,[],.none,.none,.none,.none,none,.none,.none,0⟩),#[]⟩
  case h1 => conv => rhs; whnf
  case h2 => conv => rhs; whnf
  case h3 => conv => rhs; whnf
noncomputable def o536v0 (P : Params) : Obj := ⟨(.type "code"),none,(.fields #[(.str (.ofString "acquire_entry") 965),(.str (.ofString "MemoryStorage.acquire_entry") 966),(.str (.ofString "/claim/cut.py") 967),(.int 319 0),(.int 5 0),(.int 0 0),(.int 0 0),(.int 3 0),(.ref 531),(.bool true),(.int 181 0),(.ref 532),.none,(.ref 533),(.ref 534),(.ref 535),(.int 975 0),(.int 319 0),(.str (.ofString "/claim/cut.py") 976)]),#[]⟩
noncomputable def o537v0 : Params → Obj := by
  refine' (?f : (b : List Stmt) → b = sBody (nth (sBody (nth progB 21)) 7) → (a : Arguments) → a = sArgs (nth (sBody (nth progB 21)) 7) → (c : Scope) → c = sScope (nth (sBody (nth progB 21)) 7) → Params → Obj) _ ?h1 _ ?h2 _ ?h3
  case f => exact fun b _ a _ c _ P => ⟨(.type "function"),none,(.func ⟨(.ofString "acquire_entry"),(.ofString "MemoryStorage.acquire_entry"),a,(.stmts b),c,3,[],(.ref 530),.none,(.str (dS (nth (sBody (nth (sBody (nth progB 21)) 7)) 0)) 977),(.str (.ofString "limits.storage.memory") 846),none,(.ref 536),.none,0⟩),#[]⟩
  case h1 => conv => rhs; whnf
  case h2 => conv => rhs; whnf
  case h3 => conv => rhs; whnf
noncomputable def o538v0 (P : Params) : Obj := ⟨(.type "tuple"),none,(.seq #[] 0),#[]⟩
noncomputable def o539v0 (P : Params) : Obj := ⟨.none,none,(.fields #[]),#[]⟩
noncomputable def o540v0 (P : Params) : Obj := ⟨(.type "tuple"),none,(.seq #[(.str (.ofString "self") 982),(.str (.ofString "key") 983)] 0),#[]⟩
noncomputable def o541v0 (P : Params) : Obj := ⟨(.type "tuple"),none,(.seq #[] 0),#[]⟩
noncomputable def o542v0 : Params → Obj := by
  refine' (?f : (b : List Stmt) → b = sBody (nth (sBody (nth progB 21)) 8) → (a : Arguments) → a = sArgs (nth (sBody (nth progB 21)) 8) → (c : Scope) → c = sScope (nth (sBody (nth progB 21)) 8) → Params → Obj) _ ?h1 _ ?h2 _ ?h3
  case f => exact fun b _ a _ c _ P => ⟨.none,none,(.func ⟨(.ofString "get_expiry"),(.ofString "MemoryStorage.get_expiry"),a,(.stmts b),c,0,[],.none,.none,.none,.none,none,.none,.none,0⟩),#[]⟩
  case h1 => conv => rhs; whnf
  case h2 => conv => rhs; whnf
  case h3 => conv => rhs; whnf
noncomputable def o543v0 (P : Params) : Obj := ⟨(.type "code"),none,(.fields #[(.str (.ofString "get_expiry") 979),(.str (.ofString "MemoryStorage.get_expiry") 980),(.str (.ofString "/claim/cut.py") 981),(.int 340 0),(.int 2 0),(.int 0 0),(.int 0 0),(.int 3 0),(.ref 538),(.bool true),(.int 181 0),(.ref 539),.none,(.ref 540),(.ref 541),(.ref 542),(.int 984 0),(.int 340 0),(.str (.ofString "/claim/cut.py") 985)]),#[]⟩
noncomputable def o544v0 : Params → Obj := by
  refine' (?f : (b : List Stmt) → b = sBody (nth (sBody (nth progB 21)) 8) → (a : Arguments) → a = sArgs (nth (sBody (nth progB 21)) 8) → (c : Scope) → c = sScope (nth (sBody (nth progB 21)) 8) → Params → Obj) _ ?h1 _ ?h2 _ ?h3
  case f => exact fun b _ a _ c _ P => ⟨(.type "function"),none,(.func ⟨(.ofString "get_expiry"),(.ofString "MemoryStorage.get_expiry"),a,(.stmts b),c,3,[],.none,.none,(.str (dS (nth (sBody (nth (sBody (nth progB 21)) 8)) 0)) 986),(.str (.ofString "limits.storage.memory") 846),none,(.ref 543),.none,0⟩),#[]⟩
  case h1 => conv => rhs; whnf
  case h2 => conv => rhs; whnf
  case h3 => conv => rhs; whnf
noncomputable def o545v0 (P : Params) : Obj := ⟨(.type "tuple"),none,(.seq #[] 0),#[]⟩
noncomputable def o546v0 (P : Params) : Obj := ⟨.none,none,(.fields #[]),#[]⟩
noncomputable def o547v0 (P : Params) : Obj := ⟨(.type "tuple"),none,(.seq #[(.str (.ofString "self") 991),(.str (.ofString "key") 992),(.str (.ofString "limit") 993),(.str (.ofString "expiry") 994),(.str (.ofString "timestamp") 995),(.str (.ofString "events") 996),(.str (.ofString "oldest") 997)] 0),#[]⟩
noncomputable def o548v0 (P : Params) : Obj := ⟨(.type "tuple"),none,(.seq #[] 0),#[]⟩
noncomputable def o549v0 : Params → Obj := by
  refine' (?f : (b : List Stmt) → b = sBody (nth (sBody (nth progB 21)) 9) → (a : Arguments) → a = sArgs (nth (sBody (nth progB 21)) 9) → (c : Scope) → c = sScope (nth (sBody (nth progB 21)) 9) → Params → Obj) _ ?h1 _ ?h2 _ ?h3
  case f => exact fun b _ a _ c _ P => ⟨.none,none,(.func ⟨(.ofString "get_moving_window"),(.ofString "MemoryStorage.get_moving_window"),a,(.stmts b),c,0,[],.none,.none,.none,.none,none,.none,.none,0⟩),#[]⟩
  case h1 => conv => rhs; whnf
  case h2 => conv => rhs; whnf
  case h3 => conv => rhs; whnf
noncomputable def o550v0 (P : Params) : Obj := ⟨(.type "code"),none,(.fields #[(.str (.ofString "get_moving_window") 988),(.str (.ofString "MemoryStorage.get_moving_window") 989),(.str (.ofString "/claim/cut.py") 990),(.int 346 0),(.int 4 0),(.int 0 0),(.int 0 0),(.int 3 0),(.ref 545),(.bool true),(.int 181 0),(.ref 546),.none,(.ref 547),(.ref 548),(.ref 549),(.int 998 0),(.int 346 0),(.str (.ofString "/claim/cut.py") 999)]),#[]⟩
noncomputable def o551v0 : Params → Obj := by
  refine' (?f : (b : List Stmt) → b = sBody (nth (sBody (nth progB 21)) 9) → (a : Arguments) → a = sArgs (nth (sBody (nth progB 21)) 9) → (c : Scope) → c = sScope (nth (sBody (nth progB 21)) 9) → Params → Obj) _ ?h1 _ ?h2 _ ?h3
  case f => exact fun b _ a _ c _ P => ⟨(.type "function"),none,(.func ⟨(.ofString "get_moving_window"),(.ofString "MemoryStorage.get_moving_window"),a,(.stmts b),c,3,[],.none,.none,(.str (dS (nth (sBody (nth (sBody (nth progB 21)) 9)) 0)) 1000),(.str (.ofString "limits.storage.memory") 846),none,(.ref 550),.none,0⟩),#[]⟩
  case h1 => conv => rhs; whnf
  case h2 => conv => rhs; whnf
  case h3 => conv => rhs; whnf
noncomputable def o552v0 (P : Params) : Obj := ⟨(.type "tuple"),none,(.seq #[(.int 1 1002)] 0),#[]⟩
noncomputable def o553v0 (P : Params) : Obj := ⟨(.type "tuple"),none,(.seq #[] 0),#[]⟩
noncomputable def o554v0 (P : Params) : Obj := ⟨.none,none,(.fields #[]),#[]⟩
noncomputable def o555v0 (P : Params) : Obj := ⟨(.type "tuple"),none,(.seq #[(.str (.ofString "self") 1006),(.str (.ofString "key") 1007),(.str (.ofString "limit") 1008),(.str (.ofString "expiry") 1009),(.str (.ofString "amount") 1010)] 0),#[]⟩
noncomputable def o556v0 (P : Params) : Obj := ⟨(.type "tuple"),none,(.seq #[] 0),#[]⟩
noncomputable def o557v0 : Params → Obj := by
  refine' (?f : (b : List Stmt) → b = sBody (nth (sBody (nth progB 21)) 10) → (a : Arguments) → a = sArgs (nth (sBody (nth progB 21)) 10) → (c : Scope) → c = sScope (nth (sBody (nth progB 21)) 10) → Params → Obj) _ ?h1 _ ?h2 _ ?h3
  case f => exact fun b _ a _ c _ P => ⟨.none,none,(.func ⟨(.ofString "acquire_sliding_window_entry"),(.ofString "MemoryStorage.acquire_sliding_window_entry"),a,(.stmts b),c,0,[],.none,.none,.none,.none,none,.none,.none,0⟩),#[]⟩
  case h1 => conv => rhs; whnf
  case h2 => conv => rhs; whnf
  case h3 => conv => rhs; whnf
noncomputable def o558v0 (P : Params) : Obj := ⟨(.type "code"),none,(.fields #[(.str (.ofString "acquire_sliding_window_entry") 1003),(.str (.ofString "MemoryStorage.acquire_sliding_window_entry") 1004),(.str (.ofString "/claim/cut.py") 1005),(.int 362 0),(.int 5 0),(.int 0 0),(.int 0 0),(.int 3 0),(.ref 553),(.bool true),(.int 181 0),(.ref 554),.none,(.ref 555),(.ref 556),(.ref 557),(.int 1011 0),(.int 362 0),(.str (.ofString "/claim/cut.py") 1012)]),#[]⟩
noncomputable def o559v0 : Params → Obj := by
  refine' (?f : (b : List Stmt) → b = sBody (nth (sBody (nth progB 21)) 10) → (a : Arguments) → a = sArgs (nth (sBody (nth progB 21)) 10) → (c : Scope) → c = sScope (nth (sBody (nth progB 21)) 10) → Params → Obj) _ ?h1 _ ?h2 _ ?h3
  case f => exact fun b _ a _ c _ P => ⟨(.type "function"),none,(.func ⟨(.ofString "acquire_sliding_window_entry"),(.ofString "MemoryStorage.acquire_sliding_window_entry"),a,(.stmts b),c,3,[],(.ref 552),.none,.none,(.str (.ofString "limits.storage.memory") 846),none,(.ref 558),.none,0⟩),#[]⟩
  case h1 => conv => rhs; whnf
  case h2 => conv => rhs; whnf
  case h3 => conv => rhs; whnf
noncomputable def o560v0 (P : Params) : Obj := ⟨(.type "tuple"),none,(.seq #[] 0),#[]⟩
noncomputable def o561v0 (P : Params) : Obj := ⟨.none,none,(.fields #[]),#[]⟩
noncomputable def o562v0 (P : Params) : Obj := ⟨(.type "tuple"),none,(.seq #[(.str (.ofString "self") 1017),(.str (.ofString "previous_key") 1018),(.str (.ofString "current_key") 1019),(.str (.ofString "expiry") 1020),(.str (.ofString "now") 1021)] 0),#[]⟩
noncomputable def o563v0 (P : Params) : Obj := ⟨(.type "tuple"),none,(.seq #[] 0),#[]⟩
noncomputable def o564v0 : Params → Obj := by
  refine' (?f : (b : List Stmt) → b = sBody (nth (sBody (nth progB 21)) 11) → (a : Arguments) → a = sArgs (nth (sBody (nth progB 21)) 11) → (c : Scope) → c = sScope (nth (sBody (nth progB 21)) 11) → Params → Obj) _ ?h1 _ ?h2 _ ?h3
  case f => exact fun b _ a _ c _ P => ⟨.none,none,(.func ⟨(.ofString "_get_sliding_window_info"),(.ofString "MemoryStorage._get_sliding_window_info"),a,(.stmts b),c,0,[],.none,.none,.none,.none,none,.none,.none,0⟩),#[]⟩
  case h1 => conv => rhs; whnf
  case h2 => conv => rhs; whnf
  case h3 => conv => rhs; whnf
noncomputable def o565v0 (P : Params) : Obj := ⟨(.type "code"),none,(.fields #[(.str (.ofString "_get_sliding_window_info") 1014),(.str (.ofString "MemoryStorage._get_sliding_window_info") 1015),(.str (.ofString "/claim/cut.py") 1016),(.int 365 0),(.int 5 0),(.int 0 0),(.int 0 0),(.int 3 0),(.ref 560),(.bool true),(.int 181 0),(.ref 561),.none,(.ref 562),(.ref 563),(.ref 564),(.int 1022 0),(.int 365 0),(.str (.ofString "/claim/cut.py") 1023)]),#[]⟩
noncomputable def o566v0 : Params → Obj := by
  refine' (?f : (b : List Stmt) → b = sBody (nth (sBody (nth progB 21)) 11) → (a : Arguments) → a = sArgs (nth (sBody (nth progB 21)) 11) → (c : Scope) → c = sScope (nth (sBody (nth progB 21)) 11) → Params → Obj) _ ?h1 _ ?h2 _ ?h3
  case f => exact fun b _ a _ c _ P => ⟨(.type "function"),none,(.func ⟨(.ofString "_get_sliding_window_info"),(.ofString "MemoryStorage._get_sliding_window_info"),a,(.stmts b),c,3,[],.none,.none,.none,(.str (.ofString "limits.storage.memory") 846),none,(.ref 565),.none,0⟩),#[]⟩
  case h1 => conv => rhs; whnf
  case h2 => conv => rhs; whnf
  case h3 => conv => rhs; whnf
noncomputable def o567v0 (P : Params) : Obj := ⟨(.type "tuple"),none,(.seq #[] 0),#[]⟩
noncomputable def o568v0 (P : Params) : Obj := ⟨.none,none,(.fields #[]),#[]⟩
noncomputable def o569v0 (P : Params) : Obj := ⟨(.type "tuple"),none,(.seq #[(.str (.ofString "self") 1028),(.str (.ofString "key") 1029),(.str (.ofString "expiry") 1030)] 0),#[]⟩
noncomputable def o570v0 (P : Params) : Obj := ⟨(.type "tuple"),none,(.seq #[] 0),#[]⟩
noncomputable def o571v0 : Params → Obj := by
  refine' (?f : (b : List Stmt) → b = sBody (nth (sBody (nth progB 21)) 12) → (a : Arguments) → a = sArgs (nth (sBody (nth progB 21)) 12) → (c : Scope) → c = sScope (nth (sBody (nth progB 21)) 12) → Params → Obj) _ ?h1 _ ?h2 _ ?h3
  case f => exact fun b _ a _ c _ P => ⟨.none,none,(.func ⟨(.ofString "get_sliding_window"),(.ofString "MemoryStorage.get_sliding_window"),a,(.stmts b),c,0,[],.none,.none,.none,.none,none,.none,.none,0⟩),#[]⟩
  case h1 => conv => rhs; whnf
  case h2 => conv => rhs; whnf
  case h3 => conv => rhs; whnf
noncomputable def o572v0 (P : Params) : Obj := ⟨(.type "code"),none,(.fields #[(.str (.ofString "get_sliding_window") 1025),(.str (.ofString "MemoryStorage.get_sliding_window") 1026),(.str (.ofString "/claim/cut.py") 1027),(.int 368 0),(.int 3 0),(.int 0 0),(.int 0 0),(.int 3 0),(.ref 567),(.bool true),(.int 181 0),(.ref 568),.none,(.ref 569),(.ref 570),(.ref 571),(.int 1031 0),(.int 368 0),(.str (.ofString "/claim/cut.py") 1032)]),#[]⟩
noncomputable def o573v0 : Params → Obj := by
  refine' (?f : (b : List Stmt) → b = sBody (nth (sBody (nth progB 21)) 12) → (a : Arguments) → a = sArgs (nth (sBody (nth progB 21)) 12) → (c : Scope) → c = sScope (nth (sBody (nth progB 21)) 12) → Params → Obj) _ ?h1 _ ?h2 _ ?h3
  case f => exact fun b _ a _ c _ P => ⟨(.type "function"),none,(.func ⟨(.ofString "get_sliding_window"),(.ofString "MemoryStorage.get_sliding_window"),a,(.stmts b),c,3,[],.none,.none,.none,(.str (.ofString "limits.storage.memory") 846),none,(.ref 572),.none,0⟩),#[]⟩
  case h1 => conv => rhs; whnf
  case h2 => conv => rhs; whnf
  case h3 => conv => rhs; whnf
noncomputable def o574v0 (P : Params) : Obj := ⟨(.type "tuple"),none,(.seq #[] 0),#[]⟩
noncomputable def o575v0 (P : Params) : Obj := ⟨.none,none,(.fields #[]),#[]⟩
noncomputable def o576v0 (P : Params) : Obj := ⟨(.type "tuple"),none,(.seq #[(.str (.ofString "self") 1037),(.str (.ofString "key") 1038),(.str (.ofString "expiry") 1039)] 0),#[]⟩
noncomputable def o577v0 (P : Params) : Obj := ⟨(.type "tuple"),none,(.seq #[] 0),#[]⟩
noncomputable def o578v0 : Params → Obj := by
  refine' (?f : (b : List Stmt) → b = sBody (nth (sBody (nth progB 21)) 13) → (a : Arguments) → a = sArgs (nth (sBody (nth progB 21)) 13) → (c : Scope) → c = sScope (nth (sBody (nth progB 21)) 13) → Params → Obj) _ ?h1 _ ?h2 _ ?h3
  case f => exact fun b _ a _ c _ P => ⟨.none,none,(.func ⟨(.ofString "clear_sliding_window"),(.ofString "MemoryStorage.clear_sliding_window"),a,(.stmts b),c,0,[],.none,.none,.none,.none,none,.none,.none,0⟩),#[]⟩
  case h1 => conv => rhs; whnf
  case h2 => conv => rhs; whnf
  case h3 => conv => rhs; whnf
noncomputable def o579v0 (P : Params) : Obj := ⟨(.type "code"),none,(.fields #[(.str (.ofString "clear_sliding_window") 1034),(.str (.ofString "MemoryStorage.clear_sliding_window") 1035),(.str (.ofString "/claim/cut.py") 1036),(.int 371 0),(.int 3 0),(.int 0 0),(.int 0 0),(.int 3 0),(.ref 574),(.bool true),(.int 181 0),(.ref 575),.none,(.ref 576),(.ref 577),(.ref 578),(.int 1040 0),(.int 371 0),(.str (.ofString "/claim/cut.py") 1041)]),#[]⟩
noncomputable def o580v0 : Params → Obj := by
  refine' (?f : (b : List Stmt) → b = sBody (nth (sBody (nth progB 21)) 13) → (a : Arguments) → a = sArgs (nth (sBody (nth progB 21)) 13) → (c : Scope) → c = sScope (nth (sBody (nth progB 21)) 13) → Params → Obj) _ ?h1 _ ?h2 _ ?h3
  case f => exact fun b _ a _ c _ P => ⟨(.type "function"),none,(.func ⟨(.ofString "clear_sliding_window"),(.ofString "MemoryStorage.clear_sliding_window"),a,(.stmts b),c,3,[],.none,.none,.none,(.str (.ofString "limits.storage.memory") 846),none,(.ref 579),.none,0⟩),#[]⟩
  case h1 => conv => rhs; whnf
  case h2 => conv => rhs; whnf
  case h3 => conv => rhs; whnf
noncomputable def o581v0 (P : Params) : Obj := ⟨(.type "tuple"),none,(.seq #[] 0),#[]⟩
noncomputable def o582v0 (P : Params) : Obj := ⟨.none,none,(.fields #[]),#[]⟩
noncomputable def o583v0 (P : Params) : Obj := ⟨(.type "tuple"),none,(.seq #[(.str (.ofString "self") 1046)] 0),#[]⟩
noncomputable def o584v0 (P : Params) : Obj := ⟨(.type "tuple"),none,(.seq #[] 0),#[]⟩
noncomputable def o585v0 : Params → Obj := by
  refine' (?f : (b : List Stmt) → b = sBody (nth (sBody (nth progB 21)) 14) → (a : Arguments) → a = sArgs (nth (sBody (nth progB 21)) 14) → (c : Scope) → c = sScope (nth (sBody (nth progB 21)) 14) → Params → Obj) _ ?h1 _ ?h2 _ ?h3
  case f => exact fun b _ a _ c _ P => ⟨.none,none,(.func ⟨(.ofString "check"),(.ofString "MemoryStorage.check"),a,(.stmts b),c,0,[],.none,.none,.none,.none,none,.none,.none,0⟩),#[]⟩
  case h1 => conv => rhs; whnf
  case h2 => conv => rhs; whnf
  case h3 => conv => rhs; whnf
noncomputable def o586v0 (P : Params) : Obj := ⟨(.type "code"),none,(.fields #[(.str (.ofString "check") 1043),(.str (.ofString "MemoryStorage.check") 1044),(.str (.ofString "/claim/cut.py") 1045),(.int 374 0),(.int 1 0),(.int 0 0),(.int 0 0),(.int 3 0),(.ref 581),(.bool true),(.int 181 0),(.ref 582),.none,(.ref 583),(.ref 584),(.ref 585),(.int 1047 0),(.int 374 0),(.str (.ofString "/claim/cut.py") 1048)]),#[]⟩
noncomputable def o587v0 : Params → Obj := by
  refine' (?f : (b : List Stmt) → b = sBody (nth (sBody (nth progB 21)) 14) → (a : Arguments) → a = sArgs (nth (sBody (nth progB 21)) 14) → (c : Scope) → c = sScope (nth (sBody (nth progB 21)) 14) → Params → Obj) _ ?h1 _ ?h2 _ ?h3
  case f => exact fun b _ a _ c _ P => ⟨(.type "function"),none,(.func ⟨(.ofString "check"),(.ofString "MemoryStorage.check"),a,(.stmts b),c,3,[],.none,.none,.none,(.str (.ofString "limits.storage.memory") 846),none,(.ref 586),.none,0⟩),#[]⟩
  case h1 => conv => rhs; whnf
  case h2 => conv => rhs; whnf
  case h3 => conv => rhs; whnf
noncomputable def o588v0 (P : Params) : Obj := ⟨(.type "tuple"),none,(.seq #[] 0),#[]⟩
noncomputable def o589v0 (P : Params) : Obj := ⟨.none,none,(.fields #[]),#[]⟩
noncomputable def o590v0 (P : Params) : Obj := ⟨(.type "tuple"),none,(.seq #[(.str (.ofString "self") 1053),(.str (.ofString "num_items") 1054)] 0),#[]⟩
noncomputable def o591v0 (P : Params) : Obj := ⟨(.type "tuple"),none,(.seq #[] 0),#[]⟩
noncomputable def o592v0 : Params → Obj := by
  refine' (?f : (b : List Stmt) → b = sBody (nth (sBody (nth progB 21)) 15) → (a : Arguments) → a = sArgs (nth (sBody (nth progB 21)) 15) → (c : Scope) → c = sScope (nth (sBody (nth progB 21)) 15) → Params → Obj) _ ?h1 _ ?h2 _ ?h3
  case f => exact fun b _ a _ c _ P => ⟨.none,none,(.func ⟨(.ofString "reset"),(.ofString "MemoryStorage.reset"),a,(.stmts b),c,0,[],.none,.none,.none,.none,none,.none,.none,0⟩),#[]⟩
  case h1 => conv => rhs; whnf
  case h2 => conv => rhs; whnf
  case h3 => conv => rhs; whnf
noncomputable def o593v0 (P : Params) : Obj := ⟨(.type "code"),none,(.fields #[(.str (.ofString "reset") 1050),(.str (.ofString "MemoryStorage.reset") 1051),(.str (.ofString "/claim/cut.py") 1052),(.int 377 0),(.int 1 0),(.int 0 0),(.int 0 0),(.int 3 0),(.ref 588),(.bool true),(.int 181 0),(.ref 589),.none,(.ref 590),(.ref 591),(.ref 592),(.int 1055 0),(.int 377 0),(.str (.ofString "/claim/cut.py") 1056)]),#[]⟩
noncomputable def o594v0 : Params → Obj := by
  refine' (?f : (b : List Stmt) → b = sBody (nth (sBody (nth progB 21)) 15) → (a : Arguments) → a = sArgs (nth (sBody (nth progB 21)) 15) → (c : Scope) → c = sScope (nth (sBody (nth progB 21)) 15) → Params → Obj) _ ?h1 _ ?h2 _ ?h3
  case f => exact fun b _ a _ c _ P => ⟨(.type "function"),none,(.func ⟨(.ofString "reset"),(.ofString "MemoryStorage.reset"),a,(.stmts b),c,3,[],.none,.none,.none,(.str (.ofString "limits.storage.memory") 846),none,(.ref 593),.none,0⟩),#[]⟩
  case h1 => conv => rhs; whnf
  case h2 => conv => rhs; whnf
  case h3 => conv => rhs; whnf
noncomputable def o595v0 (P : Params) : Obj := ⟨(.type "tuple"),none,(.seq #[(.str (.ofString "clock") 1058),(.str (.ofString "events") 1059),(.str (.ofString "expirations") 1060),(.str (.ofString "storage") 1061)] 0),#[]⟩
noncomputable def o596v0 (P : Params) : Obj := ⟨(.type "dict"),none,(.dict #[⟨(PySem.PyData.keyHash P (.ofString "__module__")),(.str (.ofString "__module__") 899),(.str (.ofString "limits.storage.memory") 846)⟩,⟨(PySem.PyData.keyHash P (.ofString "__firstlineno__")),(.str (.ofString "__firstlineno__") 903),(.int 271 902)⟩,⟨(PySem.PyData.keyHash P (.ofString "__doc__")),(.str (.ofString "__doc__") 905),(.str (dS (nth (sBody (nth progB 21)) 0)) 904)⟩,⟨(PySem.PyData.keyHash P (.ofString "__init__")),(.str (.ofString "__init__") 914),(.ref 492)⟩,⟨(PySem.PyData.keyHash P (.ofString "expire_events")),(.str (.ofString "expire_events") 924),(.ref 499)⟩,⟨(PySem.PyData.keyHash P (.ofString "incr")),(.str (.ofString "incr") 935),(.ref 507)⟩,⟨(PySem.PyData.keyHash P (.ofString "decr")),(.str (.ofString "decr") 945),(.ref 515)⟩,⟨(PySem.PyData.keyHash P (.ofString "get")),(.str (.ofString "get") 954),(.ref 522)⟩,⟨(PySem.PyData.keyHash P (.ofString "clear")),(.str (.ofString "clear") 963),(.ref 529)⟩,⟨(PySem.PyData.keyHash P (.ofString "acquire_entry")),(.str (.ofString "acquire_entry") 978),(.ref 537)⟩,⟨(PySem.PyData.keyHash P (.ofString "get_expiry")),(.str (.ofString "get_expiry") 987),(.ref 544)⟩,⟨(PySem.PyData.keyHash P (.ofString "get_moving_window")),(.str (.ofString "get_moving_window") 1001),(.ref 551)⟩,⟨(PySem.PyData.keyHash P (.ofString "acquire_sliding_window_entry")),(.str (.ofString "acquire_sliding_window_entry") 1013),(.ref 559)⟩,⟨(PySem.PyData.keyHash P (.ofString "_get_sliding_window_info")),(.str (.ofString "_get_sliding_window_info") 1024),(.ref 566)⟩,⟨(PySem.PyData.keyHash P (.ofString "get_sliding_window")),(.str (.ofString "get_sliding_window") 1033),(.ref 573)⟩,⟨(PySem.PyData.keyHash P (.ofString "clear_sliding_window")),(.str (.ofString "clear_sliding_window") 1042),(.ref 580)⟩,⟨(PySem.PyData.keyHash P (.ofString "check")),(.str (.ofString "check") 1049),(.ref 587)⟩,⟨(PySem.PyData.keyHash P (.ofString "reset")),(.str (.ofString "reset") 1057),(.ref 594)⟩,⟨(PySem.PyData.keyHash P (.ofString "__static_attributes__")),(.str (.ofString "__static_attributes__") 1062),(.ref 595)⟩] 1),#[]⟩
noncomputable def o597v0 (P : Params) : Obj := ⟨(.type "type"),none,(.cls ⟨(.ofString "MemoryStorage"),[(.ref 446)],[(.ref 597),(.ref 446),(.type "object")],596,(.ofString "MemoryStorage"),true,[],[],false,none,false⟩),#[(some (.ref 479)),none,(some (.str (.ofString "MemoryStorage") 892)),(some (.str (.ofString "MemoryStorage") 900)),(some (.builtin "object.__new__")),(some (.bool true))]⟩
noncomputable def o598v0 (P : Params) : Obj := ⟨(.type "super"),none,(.fields #[(.ref 597),(.ref 597),(.ref 597)]),#[]⟩
noncomputable def o599v0 (P : Params) : Obj := ⟨(.type "builtin_function_or_method"),none,(.fields #[(.builtin "object.__init_subclass__"),(.ref 597)]),#[]⟩
noncomputable def o600v0 (P : Params) : Obj := ⟨(.type "tuple"),none,(.seq #[(.int 0 1067),(.int 0 1068),(.int 1 1069),(.int 3 1070),(.int 5 1071),(.int 10 1072),(.int 27 1073),(.int 50 1074)] 0),#[]⟩
noncomputable def o601v0 (P : Params) : Obj := ⟨(.type "tuple"),none,(.seq #[(.str (.ofString "a") 1076)] 0),#[]⟩
noncomputable def o602v0 (P : Params) : Obj := ⟨(.type "tuple"),none,(.seq #[(.str (.ofString "b") 1077)] 0),#[]⟩
noncomputable def o603v0 (P : Params) : Obj := ⟨(.type "tuple"),none,(.seq #[(.str (.ofString "a") 1078),(.str (.ofString "b") 1079)] 0),#[]⟩
noncomputable def o604v0 (P : Params) : Obj := ⟨(.type "tuple"),none,(.seq #[(.ref 601),(.ref 602),(.ref 603)] 0),#[]⟩
noncomputable def o605v0 (P : Params) : Obj := ⟨(.type "tuple"),none,(.seq #[] 0),#[]⟩
noncomputable def o606v0 (P : Params) : Obj := ⟨.none,none,(.fields #[]),#[]⟩
noncomputable def o607v0 (P : Params) : Obj := ⟨(.type "tuple"),none,(.seq #[(.str (.ofString "kept") 1084),(.str (.ofString "who") 1085),(.str (.ofString "since") 1086),(.str (.ofString "total") 1087),(.str (.ofString "first") 1088),(.str (.ofString "row") 1089)] 0),#[]⟩
noncomputable def o608v0 (P : Params) : Obj := ⟨(.type "tuple"),none,(.seq #[] 0),#[]⟩
noncomputable def o609v0 : Params → Obj := by
  refine' (?f : (b : List Stmt) → b = sBody (nth progB 25) → (a : Arguments) → a = sArgs (nth progB 25) → (c : Scope) → c = sScope (nth progB 25) → Params → Obj) _ ?h1 _ ?h2 _ ?h3
  case f => exact fun b _ a _ c _ P => ⟨.none,none,(.func ⟨(.ofString "_law_counted"),(.ofString "_law_counted"),a,(.stmts b),c,0,[],.none,.none,.none,.none,none,.none,.none,0⟩),#[]⟩
  case h1 => conv => rhs; whnf
  case h2 => conv => rhs; whnf
  case h3 => conv => rhs; whnf
noncomputable def o610v0 (P : Params) : Obj := ⟨(.type "code"),none,(.fields #[(.str (.ofString "_law_counted") 1081),(.str (.ofString "_law_counted") 1082),(.str (.ofString "/claim/cut.py") 1083),(.int 386 0),(.int 3 0),(.int 0 0),(.int 0 0),(.int 3 0),(.ref 605),(.bool true),(.int 181 0),(.ref 606),.none,(.ref 607),(.ref 608),(.ref 609),(.int 1090 0),(.int 386 0),(.str (.ofString "/claim/cut.py") 1091)]),#[]⟩
noncomputable def o611v0 : Params → Obj := by
  refine' (?f : (b : List Stmt) → b = sBody (nth progB 25) → (a : Arguments) → a = sArgs (nth progB 25) → (c : Scope) → c = sScope (nth progB 25) → Params → Obj) _ ?h1 _ ?h2 _ ?h3
  case f => exact fun b _ a _ c _ P => ⟨(.type "function"),none,(.func ⟨(.ofString "_law_counted"),(.ofString "_law_counted"),a,(.stmts b),c,3,[],.none,.none,.none,(.str (.ofString "law_jb0022_01") 1065),none,(.ref 610),.none,0⟩),#[]⟩
  case h1 => conv => rhs; whnf
  case h2 => conv => rhs; whnf
  case h3 => conv => rhs; whnf
noncomputable def o612v0 (P : Params) : Obj := ⟨(.type "tuple"),none,(.seq #[] 0),#[]⟩
noncomputable def o613v0 (P : Params) : Obj := ⟨.none,none,(.fields #[]),#[]⟩
noncomputable def o614v0 : Params → Obj := by
  refine' (?f : (b : List Stmt) → b = sBody (nth progB 26) → (a : Arguments) → a = sArgs (nth progB 26) → (c : Scope) → c = sScope (nth progB 26) → Params → Obj) _ ?h1 _ ?h2 _ ?h3
  case f => exact fun b _ a _ c _ P => ⟨.none,none,(.func ⟨(.ofString "law"),(.ofString "law"),a,(.stmts b),c,0,[],.none,.none,.none,.none,none,.none,.none,0⟩),#[]⟩
  case h1 => conv => rhs; whnf
  case h2 => conv => rhs; whnf
  case h3 => conv => rhs; whnf
noncomputable def o615v0 (P : Params) : Obj := ⟨(.type "code"),none,(.fields #[(.str (.ofString "law") 1093),(.str (.ofString "law") 1094),(.str (.ofString "/claim/cut.py") 1095),(.int 395 0),(.int 1 0),(.int 0 0),(.int 0 0),(.int 3 0),(.ref 612),(.bool true),(.int 181 0),(.ref 613),.none,.none,.none,(.ref 614),(.int 1096 0),(.int 395 0),(.str (.ofString "/claim/cut.py") 1097)]),#[]⟩
noncomputable def o616v0 : Params → Obj := by
  refine' (?f : (b : List Stmt) → b = sBody (nth progB 26) → (a : Arguments) → a = sArgs (nth progB 26) → (c : Scope) → c = sScope (nth progB 26) → Params → Obj) _ ?h1 _ ?h2 _ ?h3
  case f => exact fun b _ a _ c _ P => ⟨(.type "function"),none,(.func ⟨(.ofString "law"),(.ofString "law"),a,(.stmts b),c,3,[],.none,.none,.none,(.str (.ofString "law_jb0022_01") 1065),none,(.ref 615),.none,0⟩),#[]⟩
  case h1 => conv => rhs; whnf
  case h2 => conv => rhs; whnf
  case h3 => conv => rhs; whnf
noncomputable def tr7 (P : Params) : BT := (.node (PySem.W.boot_o_0 P) (.node (PySem.W.boot_o_1 P) (.node (o3v7 P) (.node (PySem.W.boot_o_7 P) (.node (o15v0 P) (.node (o31v0 P) (.node (o63v0 P) (.node (o127v0 P) (.node (o255v0 P) (.node (o511v0 P) .nil .nil) .nil) (.node (o383v0 P) .nil .nil)) (.node (o191v0 P) (.node (o319v0 P) (.node (o575v0 P) .nil .nil) .nil) (.node (o447v0 P) .nil .nil))) (.node (o95v0 P) (.node (o159v0 P) (.node (o287v0 P) (.node (o543v0 P) .nil .nil) .nil) (.node (o415v0 P) .nil .nil)) (.node (o223v0 P) (.node (o351v0 P) (.node (o607v0 P) .nil .nil) .nil) (.node (o479v0 P) .nil .nil)))) (.node (o47v0 P) (.node (o79v0 P) (.node (o143v0 P) (.node (o271v0 P) (.node (o527v0 P) .nil .nil) .nil) (.node (o399v0 P) .nil .nil)) (.node (o207v0 P) (.node (o335v0 P) (.node (o591v0 P) .nil .nil) .nil) (.node (o463v0 P) .nil .nil))) (.node (o111v0 P) (.node (o175v0 P) (.node (o303v0 P) (.node (o559v0 P) .nil .nil) .nil) (.node (o431v0 P) .nil .nil)) (.node (o239v0 P) (.node (o367v0 P) .nil .nil) (.node (o495v0 P) .nil .nil))))) (.node (o23v0 P) (.node (o39v0 P) (.node (o71v0 P) (.node (o135v0 P) (.node (o263v0 P) (.node (o519v0 P) .nil .nil) .nil) (.node (o391v0 P) .nil .nil)) (.node (o199v0 P) (.node (o327v0 P) (.node (o583v0 P) .nil .nil) .nil) (.node (o455v0 P) .nil .nil))) (.node (o103v0 P) (.node (o167v0 P) (.node (o295v0 P) (.node (o551v0 P) .nil .nil) .nil) (.node (o423v0 P) .nil .nil)) (.node (o231v0 P) (.node (o359v0 P) (.node (o615v0 P) .nil .nil) .nil) (.node (o487v0 P) .nil .nil)))) (.node (o55v0 P) (.node (o87v0 P) (.node (o151v0 P) (.node (o279v0 P) (.node (o535v0 P) .nil .nil) .nil) (.node (o407v0 P) .nil .nil)) (.node (o215v0 P) (.node (o343v0 P) (.node (o599v0 P) .nil .nil) .nil) (.node (o471v0 P) .nil .nil))) (.node (o119v0 P) (.node (o183v0 P) (.node (o311v0 P) (.node (o567v0 P) .nil .nil) .nil) (.node (o439v0 P) .nil .nil)) (.node (o247v0 P) (.node (o375v0 P) .nil .nil) (.node (o503v0 P) .nil .nil)))))) (.node (o11v0 P) (.node (o19v0 P) (.node (o35v0 P) (.node (o67v0 P) (.node (o131v0 P) (.node (o259v0 P) (.node (o515v0 P) .nil .nil) .nil) (.node (o387v0 P) .nil .nil)) (.node (o195v0 P) (.node (o323v0 P) (.node (o579v0 P) .nil .nil) .nil) (.node (o451v0 P) .nil .nil))) (.node (o99v0 P) (.node (o163v0 P) (.node (o291v0 P) (.node (o547v0 P) .nil .nil) .nil) (.node (o419v0 P) .nil .nil)) (.node (o227v0 P) (.node (o355v0 P) (.node (o611v0 P) .nil .nil) .nil) (.node (o483v0 P) .nil .nil)))) (.node (o51v0 P) (.node (o83v0 P) (.node (o147v0 P) (.node (o275v0 P) (.node (o531v0 P) .nil .nil) .nil) (.node (o403v0 P) .nil .nil)) (.node (o211v0 P) (.node (o339v0 P) (.node (o595v0 P) .nil .nil) .nil) (.node (o467v0 P) .nil .nil))) (.node (o115v0 P) (.node (o179v0 P) (.node (o307v0 P) (.node (o563v0 P) .nil .nil) .nil) (.node (o435v0 P) .nil .nil)) (.node (o243v0 P) (.node (o371v0 P) .nil .nil) (.node (o499v0 P) .nil .nil))))) (.node (o27v0 P) (.node (o43v0 P) (.node (o75v0 P) (.node (o139v0 P) (.node (o267v0 P) (.node (o523v0 P) .nil .nil) .nil) (.node (o395v0 P) .nil .nil)) (.node (o203v0 P) (.node (o331v0 P) (.node (o587v0 P) .nil .nil) .nil) (.node (o459v0 P) .nil .nil))) (.node (o107v0 P) (.node (o171v0 P) (.node (o299v0 P) (.node (o555v0 P) .nil .nil) .nil) (.node (o427v0 P) .nil .nil)) (.node (o235v0 P) (.node (o363v0 P) .nil .nil) (.node (o491v0 P) .nil .nil)))) (.node (o59v0 P) (.node (o91v0 P) (.node (o155v0 P) (.node (o283v0 P) (.node (o539v0 P) .nil .nil) .nil) (.node (o411v0 P) .nil .nil)) (.node (o219v0 P) (.node (o347v0 P) (.node (o603v0 P) .nil .nil) .nil) (.node (o475v0 P) .nil .nil))) (.node (o123v0 P) (.node (o187v0 P) (.node (o315v0 P) (.node (o571v0 P) .nil .nil) .nil) (.node (o443v0 P) .nil .nil)) (.node (o251v0 P) (.node (o379v0 P) .nil .nil) (.node (o507v0 P) .nil .nil))))))) (.node (PySem.W.boot_o_5 P) (.node (PySem.W.boot_o_9 P) (.node (o17v0 P) (.node (o33v0 P) (.node (o65v0 P) (.node (o129v0 P) (.node (o257v0 P) (.node (o513v0 P) .nil .nil) .nil) (.node (o385v0 P) .nil .nil)) (.node (o193v0 P) (.node (o321v0 P) (.node (o577v0 P) .nil .nil) .nil) (.node (o449v0 P) .nil .nil))) (.node (o97v0 P) (.node (o161v0 P) (.node (o289v0 P) (.node (o545v0 P) .nil .nil) .nil) (.node (o417v0 P) .nil .nil)) (.node (o225v0 P) (.node (o353v0 P) (.node (o609v0 P) .nil .nil) .nil) (.node (o481v0 P) .nil .nil)))) (.node (o49v0 P) (.node (o81v0 P) (.node (o145v0 P) (.node (o273v0 P) (.node (o529v0 P) .nil .nil) .nil) (.node (o401v0 P) .nil .nil)) (.node (o209v0 P) (.node (o337v0 P) (.node (o593v0 P) .nil .nil) .nil) (.node (o465v0 P) .nil .nil))) (.node (o113v0 P) (.node (o177v0 P) (.node (o305v0 P) (.node (o561v0 P) .nil .nil) .nil) (.node (o433v0 P) .nil .nil)) (.node (o241v0 P) (.node (o369v0 P) .nil .nil) (.node (o497v0 P) .nil .nil))))) (.node (o25v0 P) (.node (o41v0 P) (.node (o73v0 P) (.node (o137v0 P) (.node (o265v0 P) (.node (o521v0 P) .nil .nil) .nil) (.node (o393v0 P) .nil .nil)) (.node (o201v0 P) (.node (o329v0 P) (.node (o585v0 P) .nil .nil) .nil) (.node (o457v0 P) .nil .nil))) (.node (o105v0 P) (.node (o169v0 P) (.node (o297v0 P) (.node (o553v0 P) .nil .nil) .nil) (.node (o425v0 P) .nil .nil)) (.node (o233v0 P) (.node (o361v0 P) .nil .nil) (.node (o489v0 P) .nil .nil)))) (.node (o57v0 P) (.node (o89v0 P) (.node (o153v0 P) (.node (o281v0 P) (.node (o537v0 P) .nil .nil) .nil) (.node (o409v0 P) .nil .nil)) (.node (o217v0 P) (.node (o345v0 P) (.node (o601v0 P) .nil .nil) .nil) (.node (o473v0 P) .nil .nil))) (.node (o121v0 P) (.node (o185v0 P) (.node (o313v0 P) (.node (o569v0 P) .nil .nil) .nil) (.node (o441v0 P) .nil .nil)) (.node (o249v0 P) (.node (o377v0 P) .nil .nil) (.node (o505v0 P) .nil .nil)))))) (.node (o13v0 P) (.node (o21v0 P) (.node (o37v0 P) (.node (o69v0 P) (.node (o133v0 P) (.node (o261v0 P) (.node (o517v0 P) .nil .nil) .nil) (.node (o389v0 P) .nil .nil)) (.node (o197v0 P) (.node (o325v0 P) (.node (o581v0 P) .nil .nil) .nil) (.node (o453v0 P) .nil .nil))) (.node (o101v0 P) (.node (o165v0 P) (.node (o293v0 P) (.node (o549v0 P) .nil .nil) .nil) (.node (o421v0 P) .nil .nil)) (.node (o229v0 P) (.node (o357v0 P) (.node (o613v0 P) .nil .nil) .nil) (.node (o485v0 P) .nil .nil)))) (.node (o53v0 P) (.node (o85v0 P) (.node (o149v0 P) (.node (o277v0 P) (.node (o533v0 P) .nil .nil) .nil) (.node (o405v0 P) .nil .nil)) (.node (o213v0 P) (.node (o341v0 P) (.node (o597v0 P) .nil .nil) .nil) (.node (o469v0 P) .nil .nil))) (.node (o117v0 P) (.node (o181v0 P) (.node (o309v0 P) (.node (o565v0 P) .nil .nil) .nil) (.node (o437v0 P) .nil .nil)) (.node (o245v0 P) (.node (o373v0 P) .nil .nil) (.node (o501v0 P) .nil .nil))))) (.node (o29v0 P) (.node (o45v0 P) (.node (o77v0 P) (.node (o141v0 P) (.node (o269v0 P) (.node (o525v0 P) .nil .nil) .nil) (.node (o397v0 P) .nil .nil)) (.node (o205v0 P) (.node (o333v0 P) (.node (o589v0 P) .nil .nil) .nil) (.node (o461v0 P) .nil .nil))) (.node (o109v0 P) (.node (o173v0 P) (.node (o301v0 P) (.node (o557v0 P) .nil .nil) .nil) (.node (o429v0 P) .nil .nil)) (.node (o237v0 P) (.node (o365v0 P) .nil .nil) (.node (o493v0 P) .nil .nil)))) (.node (o61v0 P) (.node (o93v0 P) (.node (o157v0 P) (.node (o285v0 P) (.node (o541v0 P) .nil .nil) .nil) (.node (o413v0 P) .nil .nil)) (.node (o221v0 P) (.node (o349v0 P) (.node (o605v0 P) .nil .nil) .nil) (.node (o477v0 P) .nil .nil))) (.node (o125v0 P) (.node (o189v0 P) (.node (o317v0 P) (.node (o573v0 P) .nil .nil) .nil) (.node (o445v0 P) .nil .nil)) (.node (o253v0 P) (.node (o381v0 P) .nil .nil) (.node (o509v0 P) .nil .nil)))))))) (.node (PySem.W.boot_o_2 P) (.node (PySem.W.boot_o_4 P) (.node (PySem.W.boot_o_8 P) (.node (o16v0 P) (.node (o32v0 P) (.node (o64v0 P) (.node (o128v0 P) (.node (o256v0 P) (.node (o512v0 P) .nil .nil) .nil) (.node (o384v0 P) .nil .nil)) (.node (o192v0 P) (.node (o320v0 P) (.node (o576v0 P) .nil .nil) .nil) (.node (o448v0 P) .nil .nil))) (.node (o96v0 P) (.node (o160v0 P) (.node (o288v0 P) (.node (o544v0 P) .nil .nil) .nil) (.node (o416v0 P) .nil .nil)) (.node (o224v0 P) (.node (o352v0 P) (.node (o608v0 P) .nil .nil) .nil) (.node (o480v0 P) .nil .nil)))) (.node (o48v0 P) (.node (o80v0 P) (.node (o144v0 P) (.node (o272v0 P) (.node (o528v0 P) .nil .nil) .nil) (.node (o400v0 P) .nil .nil)) (.node (o208v0 P) (.node (o336v0 P) (.node (o592v0 P) .nil .nil) .nil) (.node (o464v0 P) .nil .nil))) (.node (o112v0 P) (.node (o176v0 P) (.node (o304v0 P) (.node (o560v0 P) .nil .nil) .nil) (.node (o432v0 P) .nil .nil)) (.node (o240v0 P) (.node (o368v0 P) .nil .nil) (.node (o496v0 P) .nil .nil))))) (.node (o24v0 P) (.node (o40v0 P) (.node (o72v0 P) (.node (o136v0 P) (.node (o264v0 P) (.node (o520v0 P) .nil .nil) .nil) (.node (o392v0 P) .nil .nil)) (.node (o200v0 P) (.node (o328v0 P) (.node (o584v0 P) .nil .nil) .nil) (.node (o456v0 P) .nil .nil))) (.node (o104v0 P) (.node (o168v0 P) (.node (o296v0 P) (.node (o552v0 P) .nil .nil) .nil) (.node (o424v0 P) .nil .nil)) (.node (o232v0 P) (.node (o360v0 P) (.node (o616v0 P) .nil .nil) .nil) (.node (o488v0 P) .nil .nil)))) (.node (o56v0 P) (.node (o88v0 P) (.node (o152v0 P) (.node (o280v0 P) (.node (o536v0 P) .nil .nil) .nil) (.node (o408v0 P) .nil .nil)) (.node (o216v0 P) (.node (o344v0 P) (.node (o600v0 P) .nil .nil) .nil) (.node (o472v0 P) .nil .nil))) (.node (o120v0 P) (.node (o184v0 P) (.node (o312v0 P) (.node (o568v0 P) .nil .nil) .nil) (.node (o440v0 P) .nil .nil)) (.node (o248v0 P) (.node (o376v0 P) .nil .nil) (.node (o504v0 P) .nil .nil)))))) (.node (o12v7 P) (.node (o20v0 P) (.node (o36v0 P) (.node (o68v0 P) (.node (o132v0 P) (.node (o260v0 P) (.node (o516v0 P) .nil .nil) .nil) (.node (o388v1 P) .nil .nil)) (.node (o196v0 P) (.node (o324v0 P) (.node (o580v0 P) .nil .nil) .nil) (.node (o452v0 P) .nil .nil))) (.node (o100v0 P) (.node (o164v0 P) (.node (o292v0 P) (.node (o548v0 P) .nil .nil) .nil) (.node (o420v0 P) .nil .nil)) (.node (o228v0 P) (.node (o356v0 P) (.node (o612v0 P) .nil .nil) .nil) (.node (o484v0 P) .nil .nil)))) (.node (o52v0 P) (.node (o84v0 P) (.node (o148v0 P) (.node (o276v0 P) (.node (o532v0 P) .nil .nil) .nil) (.node (o404v0 P) .nil .nil)) (.node (o212v0 P) (.node (o340v0 P) (.node (o596v0 P) .nil .nil) .nil) (.node (o468v0 P) .nil .nil))) (.node (o116v0 P) (.node (o180v0 P) (.node (o308v0 P) (.node (o564v0 P) .nil .nil) .nil) (.node (o436v0 P) .nil .nil)) (.node (o244v0 P) (.node (o372v0 P) .nil .nil) (.node (o500v0 P) .nil .nil))))) (.node (o28v0 P) (.node (o44v0 P) (.node (o76v0 P) (.node (o140v0 P) (.node (o268v0 P) (.node (o524v0 P) .nil .nil) .nil) (.node (o396v0 P) .nil .nil)) (.node (o204v0 P) (.node (o332v0 P) (.node (o588v0 P) .nil .nil) .nil) (.node (o460v0 P) .nil .nil))) (.node (o108v0 P) (.node (o172v0 P) (.node (o300v0 P) (.node (o556v0 P) .nil .nil) .nil) (.node (o428v0 P) .nil .nil)) (.node (o236v0 P) (.node (o364v0 P) .nil .nil) (.node (o492v0 P) .nil .nil)))) (.node (o60v0 P) (.node (o92v0 P) (.node (o156v0 P) (.node (o284v0 P) (.node (o540v0 P) .nil .nil) .nil) (.node (o412v0 P) .nil .nil)) (.node (o220v0 P) (.node (o348v0 P) (.node (o604v0 P) .nil .nil) .nil) (.node (o476v0 P) .nil .nil))) (.node (o124v0 P) (.node (o188v0 P) (.node (o316v0 P) (.node (o572v0 P) .nil .nil) .nil) (.node (o444v0 P) .nil .nil)) (.node (o252v0 P) (.node (o380v0 P) .nil .nil) (.node (o508v0 P) .nil .nil))))))) (.node (PySem.W.boot_o_6 P) (.node (PySem.W.boot_o_10 P) (.node (o18v0 P) (.node (o34v0 P) (.node (o66v0 P) (.node (o130v0 P) (.node (o258v0 P) (.node (o514v0 P) .nil .nil) .nil) (.node (o386v0 P) .nil .nil)) (.node (o194v0 P) (.node (o322v0 P) (.node (o578v0 P) .nil .nil) .nil) (.node (o450v0 P) .nil .nil))) (.node (o98v0 P) (.node (o162v0 P) (.node (o290v0 P) (.node (o546v0 P) .nil .nil) .nil) (.node (o418v0 P) .nil .nil)) (.node (o226v0 P) (.node (o354v0 P) (.node (o610v0 P) .nil .nil) .nil) (.node (o482v0 P) .nil .nil)))) (.node (o50v0 P) (.node (o82v0 P) (.node (o146v0 P) (.node (o274v0 P) (.node (o530v0 P) .nil .nil) .nil) (.node (o402v0 P) .nil .nil)) (.node (o210v0 P) (.node (o338v0 P) (.node (o594v0 P) .nil .nil) .nil) (.node (o466v0 P) .nil .nil))) (.node (o114v0 P) (.node (o178v0 P) (.node (o306v0 P) (.node (o562v0 P) .nil .nil) .nil) (.node (o434v0 P) .nil .nil)) (.node (o242v0 P) (.node (o370v0 P) .nil .nil) (.node (o498v0 P) .nil .nil))))) (.node (o26v0 P) (.node (o42v0 P) (.node (o74v0 P) (.node (o138v0 P) (.node (o266v0 P) (.node (o522v0 P) .nil .nil) .nil) (.node (o394v0 P) .nil .nil)) (.node (o202v0 P) (.node (o330v0 P) (.node (o586v0 P) .nil .nil) .nil) (.node (o458v0 P) .nil .nil))) (.node (o106v0 P) (.node (o170v0 P) (.node (o298v0 P) (.node (o554v0 P) .nil .nil) .nil) (.node (o426v0 P) .nil .nil)) (.node (o234v0 P) (.node (o362v0 P) .nil .nil) (.node (o490v0 P) .nil .nil)))) (.node (o58v0 P) (.node (o90v0 P) (.node (o154v0 P) (.node (o282v0 P) (.node (o538v0 P) .nil .nil) .nil) (.node (o410v0 P) .nil .nil)) (.node (o218v0 P) (.node (o346v0 P) (.node (o602v0 P) .nil .nil) .nil) (.node (o474v0 P) .nil .nil))) (.node (o122v0 P) (.node (o186v0 P) (.node (o314v0 P) (.node (o570v0 P) .nil .nil) .nil) (.node (o442v0 P) .nil .nil)) (.node (o250v0 P) (.node (o378v0 P) .nil .nil) (.node (o506v0 P) .nil .nil)))))) (.node (o14v0 P) (.node (o22v0 P) (.node (o38v0 P) (.node (o70v0 P) (.node (o134v0 P) (.node (o262v0 P) (.node (o518v0 P) .nil .nil) .nil) (.node (o390v0 P) .nil .nil)) (.node (o198v0 P) (.node (o326v0 P) (.node (o582v0 P) .nil .nil) .nil) (.node (o454v0 P) .nil .nil))) (.node (o102v0 P) (.node (o166v0 P) (.node (o294v0 P) (.node (o550v0 P) .nil .nil) .nil) (.node (o422v0 P) .nil .nil)) (.node (o230v0 P) (.node (o358v0 P) (.node (o614v0 P) .nil .nil) .nil) (.node (o486v0 P) .nil .nil)))) (.node (o54v0 P) (.node (o86v0 P) (.node (o150v0 P) (.node (o278v0 P) (.node (o534v0 P) .nil .nil) .nil) (.node (o406v0 P) .nil .nil)) (.node (o214v0 P) (.node (o342v0 P) (.node (o598v0 P) .nil .nil) .nil) (.node (o470v0 P) .nil .nil))) (.node (o118v0 P) (.node (o182v0 P) (.node (o310v0 P) (.node (o566v0 P) .nil .nil) .nil) (.node (o438v0 P) .nil .nil)) (.node (o246v0 P) (.node (o374v0 P) .nil .nil) (.node (o502v0 P) .nil .nil))))) (.node (o30v0 P) (.node (o46v0 P) (.node (o78v0 P) (.node (o142v0 P) (.node (o270v0 P) (.node (o526v0 P) .nil .nil) .nil) (.node (o398v0 P) .nil .nil)) (.node (o206v0 P) (.node (o334v0 P) (.node (o590v0 P) .nil .nil) .nil) (.node (o462v0 P) .nil .nil))) (.node (o110v0 P) (.node (o174v0 P) (.node (o302v0 P) (.node (o558v0 P) .nil .nil) .nil) (.node (o430v0 P) .nil .nil)) (.node (o238v0 P) (.node (o366v0 P) .nil .nil) (.node (o494v0 P) .nil .nil)))) (.node (o62v0 P) (.node (o94v0 P) (.node (o158v0 P) (.node (o286v0 P) (.node (o542v0 P) .nil .nil) .nil) (.node (o414v0 P) .nil .nil)) (.node (o222v0 P) (.node (o350v0 P) (.node (o606v0 P) .nil .nil) .nil) (.node (o478v0 P) .nil .nil))) (.node (o126v0 P) (.node (o190v0 P) (.node (o318v0 P) (.node (o574v0 P) .nil .nil) .nil) (.node (o446v1 P) .nil .nil)) (.node (o254v0 P) (.node (o382v0 P) .nil .nil) (.node (o510v0 P) .nil .nil)))))))))
noncomputable def hp8 (P : Params) : Heap := ⟨⟨[PySem.W.boot_o_0 P, PySem.W.boot_o_1 P, PySem.W.boot_o_2 P, o3v7 P, PySem.W.boot_o_4 P, PySem.W.boot_o_5 P, PySem.W.boot_o_6 P, PySem.W.boot_o_7 P, PySem.W.boot_o_8 P, PySem.W.boot_o_9 P, PySem.W.boot_o_10 P, o11v0 P, o12v7 P, o13v0 P, o14v0 P, o15v0 P, o16v0 P, o17v0 P, o18v0 P, o19v0 P, o20v0 P, o21v0 P, o22v0 P, o23v0 P, o24v0 P, o25v0 P, o26v0 P, o27v0 P, o28v0 P, o29v0 P, o30v0 P, o31v0 P, o32v0 P, o33v0 P, o34v0 P, o35v0 P, o36v0 P, o37v0 P, o38v0 P, o39v0 P, o40v0 P, o41v0 P, o42v0 P, o43v0 P, o44v0 P, o45v0 P, o46v0 P, o47v0 P, o48v0 P, o49v0 P, o50v0 P, o51v0 P, o52v0 P, o53v0 P, o54v0 P, o55v0 P, o56v0 P, o57v0 P, o58v0 P, o59v0 P, o60v0 P, o61v0 P, o62v0 P, o63v0 P, o64v0 P, o65v0 P, o66v0 P, o67v0 P, o68v0 P, o69v0 P, o70v0 P, o71v0 P, o72v0 P, o73v0 P, o74v0 P, o75v0 P, o76v0 P, o77v0 P, o78v0 P, o79v0 P, o80v0 P, o81v0 P, o82v0 P, o83v0 P, o84v0 P, o85v0 P, o86v0 P, o87v0 P, o88v0 P, o89v0 P, o90v0 P, o91v0 P, o92v0 P, o93v0 P, o94v0 P, o95v0 P, o96v0 P, o97v0 P, o98v0 P, o99v0 P, o100v0 P, o101v0 P, o102v0 P, o103v0 P, o104v0 P, o105v0 P, o106v0 P, o107v0 P, o108v0 P, o109v0 P, o110v0 P, o111v0 P, o112v0 P, o113v0 P, o114v0 P, o115v0 P, o116v0 P, o117v0 P, o118v0 P, o119v0 P, o120v0 P, o121v0 P, o122v0 P, o123v0 P, o124v0 P, o125v0 P, o126v0 P, o127v0 P, o128v0 P, o129v0 P, o130v0 P, o131v0 P, o132v0 P, o133v0 P, o134v0 P, o135v0 P, o136v0 P, o137v0 P, o138v0 P, o139v0 P, o140v0 P, o141v0 P, o142v0 P, o143v0 P, o144v0 P, o145v0 P, o146v0 P, o147v0 P, o148v0 P, o149v0 P, o150v0 P, o151v0 P, o152v0 P, o153v0 P, o154v0 P, o155v0 P, o156v0 P, o157v0 P, o158v0 P, o159v0 P, o160v0 P, o161v0 P, o162v0 P, o163v0 P, o164v0 P, o165v0 P, o166v0 P, o167v0 P, o168v0 P, o169v0 P, o170v0 P, o171v0 P, o172v0 P, o173v0 P, o174v0 P, o175v0 P, o176v0 P, o177v0 P, o178v0 P, o179v0 P, o180v0 P, o181v0 P, o182v0 P, o183v0 P, o184v0 P, o185v0 P, o186v0 P, o187v0 P, o188v0 P, o189v0 P, o190v0 P, o191v0 P, o192v0 P, o193v0 P, o194v0 P, o195v0 P, o196v0 P, o197v0 P, o198v0 P, o199v0 P, o200v0 P, o201v0 P, o202v0 P, o203v0 P, o204v0 P, o205v0 P, o206v0 P, o207v0 P, o208v0 P, o209v0 P, o210v0 P, o211v0 P, o212v0 P, o213v0 P, o214v0 P, o215v0 P, o216v0 P, o217v0 P, o218v0 P, o219v0 P, o220v0 P, o221v0 P, o222v0 P, o223v0 P, o224v0 P, o225v0 P, o226v0 P, o227v0 P, o228v0 P, o229v0 P, o230v0 P, o231v0 P, o232v0 P, o233v0 P, o234v0 P, o235v0 P, o236v0 P, o237v0 P, o238v0 P, o239v0 P, o240v0 P, o241v0 P, o242v0 P, o243v0 P, o244v0 P, o245v0 P, o246v0 P, o247v0 P, o248v0 P, o249v0 P, o250v0 P, o251v0 P, o252v0 P, o253v0 P, o254v0 P, o255v0 P, o256v0 P, o257v0 P, o258v0 P, o259v0 P, o260v0 P, o261v0 P, o262v0 P, o263v0 P, o264v0 P, o265v0 P, o266v0 P, o267v0 P, o268v0 P, o269v0 P, o270v0 P, o271v0 P, o272v0 P, o273v0 P, o274v0 P, o275v0 P, o276v0 P, o277v0 P, o278v0 P, o279v0 P, o280v0 P, o281v0 P, o282v0 P, o283v0 P, o284v0 P, o285v0 P, o286v0 P, o287v0 P, o288v0 P, o289v0 P, o290v0 P, o291v0 P, o292v0 P, o293v0 P, o294v0 P, o295v0 P, o296v0 P, o297v0 P, o298v0 P, o299v0 P, o300v0 P, o301v0 P, o302v0 P, o303v0 P, o304v0 P, o305v0 P, o306v0 P, o307v0 P, o308v0 P, o309v0 P, o310v0 P, o311v0 P, o312v0 P, o313v0 P, o314v0 P, o315v0 P, o316v0 P, o317v0 P, o318v0 P, o319v0 P, o320v0 P, o321v0 P, o322v0 P, o323v0 P, o324v0 P, o325v0 P, o326v0 P, o327v0 P, o328v0 P, o329v0 P, o330v0 P, o331v0 P, o332v0 P, o333v0 P, o334v0 P, o335v0 P, o336v0 P, o337v0 P, o338v0 P, o339v0 P, o340v0 P, o341v0 P, o342v0 P, o343v0 P, o344v0 P, o345v0 P, o346v0 P, o347v0 P, o348v0 P, o349v0 P, o350v0 P, o351v0 P, o352v0 P, o353v0 P, o354v0 P, o355v0 P, o356v0 P, o357v0 P, o358v0 P, o359v0 P, o360v0 P, o361v0 P, o362v0 P, o363v0 P, o364v0 P, o365v0 P, o366v0 P, o367v0 P, o368v0 P, o369v0 P, o370v0 P, o371v0 P, o372v0 P, o373v0 P, o374v0 P, o375v0 P, o376v0 P, o377v0 P, o378v0 P, o379v0 P, o380v0 P, o381v0 P, o382v0 P, o383v0 P, o384v0 P, o385v0 P, o386v0 P, o387v0 P, o388v1 P, o389v0 P, o390v0 P, o391v0 P, o392v0 P, o393v0 P, o394v0 P, o395v0 P, o396v0 P, o397v0 P, o398v0 P, o399v0 P, o400v0 P, o401v0 P, o402v0 P, o403v0 P, o404v0 P, o405v0 P, o406v0 P, o407v0 P, o408v0 P, o409v0 P, o410v0 P, o411v0 P, o412v0 P, o413v0 P, o414v0 P, o415v0 P, o416v0 P, o417v0 P, o418v0 P, o419v0 P, o420v0 P, o421v0 P, o422v0 P, o423v0 P, o424v0 P, o425v0 P, o426v0 P, o427v0 P, o428v0 P, o429v0 P, o430v0 P, o431v0 P, o432v0 P, o433v0 P, o434v0 P, o435v0 P, o436v0 P, o437v0 P, o438v0 P, o439v0 P, o440v0 P, o441v0 P, o442v0 P, o443v0 P, o444v0 P, o445v0 P, o446v1 P, o447v0 P, o448v0 P, o449v0 P, o450v0 P, o451v0 P, o452v0 P, o453v0 P, o454v0 P, o455v0 P, o456v0 P, o457v0 P, o458v0 P, o459v0 P, o460v0 P, o461v0 P, o462v0 P, o463v0 P, o464v0 P, o465v0 P, o466v0 P, o467v0 P, o468v0 P, o469v0 P, o470v0 P, o471v0 P, o472v0 P, o473v0 P, o474v0 P, o475v0 P, o476v0 P, o477v0 P, o478v0 P, o479v0 P, o480v0 P, o481v0 P, o482v0 P, o483v0 P, o484v0 P, o485v0 P, o486v0 P, o487v0 P, o488v0 P, o489v0 P, o490v0 P, o491v0 P, o492v0 P, o493v0 P, o494v0 P, o495v0 P, o496v0 P, o497v0 P, o498v0 P, o499v0 P, o500v0 P, o501v0 P, o502v0 P, o503v0 P, o504v0 P, o505v0 P, o506v0 P, o507v0 P, o508v0 P, o509v0 P, o510v0 P, o511v0 P, o512v0 P, o513v0 P, o514v0 P, o515v0 P, o516v0 P, o517v0 P, o518v0 P, o519v0 P, o520v0 P, o521v0 P, o522v0 P, o523v0 P, o524v0 P, o525v0 P, o526v0 P, o527v0 P, o528v0 P, o529v0 P, o530v0 P, o531v0 P, o532v0 P, o533v0 P, o534v0 P, o535v0 P, o536v0 P, o537v0 P, o538v0 P, o539v0 P, o540v0 P, o541v0 P, o542v0 P, o543v0 P, o544v0 P, o545v0 P, o546v0 P, o547v0 P, o548v0 P, o549v0 P, o550v0 P, o551v0 P, o552v0 P, o553v0 P, o554v0 P, o555v0 P, o556v0 P, o557v0 P, o558v0 P, o559v0 P, o560v0 P, o561v0 P, o562v0 P, o563v0 P, o564v0 P, o565v0 P, o566v0 P, o567v0 P, o568v0 P, o569v0 P, o570v0 P, o571v0 P, o572v0 P, o573v0 P, o574v0 P, o575v0 P, o576v0 P, o577v0 P, o578v0 P, o579v0 P, o580v0 P, o581v0 P, o582v0 P, o583v0 P, o584v0 P, o585v0 P, o586v0 P, o587v0 P, o588v0 P, o589v0 P, o590v0 P, o591v0 P, o592v0 P, o593v0 P, o594v0 P, o595v0 P, o596v0 P, o597v0 P, o598v0 P, o599v0 P, o600v0 P, o601v0 P, o602v0 P, o603v0 P, o604v0 P, o605v0 P, o606v0 P, o607v0 P, o608v0 P, o609v0 P, o610v0 P, o611v0 P, o612v0 P, o613v0 P, o614v0 P, o615v0 P, o616v0 P]⟩, life0⟩

noncomputable def env0 : Env := { scope := PySem.Challenge.pw_jb0022_01.main.scope, locals := mainNs, globals := mainNs, cells := [], code := .ref 13, frame := some 14 }
noncomputable def bB : List Stmt := behindTheImports PySem.Challenge.pw_jb0022_01
noncomputable def cE : Code := .body bB env0
def p0 : Pos := ⟨0, 0, 0, 0⟩
noncomputable def sn (t : Params → BT) (n k : Nat) (w : World) (os : OsState) : SharedT := ⟨t w.params, n, life0, Array.mk [], PySem.W.boot_drawn, k, os⟩

noncomputable def s0 (w : World) (os : OsState) : Shared := ⟨PySem.W.boot_heap w.params, Array.mk [], PySem.W.boot_drawn, PySem.W.boot_toks, os⟩
noncomputable def sa (w : World) (os : OsState) : Shared := ⟨hp0 w.params, Array.mk [], PySem.W.boot_drawn, 187, os⟩
noncomputable def sf (w : World) (os : OsState) : Shared := ⟨hp8 w.params, Array.mk [], PySem.W.boot_drawn, 1099, os⟩
theorem h_pre (w : World) (os : OsState) : topGo treeTable PySem.Challenge.pw_jb0022_01 w 11 (some (.ref 6)) 12 (s0 w os) (topStub PySem.Challenge.pw_jb0022_01) = some (sa w os, ⟨denote treeTable cE, cE, p0, [topFrame p0]⟩) := by
  rw [PySem.W.Fast.te14364793385576792824]; kernel_rfl
theorem h_block (w : World) (os : OsState) : segRun treeTable PySem.Challenge.pw_jb0022_01 w 11 (some (.ref 6)) 1 1 (sa w os) (blockOf bB env0 cE p0 [topFrame p0]) = some (.next, (sn tr0 15 187 w os).abs, cE, p0) := by
  rw [PySem.W.Fast.te14364793385576792824]; kernel_rfl

noncomputable def g0 : List Stmt := (bB.drop 0).take 4
theorem h_0 (w : World) (os : OsState) : segRunT treeTable PySem.Challenge.pw_jb0022_01 w 11 (some (.ref 6)) 1 372 (sn tr0 15 187 w os) (piecesOf g0 env0 cE p0 [topFrame p0]) = some (.next, (sn tr1 65 254 w os), cE, ⟨23, 0, 23, 16⟩) := by
  rw [PySem.W.Fast.te10110043849684766642, PySem.W.Fast.te14364793385576792824]; kernel_rfl

noncomputable def g1 : List Stmt := (bB.drop 4).take 2
theorem h_1 (w : World) (os : OsState) : segRunT treeTable PySem.Challenge.pw_jb0022_01 w 11 (some (.ref 6)) 1 909 (sn tr1 65 254 w os) (piecesOf g1 env0 cE ⟨23, 0, 23, 16⟩ [topFrame p0]) = some (.next, (sn tr2 136 371 w os), cE, ⟨66, 0, 66, 8⟩) := by
  rw [PySem.W.Fast.te10110043849684766642, PySem.W.Fast.te14364793385576792824]; kernel_rfl

noncomputable def g2 : List Stmt := (bB.drop 6).take 6
theorem h_2 (w : World) (os : OsState) : segRunT treeTable PySem.Challenge.pw_jb0022_01 w 11 (some (.ref 6)) 1 965 (sn tr2 136 371 w os) (piecesOf g2 env0 cE ⟨66, 0, 66, 8⟩ [topFrame p0]) = some (.next, (sn tr3 255 532 w os), cE, ⟨137, 0, 143, 21⟩) := by
  rw [PySem.W.Fast.te10110043849684766642, PySem.W.Fast.te14364793385576792824]; kernel_rfl

noncomputable def g3 : List Stmt := (bB.drop 12).take 1
theorem h_3 (w : World) (os : OsState) : segRunT treeTable PySem.Challenge.pw_jb0022_01 w 11 (some (.ref 6)) 1 900 (sn tr3 255 532 w os) (piecesOf g3 env0 cE ⟨137, 0, 143, 21⟩ [topFrame p0]) = some (.next, (sn tr4 326 647 w os), cE, ⟨144, 0, 185, 60⟩) := by
  rw [PySem.W.Fast.te10110043849684766642, PySem.W.Fast.te14364793385576792824]; kernel_rfl

noncomputable def g4 : List Stmt := (bB.drop 13).take 2
theorem h_4 (w : World) (os : OsState) : segRunT treeTable PySem.Challenge.pw_jb0022_01 w 11 (some (.ref 6)) 1 925 (sn tr4 326 647 w os) (piecesOf g4 env0 cE ⟨144, 0, 185, 60⟩ [topFrame p0]) = some (.next, (sn tr5 410 772 w os), cE, ⟨235, 0, 240, 14⟩) := by
  rw [PySem.W.Fast.te10110043849684766642, PySem.W.Fast.te14364793385576792824]; kernel_rfl

noncomputable def g5 : List Stmt := (bB.drop 15).take 6
theorem h_5 (w : World) (os : OsState) : segRunT treeTable PySem.Challenge.pw_jb0022_01 w 11 (some (.ref 6)) 1 997 (sn tr5 410 772 w os) (piecesOf g5 env0 cE ⟨235, 0, 240, 14⟩ [topFrame p0]) = some (.next, (sn tr6 479 892 w os), cE, ⟨266, 0, 270, 41⟩) := by
  rw [PySem.W.Fast.te10110043849684766642, PySem.W.Fast.te14364793385576792824]; kernel_rfl

noncomputable def g6 : List Stmt := (bB.drop 21).take 6
theorem h_6 (w : World) (os : OsState) : segRunT treeTable PySem.Challenge.pw_jb0022_01 w 11 (some (.ref 6)) 1 843 (sn tr6 479 892 w os) (piecesOf g6 env0 cE ⟨266, 0, 270, 41⟩ [topFrame p0]) = some (.next, (sn tr7 617 1099 w os), cE, ⟨395, 0, 440, 16⟩) := by
  rw [PySem.W.Fast.te10110043849684766642, PySem.W.Fast.te14364793385576792824]; kernel_rfl

theorem h_fin (w : World) (os : OsState) : topRun treeTable PySem.Challenge.pw_jb0022_01 w 11 (some (.ref 6)) 2 (sn tr7 617 1099 w os).abs ⟨doneF .next, cE, ⟨395, 0, 440, 16⟩, [topFrame p0]⟩ = some (sf w os) := by
  rw [PySem.W.Fast.te14364793385576792824]; kernel_rfl
theorem h_run (w : World) (os : OsState) : topRun treeTable PySem.Challenge.pw_jb0022_01 w 11 (some (.ref 6)) (12 + (1 + (372 + (909 + (965 + (900 + (925 + (997 + (843 + 2))))))))) (s0 w os) (topStub PySem.Challenge.pw_jb0022_01) = some (sf w os) :=
  go_top (h_pre w os) (piece_block (h_block w os) (show topRun treeTable PySem.Challenge.pw_jb0022_01 w 11 (some (.ref 6)) _ (sn tr0 15 187 w os).abs (restOf (g0 ++ (g1 ++ (g2 ++ (g3 ++ (g4 ++ (g5 ++ (g6 ++ []))))))) env0 cE p0 [topFrame p0]) = _ from
    piece_app (segRun_of (h_0 w os)) (piece_app (segRun_of (h_1 w os)) (piece_app (segRun_of (h_2 w os)) (piece_app (segRun_of (h_3 w os)) (piece_app (segRun_of (h_4 w os)) (piece_app (segRun_of (h_5 w os)) (piece_app (segRun_of (h_6 w os)) (piece_nil (h_fin w os))))))))))

noncomputable def VW : Program := by
  refine' (?f : (b0 : Stmt) → b0 = nth progB 0 → (b2 : Stmt) → b2 = nth progB 2 → (b3 : Stmt) → b3 = nth progB 3 → (b4 : Stmt) → b4 = nth progB 4 → (b6 : Stmt) → b6 = nth progB 6 → (b7 : Stmt) → b7 = nth progB 7 → (b9 : Stmt) → b9 = nth progB 9 → (b10 : Stmt) → b10 = nth progB 10 → (b11 : Stmt) → b11 = nth progB 11 → (b12 : Stmt) → b12 = nth progB 12 → (b13 : Stmt) → b13 = nth progB 13 → (b14 : Stmt) → b14 = nth progB 14 → (b15 : Stmt) → b15 = nth progB 15 → (b17 : Stmt) → b17 = nth progB 17 → (b19 : Stmt) → b19 = nth progB 19 → (b20 : Stmt) → b20 = nth progB 20 → (b21 : Stmt) → b21 = nth progB 21 → (b23 : Stmt) → b23 = nth progB 23 → (b24 : Stmt) → b24 = nth progB 24 → (b25 : Stmt) → b25 = nth progB 25 → (b26 : Stmt) → b26 = nth progB 26 → Program) _ ?h0 _ ?h2 _ ?h3 _ ?h4 _ ?h6 _ ?h7 _ ?h9 _ ?h10 _ ?h11 _ ?h12 _ ?h13 _ ?h14 _ ?h15 _ ?h17 _ ?h19 _ ?h20 _ ?h21 _ ?h23 _ ?h24 _ ?h25 _ ?h26
  case f => exact fun b0 _ b2 _ b3 _ b4 _ b6 _ b7 _ b9 _ b10 _ b11 _ b12 _ b13 _ b14 _ b15 _ b17 _ b19 _ b20 _ b21 _ b23 _ b24 _ b25 _ b26 _ => { PySem.Challenge.pw_jb0022_01 with main := { (PySem.Challenge.pw_jb0022_01).main with body := [b0, b2, b3, b4, b6, b7, b9, b10, b11, b12, b13, b14, b15, b17, b19, b20, b21, b23, b24, b25, b26] } }
  case h0 => conv => rhs; whnf
  case h2 => conv => rhs; whnf
  case h3 => conv => rhs; whnf
  case h4 => conv => rhs; whnf
  case h6 => conv => rhs; whnf
  case h7 => conv => rhs; whnf
  case h9 => conv => rhs; whnf
  case h10 => conv => rhs; whnf
  case h11 => conv => rhs; whnf
  case h12 => conv => rhs; whnf
  case h13 => conv => rhs; whnf
  case h14 => conv => rhs; whnf
  case h15 => conv => rhs; whnf
  case h17 => conv => rhs; whnf
  case h19 => conv => rhs; whnf
  case h20 => conv => rhs; whnf
  case h21 => conv => rhs; whnf
  case h23 => conv => rhs; whnf
  case h24 => conv => rhs; whnf
  case h25 => conv => rhs; whnf
  case h26 => conv => rhs; whnf

def lz : List PySem.Str := [.ofString "_tuplegetter", .ofString "tuplegetter_util", .ofString "WindowStats", .ofString "RateLimiter", .ofString "MovingWindowRateLimiter", .ofString "tuplegetter_limits", .ofString "Granularity", .ofString "RateLimitItem", .ofString "RateLimitItemPerMinute", .ofString "RateLimitItemPerSecond", .ofString "TimestampedSlidingWindow", .ofString "MemoryStorage"]

noncomputable def HeapK : Params → Frag := by
  refine' (?f : (v : Params → Frag) → v = (fun P => (nat_lit 2, PySem.W.boot_o_2 P):: (nat_lit 3, o3v7 P):: (nat_lit 15, o15v0 P):: (nat_lit 17, o17v0 P):: (nat_lit 18, o18v0 P):: (nat_lit 20, o20v0 P):: (nat_lit 21, o21v0 P):: (nat_lit 29, o29v0 P):: (nat_lit 31, o31v0 P):: (nat_lit 32, o32v0 P):: (nat_lit 34, o34v0 P):: (nat_lit 35, o35v0 P):: (nat_lit 36, o36v0 P):: (nat_lit 37, o37v0 P):: (nat_lit 39, o39v0 P):: (nat_lit 40, o40v0 P):: (nat_lit 42, o42v0 P):: (nat_lit 43, o43v0 P):: (nat_lit 44, o44v0 P):: (nat_lit 46, o46v0 P):: (nat_lit 47, o47v0 P):: (nat_lit 49, o49v0 P):: (nat_lit 50, o50v0 P):: (nat_lit 51, o51v0 P):: (nat_lit 53, o53v0 P):: (nat_lit 54, o54v0 P):: (nat_lit 56, o56v0 P):: (nat_lit 57, o57v0 P):: (nat_lit 58, o58v0 P):: (nat_lit 59, o59v0 P):: (nat_lit 60, o60v0 P):: (nat_lit 61, o61v0 P):: (nat_lit 62, o62v0 P):: (nat_lit 65, o65v0 P):: (nat_lit 68, o68v0 P):: (nat_lit 73, o73v0 P):: (nat_lit 74, o74v0 P):: (nat_lit 75, o75v0 P):: (nat_lit 76, o76v0 P):: (nat_lit 78, o78v0 P):: (nat_lit 79, o79v0 P):: (nat_lit 81, o81v0 P):: (nat_lit 82, o82v0 P):: (nat_lit 83, o83v0 P):: (nat_lit 85, o85v0 P):: (nat_lit 86, o86v0 P):: (nat_lit 88, o88v0 P):: (nat_lit 89, o89v0 P):: (nat_lit 90, o90v0 P):: (nat_lit 91, o91v0 P):: (nat_lit 92, o92v0 P):: (nat_lit 93, o93v0 P):: (nat_lit 94, o94v0 P):: (nat_lit 96, o96v0 P):: (nat_lit 97, o97v0 P):: (nat_lit 99, o99v0 P):: (nat_lit 100, o100v0 P):: (nat_lit 101, o101v0 P):: (nat_lit 103, o103v0 P):: (nat_lit 104, o104v0 P):: (nat_lit 106, o106v0 P):: (nat_lit 107, o107v0 P):: (nat_lit 108, o108v0 P):: (nat_lit 110, o110v0 P):: (nat_lit 111, o111v0 P):: (nat_lit 113, o113v0 P):: (nat_lit 114, o114v0 P):: (nat_lit 115, o115v0 P):: (nat_lit 117, o117v0 P):: (nat_lit 118, o118v0 P):: (nat_lit 120, o120v0 P):: (nat_lit 121, o121v0 P):: (nat_lit 122, o122v0 P):: (nat_lit 123, o123v0 P):: (nat_lit 124, o124v0 P):: (nat_lit 126, o126v0 P):: (nat_lit 127, o127v0 P):: (nat_lit 129, o129v0 P):: (nat_lit 131, o131v0 P):: (nat_lit 132, o132v0 P):: (nat_lit 133, o133v0 P):: (nat_lit 143, o143v0 P):: (nat_lit 145, o145v0 P):: (nat_lit 146, o146v0 P):: (nat_lit 148, o148v0 P):: (nat_lit 149, o149v0 P):: (nat_lit 150, o150v0 P):: (nat_lit 151, o151v0 P):: (nat_lit 152, o152v0 P):: (nat_lit 154, o154v0 P):: (nat_lit 155, o155v0 P):: (nat_lit 157, o157v0 P):: (nat_lit 158, o158v0 P):: (nat_lit 159, o159v0 P):: (nat_lit 160, o160v0 P):: (nat_lit 161, o161v0 P):: (nat_lit 162, o162v0 P):: (nat_lit 163, o163v0 P):: (nat_lit 166, o166v0 P):: (nat_lit 173, o173v0 P):: (nat_lit 174, o174v0 P):: (nat_lit 175, o175v0 P):: (nat_lit 177, o177v0 P):: (nat_lit 178, o178v0 P):: (nat_lit 180, o180v0 P):: (nat_lit 181, o181v0 P):: (nat_lit 182, o182v0 P):: (nat_lit 183, o183v0 P):: (nat_lit 184, o184v0 P):: (nat_lit 186, o186v0 P):: (nat_lit 187, o187v0 P):: (nat_lit 189, o189v0 P):: (nat_lit 190, o190v0 P):: (nat_lit 191, o191v0 P):: (nat_lit 192, o192v0 P):: (nat_lit 193, o193v0 P):: (nat_lit 195, o195v0 P):: (nat_lit 196, o196v0 P):: (nat_lit 198, o198v0 P):: (nat_lit 199, o199v0 P):: (nat_lit 200, o200v0 P):: (nat_lit 201, o201v0 P):: (nat_lit 202, o202v0 P):: (nat_lit 212, o212v0 P):: (nat_lit 214, o214v0 P):: (nat_lit 215, o215v0 P):: (nat_lit 217, o217v0 P):: (nat_lit 218, o218v0 P):: (nat_lit 219, o219v0 P):: (nat_lit 220, o220v0 P):: (nat_lit 222, o222v0 P):: (nat_lit 223, o223v0 P):: (nat_lit 225, o225v0 P):: (nat_lit 226, o226v0 P):: (nat_lit 227, o227v0 P):: (nat_lit 229, o229v0 P):: (nat_lit 230, o230v0 P):: (nat_lit 232, o232v0 P):: (nat_lit 233, o233v0 P):: (nat_lit 234, o234v0 P):: (nat_lit 236, o236v0 P):: (nat_lit 237, o237v0 P):: (nat_lit 239, o239v0 P):: (nat_lit 240, o240v0 P):: (nat_lit 241, o241v0 P):: (nat_lit 242, o242v0 P):: (nat_lit 243, o243v0 P):: (nat_lit 244, o244v0 P):: (nat_lit 245, o245v0 P):: (nat_lit 248, o248v0 P):: (nat_lit 250, o250v0 P):: (nat_lit 251, o251v0 P):: (nat_lit 253, o253v0 P):: (nat_lit 254, o254v0 P):: (nat_lit 255, o255v0 P):: (nat_lit 258, o258v0 P):: (nat_lit 263, o263v0 P):: (nat_lit 264, o264v0 P):: (nat_lit 265, o265v0 P):: (nat_lit 266, o266v0 P):: (nat_lit 268, o268v0 P):: (nat_lit 269, o269v0 P):: (nat_lit 271, o271v0 P):: (nat_lit 272, o272v0 P):: (nat_lit 273, o273v0 P):: (nat_lit 275, o275v0 P):: (nat_lit 276, o276v0 P):: (nat_lit 278, o278v0 P):: (nat_lit 279, o279v0 P):: (nat_lit 280, o280v0 P):: (nat_lit 281, o281v0 P):: (nat_lit 282, o282v0 P):: (nat_lit 283, o283v0 P):: (nat_lit 284, o284v0 P):: (nat_lit 286, o286v0 P):: (nat_lit 287, o287v0 P):: (nat_lit 289, o289v0 P):: (nat_lit 290, o290v0 P):: (nat_lit 291, o291v0 P):: (nat_lit 293, o293v0 P):: (nat_lit 294, o294v0 P):: (nat_lit 296, o296v0 P):: (nat_lit 297, o297v0 P):: (nat_lit 298, o298v0 P):: (nat_lit 300, o300v0 P):: (nat_lit 301, o301v0 P):: (nat_lit 303, o303v0 P):: (nat_lit 304, o304v0 P):: (nat_lit 305, o305v0 P):: (nat_lit 307, o307v0 P):: (nat_lit 308, o308v0 P):: (nat_lit 310, o310v0 P):: (nat_lit 311, o311v0 P):: (nat_lit 312, o312v0 P):: (nat_lit 313, o313v0 P):: (nat_lit 314, o314v0 P):: (nat_lit 316, o316v0 P):: (nat_lit 317, o317v0 P):: (nat_lit 319, o319v0 P):: (nat_lit 321, o321v0 P):: (nat_lit 322, o322v0 P):: (nat_lit 323, o323v0 P):: (nat_lit 333, o333v0 P):: (nat_lit 334, o334v0 P):: (nat_lit 336, o336v0 P):: (nat_lit 337, o337v0 P):: (nat_lit 339, o339v0 P):: (nat_lit 340, o340v0 P):: (nat_lit 341, o341v0 P):: (nat_lit 343, o343v0 P):: (nat_lit 344, o344v0 P):: (nat_lit 346, o346v0 P):: (nat_lit 347, o347v0 P):: (nat_lit 348, o348v0 P):: (nat_lit 349, o349v0 P):: (nat_lit 350, o350v0 P):: (nat_lit 351, o351v0 P):: (nat_lit 353, o353v0 P):: (nat_lit 354, o354v0 P):: (nat_lit 356, o356v0 P):: (nat_lit 357, o357v0 P):: (nat_lit 358, o358v0 P):: (nat_lit 359, o359v0 P):: (nat_lit 360, o360v0 P):: (nat_lit 363, o363v0 P):: (nat_lit 364, o364v0 P):: (nat_lit 365, o365v0 P):: (nat_lit 367, o367v0 P):: (nat_lit 368, o368v0 P):: (nat_lit 370, o370v0 P):: (nat_lit 371, o371v0 P):: (nat_lit 372, o372v0 P):: (nat_lit 374, o374v0 P):: (nat_lit 375, o375v0 P):: (nat_lit 377, o377v0 P):: (nat_lit 378, o378v0 P):: (nat_lit 379, o379v0 P):: (nat_lit 381, o381v0 P):: (nat_lit 382, o382v0 P):: (nat_lit 384, o384v0 P):: (nat_lit 385, o385v0 P):: (nat_lit 386, o386v0 P):: (nat_lit 387, o387v0 P):: (nat_lit 388, o388v1 P):: (nat_lit 389, o389v0 P):: (nat_lit 390, o390v0 P):: (nat_lit 393, o393v0 P):: (nat_lit 403, o403v0 P):: (nat_lit 404, o404v0 P):: (nat_lit 405, o405v0 P):: (nat_lit 406, o406v0 P):: (nat_lit 407, o407v0 P):: (nat_lit 410, o410v0 P):: (nat_lit 420, o420v0 P):: (nat_lit 421, o421v0 P):: (nat_lit 422, o422v0 P):: (nat_lit 423, o423v0 P):: (nat_lit 424, o424v0 P):: (nat_lit 434, o434v0 P):: (nat_lit 436, o436v0 P):: (nat_lit 437, o437v0 P):: (nat_lit 439, o439v0 P):: (nat_lit 440, o440v0 P):: (nat_lit 441, o441v0 P):: (nat_lit 442, o442v0 P):: (nat_lit 443, o443v0 P):: (nat_lit 444, o444v0 P):: (nat_lit 445, o445v0 P):: (nat_lit 446, o446v1 P):: (nat_lit 447, o447v0 P):: (nat_lit 448, o448v0 P):: (nat_lit 451, o451v0 P):: (nat_lit 453, o453v0 P):: (nat_lit 454, o454v0 P):: (nat_lit 456, o456v0 P):: (nat_lit 457, o457v0 P):: (nat_lit 465, o465v0 P):: (nat_lit 467, o467v0 P):: (nat_lit 468, o468v0 P):: (nat_lit 470, o470v0 P):: (nat_lit 471, o471v0 P):: (nat_lit 472, o472v0 P):: (nat_lit 473, o473v0 P):: (nat_lit 474, o474v0 P):: (nat_lit 475, o475v0 P):: (nat_lit 476, o476v0 P):: (nat_lit 479, o479v0 P):: (nat_lit 486, o486v0 P):: (nat_lit 488, o488v0 P):: (nat_lit 489, o489v0 P):: (nat_lit 491, o491v0 P):: (nat_lit 492, o492v0 P):: (nat_lit 493, o493v0 P):: (nat_lit 495, o495v0 P):: (nat_lit 496, o496v0 P):: (nat_lit 498, o498v0 P):: (nat_lit 499, o499v0 P):: (nat_lit 500, o500v0 P):: (nat_lit 501, o501v0 P):: (nat_lit 503, o503v0 P):: (nat_lit 504, o504v0 P):: (nat_lit 506, o506v0 P):: (nat_lit 507, o507v0 P):: (nat_lit 508, o508v0 P):: (nat_lit 509, o509v0 P):: (nat_lit 511, o511v0 P):: (nat_lit 512, o512v0 P):: (nat_lit 514, o514v0 P):: (nat_lit 515, o515v0 P):: (nat_lit 516, o516v0 P):: (nat_lit 518, o518v0 P):: (nat_lit 519, o519v0 P):: (nat_lit 521, o521v0 P):: (nat_lit 522, o522v0 P):: (nat_lit 523, o523v0 P):: (nat_lit 525, o525v0 P):: (nat_lit 526, o526v0 P):: (nat_lit 528, o528v0 P):: (nat_lit 529, o529v0 P):: (nat_lit 530, o530v0 P):: (nat_lit 531, o531v0 P):: (nat_lit 533, o533v0 P):: (nat_lit 534, o534v0 P):: (nat_lit 536, o536v0 P):: (nat_lit 537, o537v0 P):: (nat_lit 538, o538v0 P):: (nat_lit 540, o540v0 P):: (nat_lit 541, o541v0 P):: (nat_lit 543, o543v0 P):: (nat_lit 544, o544v0 P):: (nat_lit 545, o545v0 P):: (nat_lit 547, o547v0 P):: (nat_lit 548, o548v0 P):: (nat_lit 550, o550v0 P):: (nat_lit 551, o551v0 P):: (nat_lit 552, o552v0 P):: (nat_lit 553, o553v0 P):: (nat_lit 555, o555v0 P):: (nat_lit 556, o556v0 P):: (nat_lit 558, o558v0 P):: (nat_lit 559, o559v0 P):: (nat_lit 560, o560v0 P):: (nat_lit 562, o562v0 P):: (nat_lit 563, o563v0 P):: (nat_lit 565, o565v0 P):: (nat_lit 566, o566v0 P):: (nat_lit 567, o567v0 P):: (nat_lit 569, o569v0 P):: (nat_lit 570, o570v0 P):: (nat_lit 572, o572v0 P):: (nat_lit 573, o573v0 P):: (nat_lit 574, o574v0 P):: (nat_lit 576, o576v0 P):: (nat_lit 577, o577v0 P):: (nat_lit 579, o579v0 P):: (nat_lit 580, o580v0 P):: (nat_lit 581, o581v0 P):: (nat_lit 583, o583v0 P):: (nat_lit 584, o584v0 P):: (nat_lit 586, o586v0 P):: (nat_lit 587, o587v0 P):: (nat_lit 588, o588v0 P):: (nat_lit 590, o590v0 P):: (nat_lit 591, o591v0 P):: (nat_lit 593, o593v0 P):: (nat_lit 594, o594v0 P):: (nat_lit 595, o595v0 P):: (nat_lit 596, o596v0 P):: (nat_lit 597, o597v0 P):: (nat_lit 600, o600v0 P):: (nat_lit 601, o601v0 P):: (nat_lit 602, o602v0 P):: (nat_lit 603, o603v0 P):: (nat_lit 604, o604v0 P):: (nat_lit 605, o605v0 P):: (nat_lit 607, o607v0 P):: (nat_lit 608, o608v0 P):: (nat_lit 610, o610v0 P):: (nat_lit 611, o611v0 P):: (nat_lit 612, o612v0 P):: (nat_lit 615, o615v0 P):: (nat_lit 616, o616v0 P) :: []) → Params → Frag) _ ?h
  case f => exact fun v _ => v
  case h => conv => rhs; delta PySem.W.boot_o_2 o3v7 o15v0 o17v0 o18v0 o20v0 o21v0 o29v0 o31v0 o32v0 o34v0 o35v0 o36v0 o37v0 o39v0 o40v0 o42v0 o43v0 o44v0 o46v0 o47v0 o49v0 o50v0 o51v0 o53v0 o54v0 o56v0 o57v0 o58v0 o59v0 o60v0 o61v0 o62v0 o65v0 o68v0 o73v0 o74v0 o75v0 o76v0 o78v0 o79v0 o81v0 o82v0 o83v0 o85v0 o86v0 o88v0 o89v0 o90v0 o91v0 o92v0 o93v0 o94v0 o96v0 o97v0 o99v0 o100v0 o101v0 o103v0 o104v0 o106v0 o107v0 o108v0 o110v0 o111v0 o113v0 o114v0 o115v0 o117v0 o118v0 o120v0 o121v0 o122v0 o123v0 o124v0 o126v0 o127v0 o129v0 o131v0 o132v0 o133v0 o143v0 o145v0 o146v0 o148v0 o149v0 o150v0 o151v0 o152v0 o154v0 o155v0 o157v0 o158v0 o159v0 o160v0 o161v0 o162v0 o163v0 o166v0 o173v0 o174v0 o175v0 o177v0 o178v0 o180v0 o181v0 o182v0 o183v0 o184v0 o186v0 o187v0 o189v0 o190v0 o191v0 o192v0 o193v0 o195v0 o196v0 o198v0 o199v0 o200v0 o201v0 o202v0 o212v0 o214v0 o215v0 o217v0 o218v0 o219v0 o220v0 o222v0 o223v0 o225v0 o226v0 o227v0 o229v0 o230v0 o232v0 o233v0 o234v0 o236v0 o237v0 o239v0 o240v0 o241v0 o242v0 o243v0 o244v0 o245v0 o248v0 o250v0 o251v0 o253v0 o254v0 o255v0 o258v0 o263v0 o264v0 o265v0 o266v0 o268v0 o269v0 o271v0 o272v0 o273v0 o275v0 o276v0 o278v0 o279v0 o280v0 o281v0 o282v0 o283v0 o284v0 o286v0 o287v0 o289v0 o290v0 o291v0 o293v0 o294v0 o296v0 o297v0 o298v0 o300v0 o301v0 o303v0 o304v0 o305v0 o307v0 o308v0 o310v0 o311v0 o312v0 o313v0 o314v0 o316v0 o317v0 o319v0 o321v0 o322v0 o323v0 o333v0 o334v0 o336v0 o337v0 o339v0 o340v0 o341v0 o343v0 o344v0 o346v0 o347v0 o348v0 o349v0 o350v0 o351v0 o353v0 o354v0 o356v0 o357v0 o358v0 o359v0 o360v0 o363v0 o364v0 o365v0 o367v0 o368v0 o370v0 o371v0 o372v0 o374v0 o375v0 o377v0 o378v0 o379v0 o381v0 o382v0 o384v0 o385v0 o386v0 o387v0 o388v1 o389v0 o390v0 o393v0 o403v0 o404v0 o405v0 o406v0 o407v0 o410v0 o420v0 o421v0 o422v0 o423v0 o424v0 o434v0 o436v0 o437v0 o439v0 o440v0 o441v0 o442v0 o443v0 o444v0 o445v0 o446v1 o447v0 o448v0 o451v0 o453v0 o454v0 o456v0 o457v0 o465v0 o467v0 o468v0 o470v0 o471v0 o472v0 o473v0 o474v0 o475v0 o476v0 o479v0 o486v0 o488v0 o489v0 o491v0 o492v0 o493v0 o495v0 o496v0 o498v0 o499v0 o500v0 o501v0 o503v0 o504v0 o506v0 o507v0 o508v0 o509v0 o511v0 o512v0 o514v0 o515v0 o516v0 o518v0 o519v0 o521v0 o522v0 o523v0 o525v0 o526v0 o528v0 o529v0 o530v0 o531v0 o533v0 o534v0 o536v0 o537v0 o538v0 o540v0 o541v0 o543v0 o544v0 o545v0 o547v0 o548v0 o550v0 o551v0 o552v0 o553v0 o555v0 o556v0 o558v0 o559v0 o560v0 o562v0 o563v0 o565v0 o566v0 o567v0 o569v0 o570v0 o572v0 o573v0 o574v0 o576v0 o577v0 o579v0 o580v0 o581v0 o583v0 o584v0 o586v0 o587v0 o588v0 o590v0 o591v0 o593v0 o594v0 o595v0 o596v0 o597v0 o600v0 o601v0 o602v0 o603v0 o604v0 o605v0 o607v0 o608v0 o610v0 o611v0 o612v0 o615v0 o616v0

def asK : List Addr := [2, 3, 15, 17, 18, 20, 21, 29, 31, 32, 34, 35, 36, 37, 39, 40, 42, 43, 44, 46, 47, 49, 50, 51, 53, 54, 56, 57, 58, 59, 60, 61, 62, 65, 68, 73, 74, 75, 76, 78, 79, 81, 82, 83, 85, 86, 88, 89, 90, 91, 92, 93, 94, 96, 97, 99, 100, 101, 103, 104, 106, 107, 108, 110, 111, 113, 114, 115, 117, 118, 120, 121, 122, 123, 124, 126, 127, 129, 131, 132, 133, 143, 145, 146, 148, 149, 150, 151, 152, 154, 155, 157, 158, 159, 160, 161, 162, 163, 166, 173, 174, 175, 177, 178, 180, 181, 182, 183, 184, 186, 187, 189, 190, 191, 192, 193, 195, 196, 198, 199, 200, 201, 202, 212, 214, 215, 217, 218, 219, 220, 222, 223, 225, 226, 227, 229, 230, 232, 233, 234, 236, 237, 239, 240, 241, 242, 243, 244, 245, 248, 250, 251, 253, 254, 255, 258, 263, 264, 265, 266, 268, 269, 271, 272, 273, 275, 276, 278, 279, 280, 281, 282, 283, 284, 286, 287, 289, 290, 291, 293, 294, 296, 297, 298, 300, 301, 303, 304, 305, 307, 308, 310, 311, 312, 313, 314, 316, 317, 319, 321, 322, 323, 333, 334, 336, 337, 339, 340, 341, 343, 344, 346, 347, 348, 349, 350, 351, 353, 354, 356, 357, 358, 359, 360, 363, 364, 365, 367, 368, 370, 371, 372, 374, 375, 377, 378, 379, 381, 382, 384, 385, 386, 387, 388, 389, 390, 393, 403, 404, 405, 406, 407, 410, 420, 421, 422, 423, 424, 434, 436, 437, 439, 440, 441, 442, 443, 444, 445, 446, 447, 448, 451, 453, 454, 456, 457, 465, 467, 468, 470, 471, 472, 473, 474, 475, 476, 479, 486, 488, 489, 491, 492, 493, 495, 496, 498, 499, 500, 501, 503, 504, 506, 507, 508, 509, 511, 512, 514, 515, 516, 518, 519, 521, 522, 523, 525, 526, 528, 529, 530, 531, 533, 534, 536, 537, 538, 540, 541, 543, 544, 545, 547, 548, 550, 551, 552, 553, 555, 556, 558, 559, 560, 562, 563, 565, 566, 567, 569, 570, 572, 573, 574, 576, 577, 579, 580, 581, 583, 584, 586, 587, 588, 590, 591, 593, 594, 595, 596, 597, 600, 601, 602, 603, 604, 605, 607, 608, 610, 611, 612, 615, 616]
theorem h_boot : ∀ w : World, (fencedOpening treeTable PySem.Challenge.pw_jb0022_01 w 11934).map (fun s => (s.heap, s.gens, s.drawn, s.toks)) = some (PySem.W.boot_heap w.params, Array.mk [], PySem.W.boot_drawn, PySem.W.boot_toks) :=
  boot_open (by kernel_rfl) (by kernel_rfl) (fun s => by kernel_rfl)
theorem h_size (w : World) : ((PySem.W.boot_heap w.params).isNs mainGlobals && (Array.mk [] : Array GenState).size == 0, (PySem.W.boot_heap w.params).objs.size, (PySem.W.boot_heap w.params).nsMap mainGlobals "__annotations__") = (true, 11, some (.ref 6)) := by kernel_rfl
noncomputable abbrev HK : Hook := kmHook HeapK asK (fun _ => by kernel_rfl) [546, 494, 613]
noncomputable abbrev XT : Shared → Bool := fun s => xlAt VW [] s && recOk (RowW.records (OpenRow.toRowW (OpenLaw.row PySem.Challenge.rw_jb0022_01))) s
theorem said0 : OpenLaw.wellSaid PySem.Challenge.rw_jb0022_01 = true := by kernel_rfl
theorem l1 (w : World) (os : OsState) : (staticsOk (importedModules PySem.Challenge.pw_jb0022_01.main.body) (PySem.W.boot_heap w.params) (hp8 w.params) && namesBound PySem.Challenge.pw_jb0022_01 (hp8 w.params) && gensDone ⟨hp8 w.params, Array.mk [], PySem.W.boot_drawn, 1099, os⟩ && laidKept (PySem.W.boot_heap w.params) (hp8 w.params)) = true := by kernel_rfl
theorem l2 (w : World) (os : OsState) : openSeen VW lz (importedModules PySem.Challenge.pw_jb0022_01.main.body) XT true ⟨hp8 w.params, Array.mk [], PySem.W.boot_drawn, 1099, os⟩ = openGood VW lz := by kernel_rfl
theorem l3 (w : World) (os : OsState) : Hook.obs HK ⟨hp8 w.params, Array.mk [], PySem.W.boot_drawn, 1099, os⟩ = Hook.val HK w := by kernel_rfl
theorem hl0 : LeftO PySem.Challenge.pw_jb0022_01 VW lz XT (Hook.obs HK) (Hook.val HK) 11934 :=
  LeftO.of_pieces (H₀ := PySem.W.boot_heap) (H₁ := hp8) (gs₀ := Array.mk []) (gs₁ := Array.mk []) (d₀ := PySem.W.boot_drawn) (d₁ := PySem.W.boot_drawn) (k₀ := PySem.W.boot_toks) (k₁ := 1099) (m₀ := 11) (ann := some (.ref 6)) (M := 12 + (1 + (372 + (909 + (965 + (900 + (925 + (997 + (843 + 2))))))))) h_boot h_size h_run (by decide)
    (fun w => funext fun os => looks_pair (l1 w os) (looks_pair (l2 w os) (l3 w os)))

section
abbrev PG : Program := PySem.Challenge.rw_jb0022_01.row.prog
abbrev itemD (w : World) (A M : Int) (v : Value) (t1 t2 t3 t4 t5 : Tok) : Obj :=
  dictOf [⟨PyData.keyHash w.params (PySem.Str.ofString "namespace"), .str (PySem.Str.ofString "namespace") t1, v⟩, ⟨PyData.keyHash w.params (PySem.Str.ofString "amount"), .str (PySem.Str.ofString "amount") t2, .int A t3⟩, ⟨PyData.keyHash w.params (PySem.Str.ofString "multiples"), .str (PySem.Str.ofString "multiples") t4, .int M t5⟩] 3

section
variable {prog : Program} {w : World} {A : Around} {E : Value → Shared → Prop} {s : Shared} {K : Frag} {x C L p g : Addr} {h₀ : Heap} {m : PySem.Str → Option Value} {news : List (Addr × Obj)} {ox : Obj} {od : Option Obj} {name : PySem.Str} {v : Value} {i : Nat}
theorem ga_kind : builtinKind "tuple.__getattribute__" = some .slot := by decide +kernel
theorem ga_split : splitId "tuple.__getattribute__" = some ("tuple", "__getattribute__") := by decide +kernel
theorem ga_entry : entryFor table "tuple.__getattribute__" = some Builtin.«object.__getattribute__» :=
  entryFor_alias (id' := "object.__getattribute__") (by kernel_rfl) (by decide +kernel) (by decide +kernel) (by kernel_rfl)
theorem gi_kind : builtinKind "tuple.__getitem__" = some .slot := by decide +kernel
theorem gi_split : splitId "tuple.__getitem__" = some ("tuple", "__getitem__") := by decide +kernel
theorem check_sub {M : Model} {id : String} {owner n : String} {self : Value} {rest : List Value} {Q : Unit → Shared → Prop} (hk : builtinKind id = some .slot) (hs : splitId id = some (owner, n))
    (hI : Looks M s.heap (isInstance self (.type owner)) true) (ha : argsOk id ⟨self :: rest, []⟩) (hQ : Q () s) : wpAny M A (checkBuiltinCall id ⟨self :: rest, []⟩) Q E s := by
  simp only [checkBuiltinCall, hk, hs]
  refine wpAny_bind (hI.here ?_)
  simp only [Bool.not_true, Bool.false_eq_true, if_false]
  cases hsig : Manifest.signature? id with
  | none => exact wpAny_pure hQ
  | some sig =>
    simp only [argsOk, hsig] at ha
    have h2 : Bind.checkArgs id sig ⟨self :: rest, []⟩ = pure () := ha
    show wpAny M A (Bind.checkArgs id sig ⟨self :: rest, []⟩) Q E s
    rw [h2]; exact wpAny_pure hQ
set_option maxHeartbeats 2000000 in
theorem get_bindT {expr : Bool} {g a : Value} {Q : Value → Shared → Prop} (X : K.In s.heap) (I : InstAt s.heap x ox C od) (hga : findIn K (.ref C) "__getattribute__" = some (some (.builtin "tuple.__getattribute__"))) (hm : mroIn K C (.type "tuple") = some true)
    (hf : findObj K C od name = some (.bind g a)) (hk : findIn K (.ref C) "__getattr__" = some none)
    (h : wpAny (model prog w) A.in1 (call g [a, .ref x, .ref C]) (fun v s' => wpAny (model prog w) A (handedOut v) Q E s') (fun e s' => wpAny (model prog w) A (getattributeRaised (.ref x) (.str name s.toks) (.ref C) e none true expr) Q E s') { s with toks := s.toks + 1 }) :
    wpAny (model prog w) A (getAttr (.ref x) name expr) Q E s := by
  obtain ⟨hh, gg, d, t, os⟩ := s
  have L0 := I.type (M := model prog w)
  have L1 := looks_findIn (M := model prog w) X hga
  have L2 := looks_findIn (M := model prog w) X hk
  have L3 := looks_find (M := model prog w) X I hf
  have L4 := looks_mroIn (M := model prog w) X hm
  have LI : Looks (model prog w) hh (isInstance (.ref x) (.type "tuple")) true := L0.andThen L4
  unfold getAttr getAttrBy
  refine wpAny_bind (wpAny_mkText (wpAny_holding (wpAny_bind (L0.at (wpAny_bind (L1.at ?_))))))
  have hne : (onTheHeap (.ref C) && (Value.builtin "tuple.__getattribute__" == .builtin "object.__getattribute__")) = false := by rw [show (Value.builtin "tuple.__getattribute__" == .builtin "object.__getattribute__") = false from by decide +kernel]; exact Bool.and_false _
  dsimp only
  rw [hne]
  simp only [Bool.false_eq_true, if_false]
  show wpAny _ _ (getAttrByItsOwn (.ref x) (.str name t) (.ref C) (.builtin "tuple.__getattribute__") true expr) _ _ _
  unfold getAttrByItsOwn hookBefore
  refine wpAny_bind ?_
  show wpAny _ _ (typeLookup (.ref C) "__getattr__") _ _ _
  refine L2.at ?_
  refine wpAny_bind (wpAny_attempt (wpAny_holding ?_))
  unfold callGetattribute
  have ho : (expr && onTheHeap (.builtin "tuple.__getattribute__")) = false := by cases expr <;> rfl
  rw [ho]
  show wpAny _ _ (boundAndCalled (.builtin "tuple.__getattribute__") (.ref x) (.str name t)) _ _ _
  unfold boundAndCalled
  refine wpAny_bind (wpAny_of_eq (F.slot_tuple_getattribute.bind _) ?_)
  simp only [List.cons_append, List.nil_append]
  refine wpAny_call ?_
  refine codeAny_call_builtin F.slot_tuple_getattribute.plain ga_entry ?_
  refine wpAny_mono (Q := fun _ s' => s' = { heap := hh, gens := gg, drawn := d, toks := t + 1, os := os }) (E := fun _ _ => False) (@check_sub A.in1 (fun _ _ => False) { heap := hh, gens := gg, drawn := d, toks := t + 1, os := os } (model prog w) "tuple.__getattribute__" "tuple" "__getattribute__" (.ref x) [.str name t] _ ga_kind ga_split LI (F.args_tuple_getattribute_2 _ _) rfl) ?_ (fun _ _ z => z.elim)
  rintro _ s' rfl
  unfold Builtin.«object.__getattribute__»
  have hs : ∀ u v : Value, slotArgs "__getattribute__" 1 ⟨[u, v], []⟩ = pure (u, [v]) := fun _ _ => by kernel_rfl
  rw [hs]
  have hn : ∀ u, Builtin.ObjectAttr.attrName (.str name u) = pure name := fun _ => rfl
  refine wpAny_bind (wpAny_pure ?_)
  dsimp only
  rw [hn]
  refine wpAny_bind (wpAny_pure (wpAny_bind (L0.at (wpAny_bind (L3.at ?_)))))
  dsimp only
  show wpAny _ _ (holding [a] (call g [a, .ref x, .ref C]) >>= ret) _ _ _
  exact wpAny_bind (wpAny_holding (wpAny_mono h (fun v s' z => wpAny_pure z) fun _ _ z => z))
theorem findObj_dataN {a g : Value} (hc : isClsIn K C = true) (ha : findIn K (.ref C) name = some (some a)) (hg : specialIn K a "__get__" = some (some g)) (ht : takesIn K a = some true) : findObj K C od name = some (.bind g a) := by
  obtain ⟨cd, hc⟩ := Option.isSome_iff_exists.mp hc
  unfold findObj
  rw [hc, Option.bind_some, ha, Option.bind_some]
  simp [hg, ht]
theorem get_descrU {expr : Bool} {Q : Value → Shared → Prop} (F : Fr h₀ L s.heap m) (X₀ : K.In h₀) (I : InstAt s.heap x ox C od) (hga : findIn K (.ref C) "__getattribute__" = some (some (.builtin "tuple.__getattribute__"))) (hm : mroIn K C (.type "tuple") = some true) (hk : findIn K (.ref C) "__getattr__" = some none) (hc : isClsIn K C = true)
    (ha : findIn K (.ref C) name = some (some (.ref p))) (hn : specialIn K (.ref p) "__get__" = some (some (.ref g))) (ht : takesIn K (.ref p) = some true)
    (h : wpAny (model prog w) A.in1 (call (.ref g) [.ref p, .ref x, .ref C]) (fun v s' => wpAny (model prog w) A (handedOut v) Q E s') (fun e s' => wpAny (model prog w) A (getattributeRaised (.ref x) (.str name s.toks) (.ref C) e none true expr) Q E s') { s with toks := s.toks + 1 }) :
    wpAny (model prog w) A (getAttr (.ref x) name expr) Q E s :=
  get_bindT (X₀.keeps F.keep) I hga hm (findObj_dataN hc ha hn ht) hk h
theorem inst_tupK {h : Heap} {dx : Addr} {vs : Array Value} {n : Nat} {sl : Array (Option Value)} {od : Obj} (X : K.In h) (h1 : K.lookup x = some ⟨.ref C, some dx, .seq vs n, sl⟩) (h2 : K.lookup dx = some od) : InstAt h x ⟨.ref C, some dx, .seq vs n, sl⟩ C (some od) := ⟨X _ _ h1, rfl, rfl, X _ _ h2⟩
theorem inst_tupN {h : Heap} {dx : Addr} {vs : Array Value} {n : Nat} {sl : Array (Option Value)} {od : Obj} (N : News h₀ L h news) (h1 : (x, (⟨.ref C, some dx, .seq vs n, sl⟩ : Obj)) ∈ news) (h2 : (dx, od) ∈ news) : InstAt h x ⟨.ref C, some dx, .seq vs n, sl⟩ C (some od) := ⟨(N _ h1).1, rfl, rfl, (N _ h2).1⟩
theorem meta_tuple : typeOf (.type "tuple") = pure (.type "type") := by kernel_rfl
theorem looks_isType {M : Model} {h : Heap} (X : K.In h) (hc : isClsIn K C = true) : Looks M h (isType (.ref C)) true := by
  obtain ⟨cd, hc⟩ := Option.isSome_iff_exists.mp hc
  unfold clsIn at hc
  split at hc
  · rename_i ho; cases hc; exact (Looks.ld (X _ _ ho)).andThen .now
  · cases hc
theorem sub_own {Q : Value → Shared → Prop} (X : K.In s.heap) (hc : isClsIn K C = true) (hm : mroIn K C (.type "tuple") = some true) (hq : Q (.bool true) s) :
    wpAny (model prog w) A (call (.builtin "issubclass") [.ref C, .type "tuple"]) Q E s := by
  obtain ⟨hh, gg, d, t, os⟩ := s
  refine wpAny_call (codeAny_call_builtin F.plain_issubclass F.entry_issubclass ?_)
  have hck : checkBuiltinCall "issubclass" ⟨[.ref C, .type "tuple"], []⟩ = pure () := by
    simp only [checkBuiltinCall, F.kind_issubclass]
    have := F.args_issubclass_2 (.ref C) (.type "tuple")
    exact this
  rw [hck]
  refine wpAny_pure ?_
  refine issubclass_outer ?_
  unfold Builtin.«issubclass.nested»
  dsimp only [rawInt]
  rw [meta_tuple]
  refine wpAny_bind (wpAny_pure ?_)
  simp only [beq_self_eq_true, if_true]
  have L : Looks (model prog w) hh (isSubtype (.ref C) (.type "tuple")) true := looks_mroIn X hm
  have LC : Looks (model prog w) hh (isType (.ref C)) true := looks_isType X hc
  have LT : Looks (model prog w) hh (isType (.type "tuple")) true := Looks.now
  repeat lk
  exact hq
theorem item_own {Q : Value → Shared → Prop} {dx : Option Addr} {vs : Array Value} {n : Nat} {sl : Array (Option Value)} {k : Nat} {tk : Tok} (X : K.In s.heap) (hx : s.heap.get? x = some ⟨.ref C, dx, .seq vs n, sl⟩) (hm : mroIn K C (.type "tuple") = some true)
    (hk : k < 1000) (hv : vs[k]? = some v) (hq : Q v s) : wpAny (model prog w) A (call (.builtin "tuple.__getitem__") [.ref x, .int (k : Int) tk]) Q E s := by
  obtain ⟨hh, gg, d, t, os⟩ := s
  have LT : Looks (model prog w) hh (typeOf (.ref x)) (.ref C) := (Looks.ld hx).andThen .now
  have LI : Looks (model prog w) hh (isInstance (.ref x) (.type "tuple")) true := LT.andThen (looks_mroIn X hm)
  refine wpAny_call (codeAny_call_builtin F.slot_tuple_getitem.plain F.entry_tuple_getitem ?_)
  refine wpAny_mono (Q := fun _ s' => s' = { heap := hh, gens := gg, drawn := d, toks := t, os := os }) (E := fun _ _ => False) (@check_sub A.in1 (fun _ _ => False) { heap := hh, gens := gg, drawn := d, toks := t, os := os } (model prog w) "tuple.__getitem__" "tuple" "__getitem__" (.ref x) [.int (k : Int) tk] _ gi_kind gi_split LI (F.args_tuple_getitem_2 _ _) rfl) ?_ (fun _ _ z => z.elim)
  rintro _ s' rfl
  unfold Builtin.«tuple.__getitem__»
  have hs : ∀ u v : Value, slotArgs "__getitem__" 1 ⟨[u, v], []⟩ = pure (u, [v]) := fun _ _ => by kernel_rfl
  rw [hs]
  have f1 : Looks (model prog w) hh (specialOf (.int (k : Int) tk) "__index__") (some (.builtin "int.__index__")) := Looks.of_pure (by show typeLookup (.type "int") "__index__" = _; exact AutoSeq1.idx_int)
  have f2 : Looks (model prog w) hh (Builtin.Tuple.tupleItemsOf (.ref x)) vs := (Looks.ld (part := none) hx).andThen .now
  have f3 : Looks (model prog w) hh (typeOf (.int (k : Int) tk)) (.type "int") := Looks.now
  have f4 : Looks (model prog w) hh (asIndex (.int (k : Int) tk)) k := Looks.now
  have hne : (Value.type "int" == Value.type "slice") = false := by decide +kernel
  obtain ⟨hlt, hve⟩ := Array.getElem?_eq_some_iff.mp hv
  have hsi : seqIndex? (k : Int) vs.size = some k := by rw [seqIndex_of (by omega) (by omega)]; rfl
  refine wpAny_bind (wpAny_pure (wpAny_bind (f2.at (wpAny_bind (f3.at ?_)))))
  rw [hne]
  simp only [Bool.false_eq_true, if_false]
  refine wpAny_bind (f1.at ?_)
  simp only [Option.isNone_some, Bool.false_eq_true, if_false]
  refine wpAny_bind (f4.at ?_)
  have hb : (decide ((k : Int) < -2 ^ 63) || decide ((k : Int) ≥ 2 ^ 63)) = false := by simp; omega
  rw [hb]
  simp only [Bool.false_eq_true, if_false, hsi, Option.bind_some, hv]
  exact wpAny_pure hq
theorem item_own0 {Q : Value → Shared → Prop} {dx : Option Addr} {r : List Value} {n : Nat} {sl : Array (Option Value)} {tk : Tok} (X : K.In s.heap) (hx : s.heap.get? x = some ⟨.ref C, dx, .seq (v :: r).toArray n, sl⟩) (hm : mroIn K C (.type "tuple") = some true)
    (hq : Q v s) : wpAny (model prog w) A (call (.builtin "tuple.__getitem__") [.ref x, .int 0 tk]) Q E s := item_own (k := 0) X hx hm (by omega) rfl hq
theorem item_own1 {Q : Value → Shared → Prop} {dx : Option Addr} {u : Value} {r : List Value} {n : Nat} {sl : Array (Option Value)} {tk : Tok} (X : K.In s.heap) (hx : s.heap.get? x = some ⟨.ref C, dx, .seq (u :: v :: r).toArray n, sl⟩) (hm : mroIn K C (.type "tuple") = some true)
    (hq : Q v s) : wpAny (model prog w) A (call (.builtin "tuple.__getitem__") [.ref x, .int 1 tk]) Q E s := item_own (k := 1) X hx hm (by omega) rfl hq
end
section
variable {prog : Program} {w : World} {A : Around} {E : Value → Shared → Prop} {s : Shared} {h₀ : Heap} {L : Addr} {m : PySem.Str → Option Value} {env : Env}
def CompSrcV (prog : Program) (w : World) (A : Around) (h₀ : Heap) (L : Addr) (m : PySem.Str → Option Value) (env : Env) (elt : Expr) (x : PySem.Str) (scope : Scope) (cl : List (PySem.Str × Addr)) (Fin : Shared → List Value → List (Addr × Obj) → Prop) (xv : Value) (s₁ : Shared) : Prop :=
  ∃ ax its news, xv = .ref ax ∧ A.handled = none ∧ Fr h₀ L s₁.heap m ∧ News h₀ L s₁.heap news ∧ h₀.IsTuple ax its ∧ its.size ≤ sizeLine ∧
    ∀ s₂ : Shared, (∃ h, s₂ = { s₁ with heap := h }) → LCg.CompRest prog w A h₀ L m env elt x scope cl s₂ (fun _ => True) (fun i v => its[i]? = some v) (Fin s₂) its.size 0 [] news
theorem CompSrcV.intro {elt : Expr} {x : PySem.Str} {scope : Scope} {cl : List (PySem.Str × Addr)} {Fin : Shared → List Value → List (Addr × Obj) → Prop} {ax : Addr} {its : List Value} {n : Nat} {dx : Option Addr} {sl : Array (Option Value)} {news : List (Addr × Obj)} {s₁ : Shared} {K : Frag}
    (X : K.In h₀) (hl : K.lookup ax = some ⟨.type "tuple", dx, .seq its.toArray n, sl⟩) (hsz : its.length ≤ 1000) (hh : A.handled = none) (F : Fr h₀ L s₁.heap m) (N : News h₀ L s₁.heap news)
    (h : ∀ g, LCg.CompRest prog w A h₀ L m env elt x scope cl { s₁ with heap := g } (fun _ => True) (fun i v => its.toArray[i]? = some v) (Fin { s₁ with heap := g }) its.length 0 [] news) :
    CompSrcV prog w A h₀ L m env elt x scope cl Fin (.ref ax) s₁ :=
  ⟨ax, its.toArray, news, rfl, hh, F, N, ⟨_, X _ _ hl, rfl, _, rfl⟩, by rw [sizeLine_eq, List.size_toArray]; omega, fun _ ⟨g, e⟩ => e ▸ (by rw [List.size_toArray]; exact h g)⟩
theorem ListComp_V {elt iter : Expr} {x : PySem.Str} {px : Pos} {scope : Scope} {cl : List (PySem.Str × Addr)} {pos : Pos} {Q : Value → Shared → Prop} (F₀ : Fr h₀ L s.heap m)
    (hclos : closureFor scope env = pure cl) (hcell : ∀ y ∈ scope.names, y.2 ≠ .cell) (hkind : scope.kind = .function)
    (hnames : ∀ y ∈ scope.names, y.2 = .local → scope.names.lookup y.1 = some .local) (hx : scope.names.lookup x = some .local)
    (h : wpAny (model prog w) A (eval iter env) (CompSrcV prog w A h₀ L m env elt x scope cl (fun s₂ => LCg.FinE h₀ L m s₂ Q)) E s)
    (hs : ∀ x, foldedSetIterable iter env x = pure x := by intro _; rfl) :
    wpAny (model prog w) A (eval (.ListComp elt [⟨.Name x px, iter, [], 0⟩] scope pos) env) Q E s := by
  rw [eval_ListComp]
  refine wpAny_comprehension_free (use := none) rfl hs hclos hkind hnames (wpAny_mono h (fun xv s₁ h₁ => ?_) fun _ _ e => e)
  obtain ⟨ax, its, news, rfl, hh, F, N, hT, hsz, R⟩ := h₁
  have hl : s₁.heap.IsTuple ax its := by obtain ⟨o, e, r⟩ := hT; exact ⟨o, F.keep _ _ e, r⟩
  have hlt : ax < s₁.heap.objs.size := by obtain ⟨_, e, _⟩ := hl; exact Heap.lt_size e
  refine wpAny_pyIter_tuple hl ?_
  have up : ∀ b o, s₁.heap.get? b = some o → (s₁.heap.push { cls := .type "tuple_iterator", data := .fields #[.ref ax, .int 0 0] }).get? b = some o := fun b o e => Heap.get?_push_of_some _ e
  refine LCg.block_U (Walks.tuple hh s₁.heap.objs.size ax (Nat.ne_of_lt hlt) its) hsz (fun i h st => by obtain ⟨o, e, _⟩ := st.1; exact ⟨o, e⟩) ?_ hcell hkind hx ⟨⟨_, Heap.get?_push_size _ rfl, rfl, rfl⟩, hl.push _⟩ (fun b hb => ?_)
      (F.keeps up) (N.grown up) (Nat.ne_of_lt F.ns.lt) (next_is_new F) (fun p hp => Nat.ne_of_lt (Heap.lt_size (N p hp).1)) trivial (R _ ⟨_, rfl⟩) ?_
  · intro i h h' o nw st e e' k Nn _
    refine ⟨?_, ?_⟩
    · obtain ⟨o', q, r⟩ := st.1
      rw [e] at q; cases q
      exact ⟨o, e', r⟩
    · obtain ⟨o', q, r⟩ := hT
      exact ⟨o', k _ _ q, r⟩
  · show b < (s₁.heap.push _).objs.size
    rw [Heap.size_push]
    rcases List.mem_cons.mp hb with rfl | hb
    · exact Nat.lt_succ_self _
    · rw [List.mem_singleton.mp hb]; exact Nat.lt_succ_of_lt hlt
  · intro D C h tk m' ys news' F' N' o1 hn hC₀ hD₀ hCL hDL hCD offC fin
    refine ⟨m', hn, fun h'' hs'' => fin D h'' tk (F'.change hs'' hCL hC₀) (fun p hp => ?_) o1⟩
    refine ⟨hs''.extBut _ _ ?_ (N' p hp).1, (N' p hp).2⟩
    rcases List.mem_cons.mp hp with rfl | hp
    · exact Ne.symm hCD
    · exact offC p hp
end

end

section
local macro_rules | `(tactic| k_room) => `(tactic| ktr_room)
local macro_rules | `(tactic| k_units) => `(tactic| ktr_units)
local macro_rules | `(tactic| walk_at "getAttr ref") => `(tactic| (k_here; k_dflt (first
  | (refine' get_descrU ?k1 ?k2 ?k3 ?k4 ?k5 ?k6 ?k7 ?k8 ?k9 ?k10 ?_; (case k1 => k_asm); (case k2 => k_asm); (case k3 => first | (refine' inst_tupN ?N ?h1 ?h2; (case N => k_asm); (case h1 => k_mem); (case h2 => k_mem)) | (refine' inst_tupK ?X ?h1 ?h2; (case X => k_in); (case h1 => k_is); (case h2 => k_is))); (case k4 => k_is); (case k5 => k_is); (case k6 => k_is); (case k7 => k_is); (case k8 => k_is); (case k9 => k_is); (case k10 => k_is); k_whole))))
local macro_rules | `(tactic| walk_at "call type:type") => `(tactic| (k_here; (with_reducible show wpAny _ _ (call (Value.type "type") [Value.ref _]) _ _ _); k_dflt (refine' kto_own ?I ?_; (case I => first | assumption | (refine' inst_tupN ?N ?h1 ?h2; (case N => k_asm); (case h1 => k_mem); (case h2 => k_mem)) | (refine' inst_tupK ?X ?h1 ?h2; (case X => k_in); (case h1 => k_is); (case h2 => k_is))); k_whole)))
local macro_rules | `(tactic| walk_at "call builtin:issubclass") => `(tactic| (k_here; k_dflt (refine' sub_own ?X ?c ?m ?_; (case X => k_in); (case c => k_is); (case m => k_is); k_whole)))
local macro_rules | `(tactic| walk_at "getMethod type:tuple") => `(tactic| (k_here; refine' method_type ?F ?X ?m (by decide +kernel) ?e ?h ?_; (case F => k_asm); (case X => k_asm); (case m => exact meta_tuple); (case e => k_dflt k_is); (case h => k_handed)))
local macro_rules | `(tactic| ktr_enter) => `(tactic| (refine' code_def ?k1 ?k2 ?k3 ?k4 ?k5 ?kA ?kF ?kK ?k6 ?k7 ?k8 ?k9 ?kB ?_ ?c2 ?c3 ?c4 ?c5; (case kA => exact rfl); (case kF => exact rfl); (case kK => first | exact rfl | assumption); (case k1 => k_asm); (case k2 => k_asm); (case k3 => k_asm); (case k4 => k_asm); (case k5 => k_asm); (case k6 => k_is); (case k7 => k_is); (case k8 => ktr_room); (case k9 => first | exact BindsTo.of_eq rfl | exact binds_K (by k_in) rfl (by k_is) rfl rfl rfl); (case c5 => decide); (case kB => exact locs rfl); (case c2 => exact rfl); (case c3 => exact rfl); (case c4 => exact rfl); k_whole; intro g' L' h' FG' F' N' B' X' T'; (try dsimp only); (try k_lift B'); (try k_fold)))
local macro_rules | `(tactic| walk_at "call builtin:tuple.__getitem__") => `(tactic| (k_here; k_dflt (refine' item_own0 ?X ?x ?m ?_; (case X => k_in); (case x => kto_obj); (case m => k_is); k_whole)))
local macro_rules | `(tactic| walk_at "call builtin:tuple.__getitem__") => `(tactic| (k_here; k_dflt (refine' item_own1 ?X ?x ?m ?_; (case X => k_in); (case x => kto_obj); (case m => k_is); k_whole)))
local macro_rules | `(tactic| k_mem) => `(tactic| first | exact List.Mem.head _ | ktr_member | (refine List.mem_cons_of_mem _ ?_; k_mem))

section
theorem fill_JD1 : PySem.Challenge.rw_jb0022_01.prog = PySem.Challenge.rw_jb0022_01.prog ∧ HeapK = HeapK := by { k_fill; exact ⟨rfl, rfl⟩ }
section
variable {prog : Program} {w : World} {A : Around} {E : Value → Shared → Prop} {s : Shared} {x : PySem.Str} {t : Tok} {Q : Value → Shared → Prop} {D : Addr} 
theorem join_lits {items : Array Value} {ys : List PySem.Str} (hl : s.heap.IsList D items) (hi : StrsAre items.toList ys) (hx : x.length = 1) (hs : ∀ y ∈ ys, y.length ≤ 11) (hn : ys.length ≤ 10)
    (h : ∀ t' k, (PySem.Txt.join x ys).length ≤ 200 → Q (.str (PySem.Txt.join x ys) t') { s with toks := k }) : wpAny (model prog w) A (call (.builtin "str.join") [.str x t, .ref D]) Q E s := by
  have hsum : (ys.map (·.length)).sum ≤ ys.length * 11 := by
    clear hi hn h
    induction ys with
    | nil => simp
    | cons y r ih =>
      have := hs y (by simp)
      have := ih (fun z hz => hs z (by simp [hz]))
      simp only [List.map_cons, List.sum_cons, List.length_cons]
      omega
  refine join_list hl hi (by rw [hx]; omega) (fun t' k => h t' k ?_)
  show (Builtin.Str.glued x ys).length ≤ 200
  rw [StrLaws.glued_eq_join]
  have := StrLaws.join_length_le x ys
  rw [hx] at this
  omega
theorem len_dec {A : Int} (h0 : 0 ≤ A) (h1 : A ≤ 1000) : (PySem.Str.ofString (toString A)).length ≤ 11 :=
  Nat.le_trans (toString_length_le (k := 10) h0 (by decide) (by omega)) (by omega)
theorem join_4 {a b c d : PySem.Str} {ta tb tc td : Tok} (hl : s.heap.IsList D #[.str a ta, .str b tb, .str c tc, .str d td]) (hx : x.length = 1) (ha : a.length ≤ 11) (hb : b.length ≤ 11) (hc : c.length ≤ 11) (hd : d.length ≤ 11)
    (h : ∀ t' k, (PySem.Txt.join x [a, b, c, d]).length ≤ 200 → Q (.str (PySem.Txt.join x [a, b, c, d]) t') { s with toks := k }) : wpAny (model prog w) A (call (.builtin "str.join") [.str x t, .ref D]) Q E s :=
  join_lits hl (.cons _ _ (.cons _ _ (.cons _ _ (.cons _ _ .nil)))) hx (by simp only [List.forall_mem_cons]; exact ⟨ha, hb, hc, hd, List.forall_mem_nil _⟩) (by simp) h
theorem join_5 {a b c d e : PySem.Str} {ta tb tc td te : Tok} (hl : s.heap.IsList D #[.str a ta, .str b tb, .str c tc, .str d td, .str e te]) (hx : x.length = 1) (ha : a.length ≤ 11) (hb : b.length ≤ 11) (hc : c.length ≤ 11) (hd : d.length ≤ 11) (he : e.length ≤ 11)
    (h : ∀ t' k, (PySem.Txt.join x [a, b, c, d, e]).length ≤ 200 → Q (.str (PySem.Txt.join x [a, b, c, d, e]) t') { s with toks := k }) : wpAny (model prog w) A (call (.builtin "str.join") [.str x t, .ref D]) Q E s :=
  join_lits hl (.cons _ _ (.cons _ _ (.cons _ _ (.cons _ _ (.cons _ _ .nil))))) hx (by simp only [List.forall_mem_cons]; exact ⟨ha, hb, hc, hd, he, List.forall_mem_nil _⟩) (by simp) h
end
local macro_rules | `(tactic| k_is) => `(tactic| with_reducible assumption)
local macro_rules | `(tactic| walk_at "eval ListComp") => `(tactic| (k_here; k_dflt (refine ListComp_V (F₀ := by k_asm) (by rfl) (by decide) (by rfl) (by decide) (by rfl) ?_)))
local macro_rules | `(tactic| walk_at "CompSrcV") => `(tactic| (k_here; k_dflt (refine' CompSrcV.intro ?X ?l ?z ?h ?F ?N ?_; (case X => k_asm); (case l => k_is); (case z => exact Nat.le_of_ble_eq_true rfl); (case h => rfl); (case F => k_asm); (case N => k_asm)); intro g'; lcg_lit))
local macro_rules | `(tactic| walk_at "CompEnd") => `(tactic| (refine LCg.CompEnd.intro (by assumption) (by assumption) _ (fun p hp => hp) (by assumption) trivial ?_))
local macro_rules | `(tactic| walk_at "call builtin:str.join") => `(tactic| (k_here; k_dflt (first | refine join_4 (by is_list) (by decide) (by (first | assumption | exact len_dec (by omega) (by omega))) (by (first | assumption | exact len_dec (by omega) (by omega))) (by (first | assumption | exact len_dec (by omega) (by omega))) (by (first | assumption | exact len_dec (by omega) (by omega))) ?_ | refine join_5 (by is_list) (by decide) (by (first | assumption | exact len_dec (by omega) (by omega))) (by (first | assumption | exact len_dec (by omega) (by omega))) (by (first | assumption | exact len_dec (by omega) (by omega))) (by (first | assumption | exact len_dec (by omega) (by omega))) (by (first | assumption | exact len_dec (by omega) (by omega))) ?_); intro _ _ hjl))
abbrev keyT (l : List PySem.Str) : PySem.Str := PySem.Str.empty ++ PySem.Str.ofString "LIMITER" ++ PySem.Str.ofString "/" ++ PySem.Txt.join (PySem.Str.ofString "/") l
set_option maxHeartbeats 8000000 in
theorem key_for1 {w : World} {p : Program} {loose : List PySem.Str} {mean : ExcName → Option Value} {mg mb : PySem.Str → Option Value} {dp un : Nat} {gd : Option (List Code)} {cn : PySem.Str} {cs : Scope} {a : Addr} {ccd : Value} {cl : List (PySem.Str × Addr)} {outer : List Env} {A₀ : Around} {base h₀ : Heap} {L : Addr} {m : PySem.Str → Option Value} {news : List (Addr × Obj)} {s : Shared} {Q E : Value → Shared → Prop}
    {it d C G dG : Addr} {A M W : Int} {nm : PySem.Str} {sl : Array (Option Value)} {odG : Obj} {u v n : Nat} {t1 t2 t3 t4 t5 t6 : Tok}{I dI : Addr} {nI : Nat} {slI : Array (Option Value)} {c1 : PySem.Str} {u1 : Tok} {dxI : Option Addr}
    (B : Below A₀ base outer h₀) (F : Fr h₀ L s.heap m) (X : (HeapK w.params).In h₀) (N : News h₀ L s.heap news) (T : Top p loose mean mg mb h₀) (hk : cs.kind = .function)
    (hc1 : findIn (HeapK w.params) (.ref C) (PySem.Str.ofString "GRANULARITY") = some (some (.ref G))) (hc2 : plainGet (HeapK w.params) C (PySem.Str.ofString "GRANULARITY") = true)
    (hc3 : (HeapK w.params).lookup G = some ⟨.ref 322, some dG, .seq [.int W u, .str nm v].toArray n, sl⟩) (hc4 : (HeapK w.params).lookup dG = some odG)
    (hc5 : findIn (HeapK w.params) (.ref C) (PySem.Str.ofString "multiples") = some none) (hc6 : plainGet (HeapK w.params) C (PySem.Str.ofString "multiples") = true)
    (hc7 : findIn (HeapK w.params) (.ref C) (PySem.Str.ofString "amount") = some none) (hc8 : plainGet (HeapK w.params) C (PySem.Str.ofString "amount") = true)
    (hc9 : findIn (HeapK w.params) (.ref C) (PySem.Str.ofString "namespace") = some none) (hc10 : plainGet (HeapK w.params) C (PySem.Str.ofString "namespace") = true) (hc11 : hasDictIn (HeapK w.params) C = true) (hc12 : isClsIn (HeapK w.params) C = true) (hc13 : noGet (HeapK w.params) (some (.ref G)) = true) (hc14 : specialIn (HeapK w.params) (.ref G) (PySem.Str.ofString "__get__") = some none)
 (hI : (HeapK w.params).lookup I = some ⟨.type "tuple", dxI, .seq [.str c1 u1].toArray nI, slI⟩) (hc1l : c1.length ≤ 11) (hgl : nm.length ≤ 11)
 (h1 : (it, instObj C d) ∈ news) (h2 : (d, itemD w A M (.str (PySem.Str.ofString "LIMITER") t6) t1 t2 t3 t4 t5) ∈ news) (hA0 : 1 ≤ A) (hA1 : A ≤ 9) (hM0 : 0 ≤ M) (hM1 : M ≤ 60)
    (hdp : dp + 20 < recursionLimit) (hun : un + 200 < cLine)
    (ret : ∀ t h' tk', Fr h₀ L h' m → News h₀ L h' news → Q (.str (keyT [c1, PySem.Str.ofString (toString A), PySem.Str.ofString (toString M), nm]) t) { s with heap := h', toks := tk' }) :
    wpAny (model PG w) (ktrTop dp un gd cn cs L a ccd cl outer) (call (.ref 364) [.ref it, .ref I]) Q E s := by
  refine wpAny_call ?_
  k_dflt ktr_enter
  k_steps
  all_goals exact ret _ _ _ (by k_asm) (by first | k_asm | (first | assumption | exact (fun p hp => (by assumption : News _ _ _ (_ :: _)) p (.tail _ hp)) | exact (fun p hp => (by assumption : News _ _ _ (_ :: _ :: _)) p (.tail _ (.tail _ hp))) | exact (fun p hp => (by assumption : News _ _ _ (_ :: _ :: _ :: _)) p (.tail _ (.tail _ (.tail _ hp))))))

set_option maxHeartbeats 8000000 in
theorem key_for2 {w : World} {p : Program} {loose : List PySem.Str} {mean : ExcName → Option Value} {mg mb : PySem.Str → Option Value} {dp un : Nat} {gd : Option (List Code)} {cn : PySem.Str} {cs : Scope} {a : Addr} {ccd : Value} {cl : List (PySem.Str × Addr)} {outer : List Env} {A₀ : Around} {base h₀ : Heap} {L : Addr} {m : PySem.Str → Option Value} {news : List (Addr × Obj)} {s : Shared} {Q E : Value → Shared → Prop}
    {it d C G dG : Addr} {A M W : Int} {nm : PySem.Str} {sl : Array (Option Value)} {odG : Obj} {u v n : Nat} {t1 t2 t3 t4 t5 t6 : Tok}{I dI : Addr} {nI : Nat} {slI : Array (Option Value)} {c1 c2 : PySem.Str} {u1 u2 : Tok} {dxI : Option Addr}
    (B : Below A₀ base outer h₀) (F : Fr h₀ L s.heap m) (X : (HeapK w.params).In h₀) (N : News h₀ L s.heap news) (T : Top p loose mean mg mb h₀) (hk : cs.kind = .function)
    (hc1 : findIn (HeapK w.params) (.ref C) (PySem.Str.ofString "GRANULARITY") = some (some (.ref G))) (hc2 : plainGet (HeapK w.params) C (PySem.Str.ofString "GRANULARITY") = true)
    (hc3 : (HeapK w.params).lookup G = some ⟨.ref 322, some dG, .seq [.int W u, .str nm v].toArray n, sl⟩) (hc4 : (HeapK w.params).lookup dG = some odG)
    (hc5 : findIn (HeapK w.params) (.ref C) (PySem.Str.ofString "multiples") = some none) (hc6 : plainGet (HeapK w.params) C (PySem.Str.ofString "multiples") = true)
    (hc7 : findIn (HeapK w.params) (.ref C) (PySem.Str.ofString "amount") = some none) (hc8 : plainGet (HeapK w.params) C (PySem.Str.ofString "amount") = true)
    (hc9 : findIn (HeapK w.params) (.ref C) (PySem.Str.ofString "namespace") = some none) (hc10 : plainGet (HeapK w.params) C (PySem.Str.ofString "namespace") = true) (hc11 : hasDictIn (HeapK w.params) C = true) (hc12 : isClsIn (HeapK w.params) C = true) (hc13 : noGet (HeapK w.params) (some (.ref G)) = true) (hc14 : specialIn (HeapK w.params) (.ref G) (PySem.Str.ofString "__get__") = some none)
 (hI : (HeapK w.params).lookup I = some ⟨.type "tuple", dxI, .seq [.str c1 u1, .str c2 u2].toArray nI, slI⟩) (hc1l : c1.length ≤ 11) (hc2l : c2.length ≤ 11) (hgl : nm.length ≤ 11)
 (h1 : (it, instObj C d) ∈ news) (h2 : (d, itemD w A M (.str (PySem.Str.ofString "LIMITER") t6) t1 t2 t3 t4 t5) ∈ news) (hA0 : 1 ≤ A) (hA1 : A ≤ 9) (hM0 : 0 ≤ M) (hM1 : M ≤ 60)
    (hdp : dp + 20 < recursionLimit) (hun : un + 200 < cLine)
    (ret : ∀ t h' tk', Fr h₀ L h' m → News h₀ L h' news → Q (.str (keyT [c1, c2, PySem.Str.ofString (toString A), PySem.Str.ofString (toString M), nm]) t) { s with heap := h', toks := tk' }) :
    wpAny (model PG w) (ktrTop dp un gd cn cs L a ccd cl outer) (call (.ref 364) [.ref it, .ref I]) Q E s := by
  refine wpAny_call ?_
  k_dflt ktr_enter
  k_steps
  all_goals exact ret _ _ _ (by k_asm) (by first | k_asm | (first | assumption | exact (fun p hp => (by assumption : News _ _ _ (_ :: _)) p (.tail _ hp)) | exact (fun p hp => (by assumption : News _ _ _ (_ :: _ :: _)) p (.tail _ (.tail _ hp))) | exact (fun p hp => (by assumption : News _ _ _ (_ :: _ :: _ :: _)) p (.tail _ (.tail _ (.tail _ hp))))))

set_option maxHeartbeats 8000000 in
theorem get_expiry {w : World} {p : Program} {loose : List PySem.Str} {mean : ExcName → Option Value} {mg mb : PySem.Str → Option Value} {dp un : Nat} {gd : Option (List Code)} {cn : PySem.Str} {cs : Scope} {a : Addr} {ccd : Value} {cl : List (PySem.Str × Addr)} {outer : List Env} {A₀ : Around} {base h₀ : Heap} {L : Addr} {m : PySem.Str → Option Value} {news : List (Addr × Obj)} {s : Shared} {Q E : Value → Shared → Prop}
    {it d C G dG : Addr} {A M W : Int} {nm : PySem.Str} {sl : Array (Option Value)} {odG : Obj} {u v n : Nat} {t1 t2 t3 t4 t5 t6 : Tok}
    (B : Below A₀ base outer h₀) (F : Fr h₀ L s.heap m) (X : (HeapK w.params).In h₀) (N : News h₀ L s.heap news) (T : Top p loose mean mg mb h₀) (hk : cs.kind = .function)
    (hc1 : findIn (HeapK w.params) (.ref C) (PySem.Str.ofString "GRANULARITY") = some (some (.ref G))) (hc2 : plainGet (HeapK w.params) C (PySem.Str.ofString "GRANULARITY") = true)
    (hc3 : (HeapK w.params).lookup G = some ⟨.ref 322, some dG, .seq [.int W u, .str nm v].toArray n, sl⟩) (hc4 : (HeapK w.params).lookup dG = some odG)
    (hc5 : findIn (HeapK w.params) (.ref C) (PySem.Str.ofString "multiples") = some none) (hc6 : plainGet (HeapK w.params) C (PySem.Str.ofString "multiples") = true)
    (hc7 : findIn (HeapK w.params) (.ref C) (PySem.Str.ofString "amount") = some none) (hc8 : plainGet (HeapK w.params) C (PySem.Str.ofString "amount") = true)
    (hc9 : findIn (HeapK w.params) (.ref C) (PySem.Str.ofString "namespace") = some none) (hc10 : plainGet (HeapK w.params) C (PySem.Str.ofString "namespace") = true) (hc11 : hasDictIn (HeapK w.params) C = true) (hc12 : isClsIn (HeapK w.params) C = true) (hc13 : noGet (HeapK w.params) (some (.ref G)) = true) (hc14 : specialIn (HeapK w.params) (.ref G) (PySem.Str.ofString "__get__") = some none) (h1 : (it, instObj C d) ∈ news) (h2 : (d, itemD w A M (.str (PySem.Str.ofString "LIMITER") t6) t1 t2 t3 t4 t5) ∈ news) (hM0 : 0 ≤ M) (hM1 : M ≤ 1000) (hW0 : 0 ≤ W) (hW1 : W ≤ 1000)
    (hdp : dp + 10 < recursionLimit) (hun : un + 60 < cLine)
    (ret : ∀ t h' tk', Fr h₀ L h' m → News h₀ L h' news → Q (.int (W * M) t) { s with heap := h', toks := tk' }) :
    wpAny (model PG w) (ktrTop dp un gd cn cs L a ccd cl outer) (call (.ref 357) [.ref it]) Q E s := by
  refine wpAny_call ?_
  k_dflt ktr_enter
  k_steps
  all_goals exact ret _ _ _ (by k_asm) (by k_asm)



end

section
theorem fill_JD2 : PySem.Challenge.rw_jb0022_01.prog = PySem.Challenge.rw_jb0022_01.prog ∧ HeapK = HeapK := by { k_fill; exact ⟨rfl, rfl⟩ }
def Stop (P : Prop) : Prop := P
theorem Stop.mk {P : Prop} (h : Stop P) : P := h
/-- a call of one function at one list of arguments, from any frame whose ledger holds S -/
def Call1 (w : World) (p : Program) (loose : List PySem.Str) (mean : ExcName → Option Value) (mg mb : PySem.Str → Option Value) (S : List (Addr × Obj)) (fn : Addr) (dd uu : Nat) (args : List Value) (R : Value → Prop) : Prop :=
  ∀ (dp un : Nat) (gd : Option (List Code)) (cn : PySem.Str) (cs : Scope) (a : Addr) (ccd : Value) (cl : List (PySem.Str × Addr)) (outer : List Env) (A₀ : Around) (base h₀ : Heap) (L : Addr) (m : PySem.Str → Option Value) (news : List (Addr × Obj)) (s : Shared) (Q E : Value → Shared → Prop),
    Below A₀ base outer h₀ → Fr h₀ L s.heap m → (HeapK w.params).In h₀ → News h₀ L s.heap news → Top p loose mean mg mb h₀ → cs.kind = .function → S ⊆ news → dp + dd < recursionLimit → un + uu < cLine →
    (∀ r h' tk', R r → Fr h₀ L h' m → News h₀ L h' news → Q r { s with heap := h', toks := tk' }) →
    wpAny (model PG w) (ktrTop dp un gd cn cs L a ccd cl outer) (call (.ref fn) args) Q E s
theorem Call1.use {w : World} {p : Program} {loose : List PySem.Str} {mean : ExcName → Option Value} {mg mb : PySem.Str → Option Value} {S : List (Addr × Obj)} {fn : Addr} {dd uu : Nat} {args : List Value} {R : Value → Prop} (C : Call1 w p loose mean mg mb S fn dd uu args R)
    {dp un : Nat} {gd : Option (List Code)} {cn : PySem.Str} {cs : Scope} {a : Addr} {ccd : Value} {cl : List (PySem.Str × Addr)} {outer : List Env} {A₀ : Around} {base h₀ : Heap} {L : Addr} {m : PySem.Str → Option Value} {news : List (Addr × Obj)} {s : Shared} {Q E : Value → Shared → Prop}
    (B : Below A₀ base outer h₀) (F : Fr h₀ L s.heap m) (X : (HeapK w.params).In h₀) (N : News h₀ L s.heap news) (T : Top p loose mean mg mb h₀) (hk : cs.kind = .function) (hs : S ⊆ news) (hdp : dp + dd < recursionLimit) (hun : un + uu < cLine)
    (h : ∀ r h' tk', R r → Fr h₀ L h' m → News h₀ L h' news → Q r { s with heap := h', toks := tk' }) :
    wpAny (model PG w) (ktrTop dp un gd cn cs L a ccd cl outer) (call (.ref fn) args) Q E s := C _ _ _ _ _ _ _ _ _ _ _ _ _ _ _ _ _ _ B F X N T hk hs hdp hun h
section
variable {prog : Program} {w : World} {A : Around} {E : Value → Shared → Prop} {s : Shared} {h₀ : Heap} {L : Addr} {m : PySem.Str → Option Value} {news : List (Addr × Obj)} {Q : Value → Shared → Prop}
theorem len_lst {D : Addr} {vs : List Value} {c : Nat} (N : News h₀ L s.heap news) (hm : (D, listOf vs.toArray c) ∈ news) (hf : vs.length ≤ 1000) (h : ∀ t k, Q (.int (vs.length : Nat) t) { s with toks := k }) :
    wpAny (model prog w) A (call (.builtin "len") [.ref D]) Q E s := by
  have hl : s.heap.IsList D vs.toArray := News.isList N hm
  refine Calls.call_len_list hl (by rw [List.size_toArray]; omega) ?_
  rw [List.size_toArray]
  exact h _ _
theorem item_lst {value slice : PySem.Expr} {D : Addr} {vs : List Value} {c : Nat} {k : Int} {u : Tok} {v : Value} (N : News h₀ L s.heap news) (hm : (D, listOf vs.toArray c) ∈ news) (h0 : 0 ≤ k) (hhi : k < 1000) (hx : vs[k.toNat]? = some v) (h : Q v s)
    (hs : subscripted slice false (.ref D) (.int k u) = operate [.ref D, .int k u] (getItem (.ref D) (.int k u)) := by with_unfolding_all rfl) :
    wpAny (model prog w) A (subscriptTail value slice (.ref D) (.int k u)) Q E s := item_litK (News.isList N hm) h0 (by omega) hx h hs
end
theorem item_lstx {prog : Program} {w : World} {A : Around} {E : Value → Shared → Prop} {s : Shared} {h₀ : Heap} {L : Addr} {news : List (Addr × Obj)} {Q : Value → Shared → Prop} {value slice : PySem.Expr} {D : Addr} {vs : List Value} {c : Nat} {k : Int} {u : Tok} (N : News h₀ L s.heap news) (hm : (D, listOf vs.toArray c) ∈ news) (h0 : 0 ≤ k) (hk : k < vs.length) (hv : vs.length ≤ 1000)
    (h : ∀ v, vs[k.toNat]? = some v → Q v s)
    (hs : subscripted slice false (.ref D) (.int k u) = operate [.ref D, .int k u] (getItem (.ref D) (.int k u)) := by with_unfolding_all rfl) :
    wpAny (model prog w) A (subscriptTail value slice (.ref D) (.int k u)) Q E s := by
  have hlt : k.toNat < vs.length := by omega
  exact item_lst N hm h0 (by omega) (List.getElem?_eq_getElem hlt) (h _ (List.getElem?_eq_getElem hlt)) hs
local macro_rules | `(tactic| walk_at "exec While Compare") => `(tactic| (refine Stop.mk ?_))
local macro_rules | `(tactic| walk_at "KswEnd") => `(tactic| (refine Stop.mk ?_))
local macro_rules | `(tactic| walk_at "exec While") => `(tactic| (refine Stop.mk ?_))
local macro_rules | `(tactic| walk_at "call builtin:len") => `(tactic| (k_here; k_dflt (refine' len_lst ?N ?m ?z ?_; (case N => k_asm); (case m => k_mem); (case z => assumption)); intro _ _))
local macro_rules | `(tactic| walk_at "callWith ref") => `(tactic| (k_here; k_dflt (refine' callWith_F ?k1 ?_; (case k1 => exact FnAt.of (by k_asm) (by k_mem)); k_whole)))
local macro_rules | `(tactic| walk_at "subscriptTail") => `(tactic| (k_here; k_dflt (refine' item_lstx ?N ?m ?a ?b ?c ?_; (case N => k_asm); (case m => k_mem); (case a => (((rw [Int.fdiv_eq_ediv_of_nonneg _ (by decide : (0:Int) ≤ 2)]); omega))); (case b => (((rw [Int.fdiv_eq_ediv_of_nonneg _ (by decide : (0:Int) ≤ 2)]); omega))); (case c => assumption)); intro v' hv'))
local macro_rules | `(tactic| walk_at "call ref") => `(tactic| (refine Stop.mk ?_))
set_option maxHeartbeats 8000000 in
theorem bisect {w : World} {p : Program} {loose : List PySem.Str} {mean : ExcName → Option Value} {mg mb : PySem.Str → Option Value} {dp un : Nat} {gd : Option (List Code)} {cn : PySem.Str} {cs : Scope} {a : Addr} {ccd : Value} {cl : List (PySem.Str × Addr)} {outer : List Env} {A₀ : Around} {base h₀ : Heap} {L : Addr} {m : PySem.Str → Option Value} {news : List (Addr × Obj)} {s : Shared} {Q E : Value → Shared → Prop}
    {S : List (Addr × Obj)} {b fn : Addr} {vs : List Value} {ks : List Int} {cap : Nat} {x : Int} {tx : Tok} {oc : Value} {od : Option Addr} {fd : FuncData} {sl : Array (Option Value)}
    (B : Below A₀ base outer h₀) (F : Fr h₀ L s.heap m) (X : (HeapK w.params).In h₀) (N : News h₀ L s.heap news) (T : Top p loose mean mg mb h₀) (hk : cs.kind = .function)
    (hb : (b, listOf vs.toArray cap) ∈ news) (hfn : (fn, (⟨oc, od, .func fd, sl⟩ : Obj)) ∈ news) (hlen : ks.length = vs.length) (hmax : vs.length ≤ 1000) (hS : S ⊆ news)
    (hK : ∀ (i : Nat) v k, vs[i]? = some v → ks[i]? = some k → Call1 w p loose mean mg mb S fn 20 200 [v] (fun r => ∃ t, r = .int k t))
    (hmono : ∀ (i j : Nat) a c, i ≤ j → ks[i]? = some a → ks[j]? = some c → a ≤ c)
    (hdp : dp + 30 < recursionLimit) (hun : un + 300 < cLine)
    (ret : ∀ (r : Nat) t h' tk', r ≤ vs.length → (∀ (j : Nat) k, j < r → ks[j]? = some k → k < x) → (∀ (j : Nat) k, r ≤ j → ks[j]? = some k → x ≤ k) → Fr h₀ L h' m → News h₀ L h' news → Q (.int (r : Int) t) { s with heap := h', toks := tk' }) :
    wpAny (model PG w) (ktrTop dp un gd cn cs L a ccd cl outer) (call (.ref 457) [.ref b, .int x tx] [(PySem.Str.ofString "key", .ref fn)]) Q E s := by
  refine wpAny_call ?_
  k_dflt ktr_enter
  k_steps
  unfold Stop
  rename_i F' N' B' X' T'
  with_unfolding_all refine' ksw_while (σ := Int × Tok × Int × Tok) (fun _ => news) (fun c => [(PySem.Str.ofString "lo", .int c.1 c.2.1), (PySem.Str.ofString "hi", .int c.2.2.1 c.2.2.2)]) (fun _ => True) [PySem.Str.ofString "mid"] (fun c => 0 ≤ c.1 ∧ c.1 ≤ c.2.2.1 ∧ c.2.2.1 ≤ vs.length ∧ (∀ (j : Nat) k, (j : Int) < c.1 → ks[j]? = some k → k < x) ∧ (∀ (j : Nat) k, c.2.2.1 ≤ (j : Int) → ks[j]? = some k → x ≤ k)) (fun c => (c.2.2.1 - c.1).toNat) (0, _, (vs.length : Int), _) (by assumption) (by assumption) trivial ?kk ?kp ?_
  case kk => kst_all
  case kp => exact ⟨by simp, by simp, by simp, fun j k h _ => absurd h (by simp), fun j k h e => by
      have := (List.getElem?_eq_some_iff.mp e).1
      simp at h; omega⟩
  rintro ⟨lo, t1, hi, t2⟩ u hh tk _ ⟨p1, p2, p3, p4, p5⟩ F2 N2
  dsimp only at p1 p2 p3 p4 p5 ⊢
  (rename Fr _ _ hh _ => F2)
  change Fr _ _ hh (kstB _ [(_, .int lo t1), (_, .int hi t2)]) at F2
  all_goals (try k_fold)
  k_steps
  rotate_left
  · exact ret lo.toNat _ _ _ (by omega) (fun j k hj e => p4 j k (by omega) e) (fun j k hj e => p5 j k (by omega) e) (by k_asm) (by k_asm) |> fun z => by
      have e : ((lo.toNat : Nat) : Int) = lo := by omega
      rw [e] at z; exact z
  have hlt : ((lo + hi).fdiv 2).toNat < ks.length := by rw [Int.fdiv_eq_ediv_of_nonneg _ (by decide : (0:Int) ≤ 2)]; omega
  have hkk : ks[((lo + hi).fdiv 2).toNat]? = some (ks[((lo + hi).fdiv 2).toNat]) := List.getElem?_eq_getElem hlt
  generalize hkd : ks[((lo + hi).fdiv 2).toNat] = kd at hkk
  unfold Stop
  k_dflt (refine (hK _ _ _ ‹_› hkk).use (by k_asm) (by k_asm) (by k_asm) (by k_asm) (by k_asm) rfl hS ?_ ?_ ?_)
  · ktr_room
  · ktr_units
  rintro _ h' tk' ⟨t, rfl⟩ F' N'
  dsimp only
  (try k_fold)
  k_steps
  · unfold Stop
    rename_i hlt1 _
    refine ksw_end ((lo + hi).fdiv 2 + 1, _, hi, _) (by assumption) (by assumption) (fun p hp => hp) trivial (by kst_all) (by ((intro z h2 h3; (simp only [List.forall_mem_cons, List.not_mem_nil, false_implies, implies_true, and_true, ne_eq] at h2); (simp only [List.contains_cons, List.contains_nil, Bool.or_false, Bool.or_eq_false_iff, beq_eq_false_iff_ne, ne_eq] at h3); simp [kstB, h2, h3]))) ?_ ?_
    · rw [Int.fdiv_eq_ediv_of_nonneg _ (by decide : (0:Int) ≤ 2)] at hkk ⊢
      exact ⟨by dsimp only; omega, by dsimp only; omega, p3, fun j k hj e => Int.lt_of_le_of_lt (hmono j _ _ _ (by dsimp only at hj; omega) e hkk) (by assumption), p5⟩
    · rw [Int.fdiv_eq_ediv_of_nonneg _ (by decide : (0:Int) ≤ 2)]; dsimp only; omega
  · unfold Stop
    refine ksw_end (lo, _, (lo + hi).fdiv 2, _) (by assumption) (by assumption) (fun p hp => hp) trivial (by kst_all) (by ((intro z h2 h3; (simp only [List.forall_mem_cons, List.not_mem_nil, false_implies, implies_true, and_true, ne_eq] at h2); (simp only [List.contains_cons, List.contains_nil, Bool.or_false, Bool.or_eq_false_iff, beq_eq_false_iff_ne, ne_eq] at h3); simp [kstB, h2, h3]))) ?_ ?_
    · rw [Int.fdiv_eq_ediv_of_nonneg _ (by decide : (0:Int) ≤ 2)] at hkk ⊢
      exact ⟨p1, by dsimp only; omega, by dsimp only; omega, p4, fun j k hj e => Int.le_trans (by omega) (hmono _ j _ _ (by dsimp only at hj; omega) hkk e)⟩
    · rw [Int.fdiv_eq_ediv_of_nonneg _ (by decide : (0:Int) ≤ 2)]; dsimp only; omega



end

section
theorem fill_JC9 : PySem.Challenge.rw_jb0022_01.prog = PySem.Challenge.rw_jb0022_01.prog ∧ HeapK = HeapK := by { k_fill; exact ⟨rfl, rfl⟩ }
section
variable {prog : Program} {w : World} {A : Around} {E : Value → Shared → Prop} {s : Shared} {env : Env} {h₀ : Heap} {x : PySem.Str} {body : List Stmt} {Q : Flow → Shared → Prop}
/-- a for over a list of the ledger, of any values, with a ledger that may grow -/
theorem iter_any {l : Addr} {vs : List Value} {nn : Nat} {m₀ : PySem.Str → Option Value} {news : List (Addr × Obj)} (J : Nat → (PySem.Str → Option Value) → List (Addr × Obj) → Prop)
    (hh : A.handled = none) (hlJ : ∀ i m nx, J i m nx → (l, listOf vs.toArray nn) ∈ nx) (F : Fr h₀ env.locals s.heap m₀) (N : News h₀ env.locals s.heap news) (hj : J 0 m₀ news)
    (turn : ∀ i v m₁ news₁ h tk own, vs[i]? = some v → OwnOff own (news₁.map (·.1)) → (∃ P o, own = [(P, o)] ∧ o.cls = .type "list_iterator" ∧ ∃ u v, o.data = .fields #[u, .int v 0]) → J i m₁ news₁ → Fr h₀ env.locals h (fun y => if y = x then some v else m₁ y) → News h₀ env.locals h (news₁ ++ own) →
      wpAny (model prog w) A (execs body env) (InvPostG h₀ env.locals (J (i + 1)) own { s with heap := h, toks := tk } Q) E { s with heap := h, toks := tk })
    (done : ∀ m₁ news₁ h tk, J vs.length m₁ news₁ → Fr h₀ env.locals h m₁ → News h₀ env.locals h news₁ → Q .next { s with heap := h, toks := tk }) :
    wpAny (model prog w) A (pyIter (.ref l)) (fun it s₂ => LoopAtV prog w A h₀ env x body Q E it s₂) E s := by
  have hl := hlJ _ _ _ hj
  have hol : s.heap.get? l = some (listOf vs.toArray nn) := (N _ hl).1
  have hls : s.heap.IsList l vs.toArray := ⟨_, hol, rfl, nn, rfl⟩
  have hne : l ≠ s.heap.objs.size := Nat.ne_of_lt (Heap.lt_size hol)
  refine wpAny_pyIter_list hls ?_
  have W := Walks.list (prog := prog) (w := w) hh s.heap.objs.size l hne vs.toArray
  have hlen : vs.toArray.size = vs.length := by simp
  rw [hlen] at W
  refine ⟨_, _, _, vs.length, _, _, m₀, news, J, rfl, W, ?_, ?_, ?_, ⟨⟨_, Heap.get?_push_size _ rfl, rfl, rfl⟩, hls.at fun o e => Heap.get?_push_of_some _ e⟩, F.push _, (fun p hp => ⟨Heap.get?_push_of_some _ (N p hp).1, (N p hp).2⟩), hj, ?_, ?_⟩
  · intro hm
    rcases List.mem_cons.mp hm with e | hm
    · exact absurd F.ns.lt (e ▸ Nat.lt_irrefl _)
    · exact (N _ hl).2.1 ((List.mem_singleton.mp hm).symm)
  · intro b hb
    rw [List.mem_singleton.mp hb]
    exact next_is_new F
  · intro p hp hI
    exact absurd (Heap.lt_size (N p hp).1) ((List.mem_singleton.mp hI) ▸ Nat.lt_irrefl _)
  · rintro i v m₁ news₁ s₁ own ⟨hh', tk', rfl⟩ hin hP hJ hoff hown _ hfp hst F₁ N₁
    have hI0 : h₀.get? s.heap.objs.size = none := next_is_new F
    obtain ⟨⟨oI, hoI, hcI, hdI⟩, _⟩ := id hst
    have hIown : (s.heap.objs.size, oI) ∈ own := hfp _ (List.mem_cons.mpr (.inl rfl)) hI0 _ hoI
    have hl₁ := hlJ _ _ _ hJ
    have hsep : OwnOff [(s.heap.objs.size, oI)] (news₁.map (·.1)) := by
      intro p hp b hb e
      obtain ⟨q, hq, rfl⟩ := List.mem_map.mp hb
      rw [List.mem_singleton.mp hp] at e
      exact hoff q hq (List.mem_singleton.mpr e.symm)
    have hv : vs[i]? = some v := by simpa using hP
    have N₂ : News h₀ env.locals hh' (news₁ ++ [(s.heap.objs.size, oI)]) := fun p hp => by
      rcases List.mem_append.mp hp with hp | hp
      · exact N₁ p (List.mem_append.mpr (.inr hp))
      · rw [List.mem_singleton.mp hp]
        exact N₁ _ (List.mem_append.mpr (.inl hIown))
    refine wpAny_mono (turn i v m₁ news₁ hh' tk' [(s.heap.objs.size, oI)] hv hsep ⟨_, _, rfl, hcI, _, _, hdI⟩ hJ F₁ N₂) (fun f s₂ p => ?_) fun _ _ e => e
    have fin : InvEndG h₀ env.locals (J (i + 1)) [(s.heap.objs.size, oI)] { s with heap := hh', toks := tk' } s₂ → LoopStepU h₀ env.locals [s.heap.objs.size] own (J (i + 1)) { s with heap := hh', toks := tk' } .next s₂ := by
      rintro ⟨h', tk, m', news', nx, e, F', N', hn, ho, ha, hm⟩
      refine ⟨rfl, h', tk, m', nx, e, F', fun p hp => N' p ?_, fun p hp hq => ?_, hm⟩
      · rcases List.mem_append.mp hp with hp | hp
        · rcases List.mem_cons.mp (hown p hp) with h1 | h1
          · have e1 := (N₁ p (List.mem_append.mpr (.inl hp))).1
            rw [h1, hoI] at e1
            have : p = (s.heap.objs.size, oI) := Prod.ext h1 (Option.some.inj e1).symm
            rw [this]
            exact ho _ (.head _)
          · have h2 := List.mem_singleton.mp h1
            have e1 := (N₁ p (List.mem_append.mpr (.inl hp))).1
            have e2 := (N₁ _ (List.mem_append.mpr (.inr hl₁))).1
            rw [h2] at e1
            rw [e1] at e2
            have : p = (l, listOf vs.toArray nn) := Prod.ext h2 (Option.some.inj e2)
            rw [this]
            exact hn _ (hlJ _ _ _ hm)
        · exact hn p hp
      · exact ha _ (.head _) p.1 (List.mem_map.mpr ⟨p, hp, rfl⟩) (List.mem_singleton.mp hq).symm
    cases f with
    | ret v => exact .ret p
    | brk => exact .brk p
    | next => exact .next (fin p)
    | cont => exact .cont (fin p)
  · rintro h' tk m' news' F' N' _ hJ
    exact done m' news' h' tk hJ F' N'
end


def RowsAt (news : List (Addr × Obj)) (vs : List Value) (rows : List (Int × Int × Int)) : Prop := vs.length = rows.length ∧ ∀ (i : Nat) v r, vs[i]? = some v → rows[i]? = some r → ∃ x a b c, v = .ref x ∧ (x, ({ cls := .type "tuple", data := .seq #[.int r.1 a, .int r.2.1 b, .int r.2.2 c] } : Obj)) ∈ news
def cnt (who since : Int) (rows : List (Int × Int × Int)) : Int × Int := rows.foldl (fun q r => if r.1 = who ∧ since < r.2.1 then (q.1 + r.2.2, if q.1 = 0 then r.2.1 else q.2) else q) (0, 0)
theorem cnt_snoc (who since : Int) (rows : List (Int × Int × Int)) (r : Int × Int × Int) : cnt who since (rows ++ [r]) = if r.1 = who ∧ since < r.2.1 then ((cnt who since rows).1 + r.2.2, if (cnt who since rows).1 = 0 then r.2.1 else (cnt who since rows).2) else cnt who since rows := by
  unfold cnt
  rw [List.foldl_append]
  rfl
def CntAt (who since : Int) (rows : List (Int × Int × Int)) (m₀ m' : PySem.Str → Option Value) : Prop := ∃ tt tf, m' (PySem.Str.ofString "total") = some (.int (cnt who since rows).1 tt) ∧ m' (PySem.Str.ofString "first") = some (.int (cnt who since rows).2 tf) ∧ ∀ z, z ≠ PySem.Str.ofString "row" → z ≠ PySem.Str.ofString "total" → z ≠ PySem.Str.ofString "first" → m' z = m₀ z
theorem CntAt.init {who since : Int} {m₀ : PySem.Str → Option Value} {ta tb : Tok} (h1 : m₀ (PySem.Str.ofString "total") = some (.int 0 ta)) (h2 : m₀ (PySem.Str.ofString "first") = some (.int 0 tb)) : CntAt who since [] m₀ m₀ :=
  ⟨ta, tb, h1, h2, fun _ _ _ _ => rfl⟩
theorem CntAt.row {who since : Int} {rows : List (Int × Int × Int)} {m₀ m' : PySem.Str → Option Value} {v : Value} (h : CntAt who since rows m₀ m') : ∃ tt tf, (fun y => if y = PySem.Str.ofString "row" then some v else m' y) = kstB m₀ [(PySem.Str.ofString "row", v), (PySem.Str.ofString "total", .int (cnt who since rows).1 tt), (PySem.Str.ofString "first", .int (cnt who since rows).2 tf)] := by
  obtain ⟨tt, tf, h1, h2, h⟩ := h
  refine ⟨tt, tf, funext fun y => ?_⟩
  by_cases e : y = PySem.Str.ofString "row"
  · subst e; simp [kstB]
  · rw [if_neg e]
    by_cases e1 : y = PySem.Str.ofString "total"
    · subst e1; rw [h1]; simp only [kstB, if_neg e, if_true]
    · by_cases e2 : y = PySem.Str.ofString "first"
      · subst e2; rw [h2]; simp only [kstB, if_neg e, if_neg e1, if_true]
      · rw [h y e e1 e2]; simp [kstB, e, e1, e2]
theorem take_snoc {α : Type} {l : List α} {i : Nat} {a : α} (h : l[i]? = some a) : l.take (i + 1) = l.take i ++ [a] := by simp [List.take_add_one, h]
set_option maxHeartbeats 2000000 in
theorem iter_cnt {prog : Program} {w : World} {A : Around} {E : Value → Shared → Prop} {s : Shared} {env : Env} {h₀ : Heap} {x : PySem.Str} {body : List Stmt} {Q : Flow → Shared → Prop} {l : Addr} {vs : List Value} {nn : Nat} {m₀ : PySem.Str → Option Value} {news : List (Addr × Obj)} {rows : List (Int × Int × Int)} {who since : Int} {ta tb : Tok}
    (hh : A.handled = none) (hl : (l, listOf vs.toArray nn) ∈ news) (hr : RowsAt news vs rows) (F : Fr h₀ env.locals s.heap m₀) (N : News h₀ env.locals s.heap news) (h1 : m₀ (PySem.Str.ofString "total") = some (.int 0 ta)) (h2 : m₀ (PySem.Str.ofString "first") = some (.int 0 tb))
    (turn : ∀ i v r m₁ h tk own, vs[i]? = some v → rows[i]? = some r → OwnOff own (news.map (·.1)) → CntAt who since (rows.take i) m₀ m₁ → Fr h₀ env.locals h (fun y => if y = x then some v else m₁ y) → News h₀ env.locals h (news ++ own) →
      wpAny (model prog w) A (execs body env) (InvPostG h₀ env.locals (fun m' nx => nx = news ∧ CntAt who since (rows.take i ++ [r]) m₀ m') own { s with heap := h, toks := tk } Q) E { s with heap := h, toks := tk })
    (done : ∀ m₁ h tk, CntAt who since rows m₀ m₁ → Fr h₀ env.locals h m₁ → News h₀ env.locals h news → Q .next { s with heap := h, toks := tk }) :
    wpAny (model prog w) A (pyIter (.ref l)) (fun it s₂ => LoopAtV prog w A h₀ env x body Q E it s₂) E s := by
  refine iter_any (vs := vs) (nn := nn) (fun i m' nx => nx = news ∧ CntAt who since (rows.take i) m₀ m') hh (fun i m' nx h => h.1 ▸ hl) F N ⟨rfl, by rw [List.take_zero]; exact CntAt.init h1 h2⟩ ?_ ?_
  · rintro i v m₁ news₁ h tk own hv ho _ ⟨rfl, hc⟩ F' N'
    have hi : i < rows.length := by have := (List.getElem?_eq_some_iff.mp hv).1; rw [hr.1] at this; exact this
    obtain ⟨r, hri⟩ : ∃ r, rows[i]? = some r := ⟨_, List.getElem?_eq_getElem hi⟩
    rw [take_snoc hri]
    exact turn i v r m₁ h tk own hv hri ho hc F' N'
  · rintro m₁ news₁ h tk ⟨rfl, hc⟩ F' N'
    rw [hr.1, List.take_length] at hc
    exact done m₁ h tk hc F' N'
def Stop1 (P : Prop) : Prop := P
theorem Stop1.mk {P : Prop} (h : Stop1 P) : P := h
local macro_rules | `(tactic| walk_at "exec For Name Name cons nil") => `(tactic| (refine Stop1.mk ?_))
local macro_rules | `(tactic| walk_at "exec For") => `(tactic| (refine Stop1.mk ?_))
set_option maxHeartbeats 3000000 in
theorem counted {w : World} {p : Program} {loose : List PySem.Str} {mean : ExcName → Option Value} {mg mb : PySem.Str → Option Value} {dp un : Nat} {gd : Option (List Code)} {cn : PySem.Str} {cs : Scope} {a : Addr} {ccd : Value} {cl : List (PySem.Str × Addr)} {outer : List Env} {A₀ : Around} {base h₀ : Heap} {L : Addr} {m : PySem.Str → Option Value} {news : List (Addr × Obj)} {s : Shared} {Q E : Value → Shared → Prop}
    {kp : Addr} {vs : List Value} {cap : Nat} {who since : Int} {rows : List (Int × Int × Int)} {t1 t2 : Tok}
    (B : Below A₀ base outer h₀) (F : Fr h₀ L s.heap m) (X : (HeapK w.params).In h₀) (N : News h₀ L s.heap news) (T : Top p loose mean mg mb h₀) (hk : cs.kind = .function)
    (hkp : (kp, listOf vs.toArray cap) ∈ news) (hrows : RowsAt news vs rows) (hmax : vs.length ≤ 1000)
    (hdp : dp + 20 < recursionLimit) (hun : un + 200 < cLine)
    (ret : ∀ D ta tb h' tk', Fr h₀ L h' m → News h₀ L h' ((D, ({ cls := .type "tuple", data := .seq #[.int (cnt who since rows).1 ta, .int (cnt who since rows).2 tb] } : Obj)) :: news) → Q (.ref D) { s with heap := h', toks := tk' }) :
    wpAny (model PG w) (ktrTop dp un gd cn cs L a ccd cl outer) (call (.ref 611) [.ref kp, .int who t1, .int since t2]) Q E s := by
  refine wpAny_call ?_
  k_dflt ktr_enter
  k_steps
  unfold Stop1
  (rename Fr _ _ _ _ => lF')
  (with_unfolding_all refine' For_invVF lF' ?k1 ?k2 ?_; (case k1 => exact rfl); (case k2 => exact rfl))
  k_steps
  k_dflt (refine' iter_cnt (who := who) (since := since) ?hh hkp hrows lF' ?N ?h1 ?h2 ?_ ?_; (case hh => exact rfl); (case N => k_asm); (case h1 => exact rfl); (case h2 => exact rfl))
  rotate_left
  · intro m₁ h tk' hc F' N'
    obtain ⟨tt, tf, em⟩ := hc.row (v := .none)
    obtain ⟨tt, tf, c1, c2, c3⟩ := hc
    have em : m₁ = kstB m₁ [(PySem.Str.ofString "total", .int (cnt who since rows).1 tt), (PySem.Str.ofString "first", .int (cnt who since rows).2 tf)] := funext fun z => (kstB_eq (by intro q hq; rcases List.mem_cons.mp hq with rfl | hq; exact c1; rw [List.mem_singleton.mp hq]; exact c2) (fun _ => rfl)).symm
    rw [em] at F'
    k_steps
    all_goals exact ret _ _ _ _ _ (by k_asm) (by k_asm)
  intro i v r m₁ hh' tk' own hv hr ho hc F' N'
  obtain ⟨xr, ra, rb, rc, rfl, hx⟩ := hrows.2 i v r hv hr
  obtain ⟨tt, tf, em⟩ := hc.row (v := .ref xr)
  rw [em] at F'
  k_steps
  all_goals (refine InvEndG.intro (by assumption) (by assumption) ⟨rfl, ?_⟩ ho (fun p hp => List.mem_append_left _ hp) (fun p hp => List.mem_append_right _ hp))
  all_goals (unfold CntAt; rw [cnt_snoc])
  · rw [if_pos ⟨by assumption, by assumption⟩, if_pos (by assumption)]
    exact ⟨_, _, rfl, rfl, fun z h1 h2 h3 => by simp [kstB, h1, h2, h3]⟩
  · rw [if_pos ⟨by assumption, by assumption⟩, if_neg (by assumption)]
    exact ⟨_, _, rfl, rfl, fun z h1 h2 h3 => by simp [kstB, h1, h2, h3]⟩
  · rw [if_neg (fun z => absurd z.2 (by assumption))]
    exact ⟨_, _, rfl, rfl, fun z h1 h2 h3 => by simp [kstB, h1, h2, h3]⟩
  · rw [if_neg (fun z => absurd z.1 (by assumption))]
    exact ⟨_, _, rfl, rfl, fun z h1 h2 h3 => by simp [kstB, h1, h2, h3]⟩



end

section
/-- the entries that the kept rows of one caller stand for, the newest first -/
def ents (who x : Int) (rows : List (Int × Int × Int)) : List (Int × Int) := rows.foldl (fun l r => if r.1 = who then List.replicate r.2.2.toNat (r.2.1, r.2.1 + x) ++ l else l) []
theorem ents_snoc (who x : Int) (rows : List (Int × Int × Int)) (r : Int × Int × Int) : ents who x (rows ++ [r]) = if r.1 = who then List.replicate r.2.2.toNat (r.2.1, r.2.1 + x) ++ ents who x rows else ents who x rows := by
  unfold ents
  rw [List.foldl_append]
  rfl
theorem ents_nil (who x : Int) : ents who x [] = [] := rfl
theorem cnt_nil (who since : Int) : cnt who since [] = (0, 0) := rfl
theorem rows_ind {α : Type} {P : List α → Prop} (h0 : P []) (h1 : ∀ l a, P l → P (l ++ [a])) : ∀ l, P l := fun l => by
  rw [← List.reverse_reverse l]
  induction l.reverse with
  | nil => exact h0
  | cons a r ih => rw [List.reverse_cons]; exact h1 _ _ ih
/-- every row's cost is one or more, and no row is later than now -/
def RowsOk (now : Int) (rows : List (Int × Int × Int)) : Prop := ∀ r ∈ rows, 1 ≤ r.2.2 ∧ r.2.2 ≤ 10 ∧ r.2.1 ≤ now
def newer (since : Int) (l : List (Int × Int)) : List (Int × Int) := l.filter fun d => decide (since < d.1)
theorem newer_rep {since : Int} {n : Nat} {d : Int × Int} : newer since (List.replicate n d) = if since < d.1 then List.replicate n d else [] := by
  unfold newer
  rw [List.filter_replicate]
  simp
theorem newer_app {since : Int} {a b : List (Int × Int)} : newer since (a ++ b) = newer since a ++ newer since b := List.filter_append ..
theorem cnt_ents {who since x : Int} (rows : List (Int × Int × Int)) : ∀ _ : (∀ r ∈ rows, 1 ≤ r.2.2), (((newer since (ents who x rows)).length : Nat) : Int) = (cnt who since rows).1 ∧ (∀ d, (newer since (ents who x rows)).getLast? = some d → d.1 = (cnt who since rows).2) := by
  refine rows_ind (P := fun rows => (∀ r ∈ rows, 1 ≤ r.2.2) → (((newer since (ents who x rows)).length : Nat) : Int) = (cnt who since rows).1 ∧ (∀ d, (newer since (ents who x rows)).getLast? = some d → d.1 = (cnt who since rows).2)) ?_ ?_ rows
  · intro _
    exact ⟨rfl, fun d h => by simp [newer, ents_nil] at h⟩
  · intro l r ih ok
    obtain ⟨i1, i2⟩ := ih fun q hq => ok q (List.mem_append_left _ hq)
    have hr : 1 ≤ r.2.2 := ok r (by simp)
    rw [ents_snoc, cnt_snoc]
    by_cases hw : r.1 = who
    · rw [if_pos hw, newer_app, newer_rep]
      by_cases hs : since < r.2.1
      · rw [if_pos hs, if_pos ⟨hw, hs⟩]
        refine ⟨by rw [List.length_append, List.length_replicate]; dsimp only; omega, fun d h => ?_⟩
        dsimp only
        by_cases h0 : (cnt who since l).1 = 0
        · rw [if_pos h0]
          have e : newer since (ents who x l) = [] := List.eq_nil_of_length_eq_zero (by omega)
          rw [e, List.append_nil] at h
          have := List.mem_of_getLast? h
          rw [(List.mem_replicate.mp this).2]
        · rw [if_neg h0]
          have e : newer since (ents who x l) ≠ [] := fun q => h0 (by rw [← i1, q]; rfl)
          rw [List.getLast?_append, List.getLast?_eq_some_getLast e, Option.some_or] at h
          exact i2 d (by rw [List.getLast?_eq_some_getLast e]; exact h)
      · rw [if_neg hs, if_neg (fun z => hs z.2)]
        exact ⟨by simpa using i1, fun d h => i2 d (by simpa using h)⟩
    · rw [if_neg hw, if_neg (fun z => hw z.1)]
      exact ⟨i1, i2⟩
theorem ents_mem {who x : Int} (rows : List (Int × Int × Int)) : ∀ d ∈ ents who x rows, d.2 = d.1 + x ∧ ∃ r ∈ rows, d.1 = r.2.1 := by
  refine rows_ind (P := fun rows => ∀ d ∈ ents who x rows, d.2 = d.1 + x ∧ ∃ r ∈ rows, d.1 = r.2.1) ?_ ?_ rows
  · intro d h; cases h
  · intro l r ih d h
    rw [ents_snoc] at h
    split at h
    · rcases List.mem_append.mp h with h | h
      · rw [(List.mem_replicate.mp h).2]
        exact ⟨rfl, r, by simp, rfl⟩
      · obtain ⟨a, q, hq, e⟩ := ih d h
        exact ⟨a, q, List.mem_append_left _ hq, e⟩
    · obtain ⟨a, q, hq, e⟩ := ih d h
      exact ⟨a, q, List.mem_append_left _ hq, e⟩
theorem ents_len {who x : Int} (rows : List (Int × Int × Int)) : (∀ r ∈ rows, r.2.2 ≤ 10) → (ents who x rows).length ≤ 10 * rows.length := by
  refine rows_ind (P := fun rows => (∀ r ∈ rows, r.2.2 ≤ 10) → (ents who x rows).length ≤ 10 * rows.length) ?_ ?_ rows
  · intro _; exact Nat.le_refl _
  · intro l r ih ok
    have := ih fun q hq => ok q (List.mem_append_left _ hq)
    have hr : r.2.2 ≤ 10 := ok r (by simp)
    rw [ents_snoc, List.length_append]
    split
    · rw [List.length_append, List.length_replicate]
      simp only [List.length_cons, List.length_nil]
      omega
    · simp only [List.length_cons, List.length_nil]
      omega
theorem ents_srt {who x : Int} (rows : List (Int × Int × Int)) : rows.Pairwise (fun a b => a.2.1 ≤ b.2.1) → (ents who x rows).Pairwise fun a b => b.1 ≤ a.1 := by
  refine rows_ind (P := fun rows => rows.Pairwise (fun a b => a.2.1 ≤ b.2.1) → (ents who x rows).Pairwise fun a b => b.1 ≤ a.1) ?_ ?_ rows
  · intro _; exact List.Pairwise.nil
  · intro l r ih h
    obtain ⟨h1, _, h3⟩ := List.pairwise_append.mp h
    rw [ents_snoc]
    split
    · refine List.pairwise_append.mpr ⟨?_, ih h1, fun a ha b hb => ?_⟩
      · exact List.pairwise_replicate.mpr (.inr (Int.le_refl _))
      · rw [(List.mem_replicate.mp ha).2]
        obtain ⟨_, q, hq, e⟩ := ents_mem l b hb
        rw [e]
        exact h3 q hq r (by simp)
    · exact ih h1
/-- what the store holds for one caller: a beginning of its entries; what fell off is a window old -/
def Rel (now who x : Int) (rows : List (Int × Int × Int)) (ds : List (Int × Int)) : Prop := ∃ rest, ents who x rows = ds ++ rest ∧ ∀ d ∈ rest, d.2 ≤ now
theorem Rel.at {now who x : Int} {rows : List (Int × Int × Int)} {ds : List (Int × Int)} (R : Rel now who x rows ds) {i : Nat} {d : Int × Int} (h : ds[i]? = some d) : (ents who x rows)[i]? = some d := by
  obtain ⟨r, e, _⟩ := R
  rw [e, List.getElem?_append_left (List.getElem?_eq_some_iff.mp h).1, h]
theorem pw_at {α : Type} {R : α → α → Prop} (hr : ∀ a, R a a) {l : List α} (h : l.Pairwise R) {i j : Nat} {a b : α} (hij : i ≤ j) (ha : l[i]? = some a) (hb : l[j]? = some b) : R a b := by
  rcases Nat.lt_or_eq_of_le hij with hlt | rfl
  · obtain ⟨h1, rfl⟩ := List.getElem?_eq_some_iff.mp ha
    obtain ⟨h2, rfl⟩ := List.getElem?_eq_some_iff.mp hb
    exact List.pairwise_iff_getElem.mp h i j h1 h2 hlt
  · rw [ha] at hb; cases hb; exact hr a
theorem Rel.srt {now who x : Int} {rows : List (Int × Int × Int)} {ds : List (Int × Int)} (R : Rel now who x rows ds) (hs : rows.Pairwise (fun a b => a.2.1 ≤ b.2.1)) {i j : Nat} {a c : Int × Int} (hij : i ≤ j) (ha : ds[i]? = some a) (hc : ds[j]? = some c) : c.1 ≤ a.1 ∧ c.2 ≤ a.2 := by
  have h1 := pw_at (R := fun a b : Int × Int => b.1 ≤ a.1) (fun a => Int.le_refl _) (ents_srt (who := who) (x := x) rows hs) hij (R.at ha) (R.at hc)
  have e1 := (ents_mem (who := who) (x := x) rows a (List.mem_of_getElem? (R.at ha))).1
  have e2 := (ents_mem (who := who) (x := x) rows c (List.mem_of_getElem? (R.at hc))).1
  exact ⟨h1, by omega⟩
theorem Rel.len {now who x : Int} {rows : List (Int × Int × Int)} {ds : List (Int × Int)} (R : Rel now who x rows ds) (ok : RowsOk now rows) : ds.length ≤ 10 * rows.length := by
  obtain ⟨r, e, _⟩ := R
  have := ents_len (who := who) (x := x) rows fun q hq => (ok q hq).2.1
  rw [e, List.length_append] at this
  omega
theorem newer_cut {since : Int} : ∀ {ds : List (Int × Int)} {r : Nat}, r ≤ ds.length → (∀ (j : Nat) d, j < r → ds[j]? = some d → since < d.1) → (∀ (j : Nat) d, r ≤ j → ds[j]? = some d → d.1 ≤ since) → newer since ds = ds.take r := by
  intro ds r hr h1 h2
  have e : newer since ds = newer since (ds.take r) ++ newer since (ds.drop r) := by rw [← newer_app, List.take_append_drop]
  rw [e]
  have e1 : newer since (ds.take r) = ds.take r := List.filter_eq_self.mpr fun d hd => by
    obtain ⟨i, hi⟩ := List.mem_iff_getElem?.mp hd
    rw [List.getElem?_take] at hi
    split at hi
    · simpa using h1 i d (by assumption) hi
    · cases hi
  have e2 : newer since (ds.drop r) = [] := List.filter_eq_nil_iff.mpr fun d hd => by
    obtain ⟨i, hi⟩ := List.mem_iff_getElem?.mp hd
    rw [List.getElem?_drop] at hi
    have := h2 _ d (Nat.le_add_right _ _) hi
    simp; omega
  rw [e1, e2, List.append_nil]
/-- the count that test and the stats make is the law's total, and the oldest counted entry is of the law's first -/
theorem Rel.count {now who x : Int} {rows : List (Int × Int × Int)} {ds : List (Int × Int)} (R : Rel now who x rows ds) (ok : RowsOk now rows) {r : Nat} (hr : r ≤ ds.length) (h1 : ∀ (j : Nat) d, j < r → ds[j]? = some d → now - x < d.1) (h2 : ∀ (j : Nat) d, r ≤ j → ds[j]? = some d → d.1 ≤ now - x) :
    (r : Int) = (cnt who (now - x) rows).1 ∧ ∀ d, 0 < r → ds[r - 1]? = some d → d.1 = (cnt who (now - x) rows).2 := by
  have hw : newer (now - x) (ents who x rows) = ds.take r := by
    have hmem := ents_mem (who := who) (x := x) rows
    obtain ⟨q, e, hq⟩ := R
    have e2 : newer (now - x) q = [] := List.filter_eq_nil_iff.mpr fun d hd => by
      have h3 := (hmem d (by rw [e]; exact List.mem_append_right _ hd)).1
      have h4 := hq d hd
      simp; omega
    rw [e, newer_app, e2, List.append_nil, newer_cut hr h1 h2]
  obtain ⟨c1, c2⟩ := cnt_ents (who := who) (since := now - x) (x := x) rows fun q hq => (ok q hq).1
  rw [hw] at c1 c2
  rw [List.length_take, Nat.min_eq_left hr] at c1
  refine ⟨c1, fun d h0 hd => c2 d ?_⟩
  rw [List.getLast?_eq_getElem?, List.length_take, Nat.min_eq_left hr, List.getElem?_take, if_pos (by omega), hd]
theorem cnt_nonneg {who since : Int} {now : Int} {rows : List (Int × Int × Int)} (ok : RowsOk now rows) : 0 ≤ (cnt who since rows).1 := by
  have := (cnt_ents (who := who) (since := since) (x := 0) rows fun q hq => (ok q hq).1).1
  omega
/-- a refused hit is refused for a cause -/
theorem Rel.cause {now who x A am : Int} {rows : List (Int × Int × Int)} {ds : List (Int × Int)} (R : Rel now who x rows ds) (ok : RowsOk now rows) (hs : rows.Pairwise (fun a b => a.2.1 ≤ b.2.1)) (ham : 1 ≤ am) (h : am ≤ A → ∃ d, ds[(A - am).toNat]? = some d ∧ now - x ≤ d.1) :
    ¬ ((cnt who (now - x - 1) rows).1 + am ≤ A) := by
  intro hc
  have h0 := cnt_nonneg (who := who) (since := now - x - 1) ok
  obtain ⟨d, hd, hd1⟩ := h (by omega)
  have e := (cnt_ents (who := who) (since := now - x - 1) (x := x) rows fun q hq => (ok q hq).1).1
  have hlt := (List.getElem?_eq_some_iff.mp (R.at hd)).1
  have hk : newer (now - x - 1) ((ents who x rows).take ((A - am).toNat + 1)) = (ents who x rows).take ((A - am).toNat + 1) := List.filter_eq_self.mpr fun c hc => by
    obtain ⟨i, hi⟩ := List.mem_iff_getElem?.mp hc
    rw [List.getElem?_take] at hi
    split at hi
    · have := pw_at (R := fun a b : Int × Int => b.1 ≤ a.1) (fun a => Int.le_refl _) (ents_srt (who := who) (x := x) rows hs) (by omega) hi (R.at hd)
      simp; omega
    · cases hi
  have e2 : newer (now - x - 1) (ents who x rows) = newer (now - x - 1) ((ents who x rows).take ((A - am).toNat + 1)) ++ newer (now - x - 1) ((ents who x rows).drop ((A - am).toNat + 1)) := by rw [← newer_app, List.take_append_drop]
  rw [e2, hk, List.length_append, List.length_take, Nat.min_eq_left (by omega)] at e
  omega
/-- a hit that is let had room -/
theorem let_room {now x A am : Int} {ds : List (Int × Int)} {r : Nat} (hr : r ≤ ds.length) (h1 : ∀ (j : Nat) d, j < r → ds[j]? = some d → now - x < d.1) (_ : am ≤ A) (h : ∀ d, ds[(A - am).toNat]? = some d → d.1 < now - x) : (r : Int) + am ≤ A := by
  rcases Int.lt_or_le (A - am) (r : Int) with hlt | hle
  · have hb : (A - am).toNat < ds.length := by omega
    have e := List.getElem?_eq_getElem hb
    have a1 := h _ e
    have a2 := h1 _ _ (by omega) e
    omega
  · omega
theorem Rel.later {now now' who x : Int} {rows : List (Int × Int × Int)} {ds : List (Int × Int)} (R : Rel now who x rows ds) (h : now ≤ now') : Rel now' who x rows ds := by
  obtain ⟨r, e, hr⟩ := R
  exact ⟨r, e, fun d hd => Int.le_trans (hr d hd) h⟩
theorem Rel.cut {now who x : Int} {rows : List (Int × Int × Int)} {ds ds' r : List (Int × Int)} (R : Rel now who x rows ds) (e : ds = ds' ++ r) (hr : ∀ d ∈ r, d.2 ≤ now) : Rel now who x rows ds' := by
  obtain ⟨q, e1, hq⟩ := R
  refine ⟨r ++ q, by rw [e1, e, List.append_assoc], fun d hd => ?_⟩
  rcases List.mem_append.mp hd with hd | hd
  · exact hr d hd
  · exact hq d hd
theorem Rel.more {now who x am : Int} {rows : List (Int × Int × Int)} {ds : List (Int × Int)} (R : Rel now who x rows ds) : Rel now who x (rows ++ [(who, now, am)]) (List.replicate am.toNat (now, now + x) ++ ds) := by
  obtain ⟨q, e, hq⟩ := R
  exact ⟨q, by rw [ents_snoc, if_pos rfl, e, List.append_assoc], hq⟩
theorem Rel.other {now who who' x t am : Int} {rows : List (Int × Int × Int)} {ds : List (Int × Int)} (R : Rel now who x rows ds) (h : who' ≠ who) : Rel now who x (rows ++ [(who', t, am)]) ds := by
  obtain ⟨q, e, hq⟩ := R
  exact ⟨q, by rw [ents_snoc, if_neg h, e], hq⟩
theorem ents_filter {who who' x : Int} (rows : List (Int × Int × Int)) : ents who x (rows.filter fun r => decide (r.1 ≠ who')) = if who = who' then [] else ents who x rows := by
  refine rows_ind (P := fun rows => ents who x (rows.filter fun r => decide (r.1 ≠ who')) = if who = who' then [] else ents who x rows) ?_ ?_ rows
  · simp [ents_nil]
  · intro l r ih
    rw [List.filter_append]
    by_cases hr : r.1 = who'
    · have e1 : [r].filter (fun r => decide (r.1 ≠ who')) = [] := by simp [hr]
      rw [e1, List.append_nil, ih, ents_snoc]
      by_cases hw : who = who'
      · rw [if_pos hw, if_pos hw]
      · rw [if_neg hw, if_neg hw, if_neg (fun e => hw (by rw [← e, hr]))]
    · have e1 : [r].filter (fun r => decide (r.1 ≠ who')) = [r] := by simp [hr]
      rw [e1, ents_snoc, ih, ents_snoc]
      by_cases hw : who = who'
      · rw [if_pos hw, if_pos hw, if_neg (fun e => hr (e.trans hw))]
      · rw [if_neg hw, if_neg hw]
theorem Rel.gone {now who x : Int} {rows : List (Int × Int × Int)} : Rel now who x (rows.filter fun r => decide (r.1 ≠ who)) [] := ⟨[], by rw [ents_filter, if_pos rfl]; rfl, fun _ h => by cases h⟩
theorem Rel.left {now who who' x : Int} {rows : List (Int × Int × Int)} {ds : List (Int × Int)} (R : Rel now who x rows ds) (h : who ≠ who') : Rel now who x (rows.filter fun r => decide (r.1 ≠ who')) ds := by
  obtain ⟨q, e, hq⟩ := R
  exact ⟨q, by rw [ents_filter, if_neg h, e], hq⟩


end
theorem fill_JD3 : PySem.Challenge.rw_jb0022_01.prog = PySem.Challenge.rw_jb0022_01.prog ∧ HeapK = HeapK := by { k_fill; exact ⟨rfl, rfl⟩ }
def TabOk (news : List (Addr × Obj)) (P : Addr) (pos : Pos) (qual : PySem.Str) : Prop :=
  ∃ ps, (P, tabObj ps) ∈ news ∧ (ps = #[] ∨ ∃ c' oc vs t, ps = #[rawInt pos.line, rawInt pos.col, .ref c'] ∧ (c', oc) ∈ news ∧ c' ≠ P ∧ oc.data = .fields vs ∧ vs[1]? = some (.str qual t))
/-- the ledger, one address taken out -/
def off (P : Addr) (news : List (Addr × Obj)) : List (Addr × Obj) := news.filter fun q => q.1 != P
theorem mem_off {P : Addr} {news : List (Addr × Obj)} {q : Addr × Obj} (h : q ∈ news) (hn : q.1 ≠ P) : q ∈ off P news := List.mem_filter.mpr ⟨h, by simpa using hn⟩
theorem off_ne {P : Addr} {news : List (Addr × Obj)} : ∀ q ∈ off P news, q.1 ≠ P := fun q hq => by simpa using (List.mem_filter.mp hq).2
theorem off_mem {P : Addr} {news : List (Addr × Obj)} {q : Addr × Obj} (h : q ∈ off P news) : q ∈ news := (List.mem_filter.mp h).1
theorem news_front {h₀ h : Heap} {L P : Addr} {o : Obj} {news : List (Addr × Obj)} (N : News h₀ L h news) (hp : (P, o) ∈ news) : News h₀ L h ((P, o) :: off P news) := fun q hq => by
  rcases List.mem_cons.mp hq with rfl | hq
  · exact N _ hp
  · exact N _ (off_mem hq)
section
variable {M : Model} {A : Around} {E : Value → Shared → Prop} {s : Shared} {h₀ : Heap} {L a c P : Addr} {m mg mb : PySem.Str → Option Value} {cn : PySem.Str} {cs : Scope} {ccd : Value} {cl : List (PySem.Str × Addr)} {news : List (Addr × Obj)}
  {p : Program} {loose : List PySem.Str} {mean : ExcName → Option Value} {name qual : PySem.Str} {params : Arguments} {body : PySem.Expr} {scope : Scope} {pos : Pos} {firstLine : Nat} {clos : List (PySem.Str × Addr)}
theorem lam_make {Q : Value → Shared → Prop} (F : Fr h₀ L s.heap m) (N : News h₀ L s.heap news) (T : Top p loose mean mg mb h₀) (C : CodeHd h₀ c P) (hcd : ccd = .ref c) (tab : TabOk news P pos qual)
    (hcl : closureFor scope (envX cn cs L a ccd cl) = pure clos)
    (h : ∀ f c' oc vs t ctv news' h' tk, Fr h₀ L h' m → News h₀ L h' news' → (f, kla_obj name qual params body scope clos ((mg "__name__").getD .none) c' ctv) ∈ news' → (c', oc) ∈ news' → oc.data = .fields vs → vs[1]? = some (.str qual t) →
      (∀ q ∈ news, q.1 ≠ P → q ∈ news') → TabOk news' P pos qual → Q (.ref f) { s with heap := h', toks := tk }) :
    wpAny M A (makeFunction name qual params (.expr body) scope (envX cn cs L a ccd cl) [] [] [] pos firstLine) Q E s := by
  obtain ⟨ps, hP, rfl | ⟨c', oc, vs, t, rfl, hc', hne, hd, hv⟩⟩ := tab
  · refine kla_nest F (news_front N hP) T C hcd (UpdF.head off_ne) (by exact True.intro) (by rfl) hcl fun f c' oc vs t ctv h' tk F' N' hd hv l1 l2 => ?_
    refine h f c' oc vs t ctv _ h' tk F' N' (.head _) (.tail _ (.head _)) hd hv (fun q hq hn => .tail _ (.tail _ (.tail _ (mem_off hq hn)))) ⟨_, .tail _ (.tail _ (.head _)), .inr ⟨c', oc, vs, t, rfl, .tail _ (.head _), ?_, hd, hv⟩⟩
    exact Nat.ne_of_gt (l1 _ (.head _))
  · refine kla_hit (c' := c') F N T C hcd hP (by simp [TriplesOk, rawInt]) (by simp [codeAmong, rawInt]) hcl fun f ctv h' tk F' N' l1 => ?_
    exact h f c' oc vs t ctv _ h' tk F' N' (.head _) (.tail _ hc') hd hv (fun q hq _ => .tail _ hq) ⟨_, .tail _ hP, .inr ⟨c', oc, vs, t, rfl, .tail _ hc', hne, hd, hv⟩⟩
end
section
variable {prog : Program} {w : World} {A : Around} {E : Value → Shared → Prop} {s : Shared} {h₀ : Heap} {L : Addr} {news : List (Addr × Obj)}
theorem truthy_lst {Q : Bool → Shared → Prop} {D : Addr} {vs : List Value} {c : Nat} {b : Bool} (N : News h₀ L s.heap news) (hm : (D, listOf vs.toArray c) ∈ news) (hf : vs.length ≤ 1000) (hb : (!vs.isEmpty) = b) (h : ∀ k, Q b { s with toks := k }) :
    wpAny (model prog w) A (truthy (.ref D)) Q E s := by
  refine wpAny_truthy_list (News.isList N hm) (by rw [List.size_toArray]; omega) ?_
  rw [List.isEmpty_toArray, hb]
  exact h _
theorem item_lstm {Q : Value → Shared → Prop} {value slice : PySem.Expr} {D : Addr} {vs : List Value} {c : Nat} {k : Int} {u : Tok} (N : News h₀ L s.heap news) (hm : (D, listOf vs.toArray c) ∈ news) (h0 : -1 ≤ k) (hk : k < vs.length) (hne : 0 < vs.length) (hv : vs.length ≤ 1000)
    (h : ∀ (i : Nat) v, vs[i]? = some v → (0 ≤ k → i = k.toNat) → Q v s)
    (hs : subscripted slice false (.ref D) (.int k u) = operate [.ref D, .int k u] (getItem (.ref D) (.int k u)) := by with_unfolding_all rfl) :
    wpAny (model prog w) A (subscriptTail value slice (.ref D) (.int k u)) Q E s := by
  have hl := News.isList N hm
  by_cases hk0 : 0 ≤ k
  · have hlt : k.toNat < vs.length := by omega
    exact item_litK hl hk0 (by omega) (List.getElem?_eq_getElem hlt) (h _ _ (List.getElem?_eq_getElem hlt) fun _ => rfl) hs
  · have hlt : (k + vs.length).toNat < vs.length := by omega
    refine tail_any hl.typeIs slot_list_getitem.lookup (wpAny_getItem_list_neg hl (by omega) (by rw [List.size_toArray]; omega) (by omega) (x := vs[(k + vs.length).toNat]) ?_ (h _ _ (List.getElem?_eq_getElem hlt) fun z => absurd z hk0)) hs
    rw [List.size_toArray]
    simp [hlt]
end
theorem TabOk.cast {news news' : List (Addr × Obj)} {P : Addr} {pos : Pos} {q q' : PySem.Str} (t : TabOk news P pos q) (hs : ∀ x ∈ news, x ∈ news') (e : q = q') : TabOk news' P pos q' := by
  subst e
  obtain ⟨ps, hP, h⟩ := t
  refine ⟨ps, hs _ hP, ?_⟩
  rcases h with h | ⟨c', oc, vs, t, h1, h2, h3⟩
  · exact .inl h
  · exact .inr ⟨c', oc, vs, t, h1, hs _ h2, h3⟩
theorem ne_tab {h₀ h : Heap} {L b P : Addr} {o : Obj} {news : List (Addr × Obj)} {pos : Pos} {q : PySem.Str} (N : News h₀ L h news) (hb : (b, o) ∈ news) (t : TabOk news P pos q) (ho : o.cls ≠ .none) : b ≠ P := by
  obtain ⟨ps, hP, _⟩ := t
  intro e
  subst e
  have h1 := (N _ hb).1
  rw [(N _ hP).1] at h1
  cases h1
  exact ho rfl
abbrev mwPos : Pos := ⟨358, 68, 358, 94⟩
abbrev mwQual : PySem.Str := PySem.Str.ofString "MemoryStorage.get_moving_window.<locals>.<lambda>"
abbrev storeD (w : World) (fn sg ex ev : Addr) (t1 t2 t3 t4 : Tok) : Obj :=
  dictOf [⟨PyData.keyHash w.params (PySem.Str.ofString "clock"), .str (PySem.Str.ofString "clock") t1, .ref fn⟩, ⟨PyData.keyHash w.params (PySem.Str.ofString "storage"), .str (PySem.Str.ofString "storage") t2, .ref sg⟩, ⟨PyData.keyHash w.params (PySem.Str.ofString "expirations"), .str (PySem.Str.ofString "expirations") t3, .ref ex⟩, ⟨PyData.keyHash w.params (PySem.Str.ofString "events"), .str (PySem.Str.ofString "events") t4, .ref ev⟩] 4
abbrev entD (w : World) (a e : Int) (t1 t2 u1 u2 : Tok) : Obj :=
  dictOf [⟨PyData.keyHash w.params (PySem.Str.ofString "atime"), .str (PySem.Str.ofString "atime") t1, .int a u1⟩, ⟨PyData.keyHash w.params (PySem.Str.ofString "expiry"), .str (PySem.Str.ofString "expiry") t2, .int e u2⟩] 2
/-- v is an entry with these two numbers, and no part of it is the dict of events -/
def EntAt (w : World) (ev : Addr) (news : List (Addr × Obj)) (v : Value) (d : Int × Int) : Prop := ∃ x xd t1 t2 u1 u2, v = .ref x ∧ (x, instObj 474 xd) ∈ news ∧ (xd, entD w d.1 d.2 t1 t2 u1 u2) ∈ news ∧ xd ≠ ev ∧ x ≠ ev
def EntsAt (w : World) (ev : Addr) (news : List (Addr × Obj)) (vs : List Value) (ds : List (Int × Int)) : Prop := vs.length = ds.length ∧ ∀ (i : Nat) v d, vs[i]? = some v → ds[i]? = some d → EntAt w ev news v d
theorem EntsAt.mono {w : World} {ev : Addr} {news news' : List (Addr × Obj)} {vs : List Value} {ds : List (Int × Int)} (E : EntsAt w ev news vs ds) (hk : ∀ q ∈ news, q.1 ≠ ev → q ∈ news') : EntsAt w ev news' vs ds :=
  ⟨E.1, fun i v d h1 h2 => by
    obtain ⟨x, xd, t1, t2, u1, u2, e, hx, hxd, n1, n2⟩ := E.2 i v d h1 h2
    exact ⟨x, xd, t1, t2, u1, u2, e, hk _ hx n2, hk _ hxd n1, n1, n2⟩⟩
theorem EntsAt.keep {w : World} {h₀ h : Heap} {L P ev : Addr} {news news' : List (Addr × Obj)} {vs : List Value} {ds : List (Int × Int)} {pos : Pos} {q : PySem.Str} (N : News h₀ L h news) (t : TabOk news P pos q) (E : EntsAt w ev news vs ds) (hk : ∀ q ∈ news, q.1 ≠ P → q ∈ news') : EntsAt w ev news' vs ds :=
  ⟨E.1, fun i v d h1 h2 => by
    obtain ⟨x, xd, t1, t2, u1, u2, e, hx, hxd, n⟩ := E.2 i v d h1 h2
    exact ⟨x, xd, t1, t2, u1, u2, e, hk _ hx (ne_tab N hx t (by nofun)), hk _ hxd (ne_tab N hxd t (by nofun)), n⟩⟩
section
variable {K : Type} [DecidableEq K]
theorem va_cons (a : K × Value) (r : List (K × Value)) (k : K) : valueAt (a :: r) k = if a.1 = k then some a.2 else valueAt r k := by
  unfold valueAt
  rw [List.find?_cons]
  by_cases h : a.1 = k <;> simp [h]
theorem va_map (k : K) (v : Value) (k' : K) : ∀ kvs : List (K × Value), valueAt (kvs.map fun kv => if kv.1 = k then (kv.1, v) else kv) k' = if k' = k then (if kvs.any (fun kv => kv.1 = k) then some v else none) else valueAt kvs k'
  | [] => by by_cases h : k' = k <;> simp [valueAt, h]
  | a :: r => by
    rw [List.map_cons, va_cons, va_map k v k' r, va_cons, List.any_cons]
    by_cases h : k' = k
    · subst h
      by_cases h2 : a.1 = k'
      · simp [h2]
      · simp only [if_neg h2, if_true, decide_eq_false h2, Bool.false_or]
    · by_cases h2 : a.1 = k
      · have h3 : ¬ k = k' := fun e => h e.symm
        simp [h2, h, h3]
      · simp [h2, h]
theorem va_app (k : K) (v : Value) (k' : K) : ∀ kvs : List (K × Value), kvs.any (fun kv => kv.1 = k) = false → valueAt (kvs ++ [(k, v)]) k' = if k' = k then some v else valueAt kvs k'
  | [], _ => by
    rw [List.nil_append, va_cons]
    by_cases h : k' = k
    · simp [h]
    · have h3 : ¬ k = k' := fun e => h e.symm
      simp [h, h3]
  | a :: r, hn => by
    rw [List.any_cons, Bool.or_eq_false_iff] at hn
    have ha : ¬ a.1 = k := by simpa using hn.1
    rw [List.cons_append, va_cons, va_app k v k' r hn.2, va_cons]
    by_cases h : k' = k
    · subst h; simp [ha]
    · simp [h]
theorem va_stored (kvs : List (K × Value)) (k : K) (v : Value) (k' : K) : valueAt (stored kvs k v) k' = if k' = k then some v else valueAt kvs k' := by
  unfold stored
  cases h : kvs.any (fun kv => kv.1 = k) with
  | true => rw [if_pos rfl, va_map, h]; simp
  | false => rw [if_neg (by simp), va_app k v k' kvs h]
theorem va_without (k : K) (k' : K) : ∀ kvs : List (K × Value), valueAt (without kvs k) k' = if k' = k then none else valueAt kvs k'
  | [] => by by_cases h : k' = k <;> simp [valueAt, without, h]
  | a :: r => by
    have e : without (a :: r) k = if a.1 = k then without r k else a :: without r k := by
      unfold without
      rw [List.filter_cons]
      by_cases h : a.1 = k <;> simp [h]
    rw [e, va_cons]
    by_cases h : a.1 = k
    · rw [if_pos h, va_without k k' r]
      by_cases h2 : k' = k
      · simp [h2]
      · have h3 : ¬ k = k' := fun e => h2 e.symm
        simp [h, h2, h3]
    · rw [if_neg h, va_cons, va_without k k' r]
      by_cases h2 : k' = k
      · subst h2; simp [h]
      · simp [h2]
end
/-- what the events dict holds for one key -/
def KAt (w : World) (ev : Addr) (news : List (Addr × Obj)) (v : Option Value) (ds : List (Int × Int)) : Prop :=
  (v = none ∧ ds = []) ∨ ∃ b vs cap, v = some (.ref b) ∧ (b, listOf vs.toArray cap) ∈ news ∧ EntsAt w ev news vs ds
structure EvAt (w : World) (av : List Addr) (ev : Addr) (news : List (Addr × Obj)) (n : Nat) (D : PySem.Str → List (Int × Int)) : Prop where
  at' : ∃ o kvs, (ev, o) ∈ news ∧ o.IsDictOf (PySem.strKind PG w) kvs ∧ kvs.length ≤ n ∧ (∀ k b, valueAt kvs k = some (.ref b) → b ∉ av) ∧ ∀ k, KAt w ev news (valueAt kvs k) (D k)
theorem dict_cls {w : World} {o : Obj} {kvs : List (PySem.Str × Value)} (h : o.IsDictOf (PySem.strKind PG w) kvs) : o.cls = .type "dict" := by
  obtain ⟨es, ep, x, _⟩ := h
  exact x.1
theorem EvAt.keep {w : World} {av : List Addr} {h₀ h : Heap} {L P ev : Addr} {n : Nat} {D : PySem.Str → List (Int × Int)} {news news' : List (Addr × Obj)} {pos : Pos} {q : PySem.Str} (V : EvAt w av ev news n D) (N : News h₀ L h news) (t : TabOk news P pos q) (hk : ∀ q ∈ news, q.1 ≠ P → q ∈ news') : EvAt w av ev news' n D := by
  obtain ⟨o, kvs, h1, h2, h3, hav, h4⟩ := V.at'
  refine ⟨o, kvs, hk _ h1 (ne_tab N h1 t (by rw [dict_cls h2]; nofun)), h2, h3, hav, fun k => ?_⟩
  rcases h4 k with h | ⟨b, vs, cap, e, hb, hE⟩
  · exact .inl h
  · exact .inr ⟨b, vs, cap, e, hk _ hb (ne_tab N hb t (by nofun)), hE.keep N t hk⟩

section
local macro_rules | `(tactic| walk_at "truthy ref") => `(tactic| (k_here; k_dflt (refine' truthy_lst ?N ?m ?z ?b ?_; (case N => k_asm); (case m => k_mem); (case z => first | assumption | exact Nat.le_of_ble_eq_true rfl); (case b => exact rfl)); intro _))
local macro_rules | `(tactic| walk_at "eval Lambda") => `(tactic| (refine Stop.mk ?_))
local macro_rules | `(tactic| walk_at "call builtin:len") => `(tactic| (k_here; k_dflt (refine' len_lst ?N ?m ?z ?_; (case N => k_asm); (case m => k_mem); (case z => assumption)); intro _ _))
local macro_rules | `(tactic| walk_at "callWith ref") => `(tactic| (k_here; k_dflt (refine' callWith_F ?k1 ?_; (case k1 => exact FnAt.of (by k_asm) (by k_mem)); k_whole)))
local macro_rules | `(tactic| walk_at "callWith ref") => `(tactic| (k_here; k_dflt (refine' callWith_F0 ?k1 ?_; (case k1 => exact FnAt.of (by k_asm) (by k_mem)); k_whole; try dsimp only [List.nil_append, List.cons_append])))
local macro_rules | `(tactic| kla_enter) => `(tactic| (refine' kla_code ?k1 ?k2 ?k3 ?k4 ?k5 ?kA ?kF ?kK ?k6 ?k7 ?k8 ?k9 ?kB ?_ ?c2 ?c3 ?c4 ?c5; (case kA => exact rfl); (case kF => exact rfl); (case kK => first | exact rfl | assumption); (case k1 => k_asm); (case k2 => k_asm); (case k3 => k_asm); (case k4 => k_asm); (case k5 => k_asm); (case k6 => k_mem); (case k7 => exact codeRec_news (by k_asm) (by k_mem) (by assumption) (by assumption)); (case k8 => k_room); (case k9 => exact rfl); (case c5 => decide); (case kB => exact locs rfl); (case c2 => exact rfl); (case c3 => exact rfl); (case c4 => exact rfl); k_whole; intro g' L' h' FG' F' N' B' X' T'; (try dsimp only); (try k_lift B'); (try k_fold)))

section
local macro_rules | `(tactic| walk_at "call ref") => `(tactic| (k_here; (with_reducible show wpAny _ _ (call (Value.ref _) []) _ _ _); k_dflt (refine' Call1.use (fn := _) (args := []) (by assumption) ?k1 ?k2 ?k3 ?k4 ?k5 ?kK ?kS ?kd ?ku ?_; (case k1 => k_asm); (case k2 => k_asm); (case k3 => k_asm); (case k4 => k_asm); (case k5 => k_asm); (case kK => first | rfl | assumption); (case kS => assumption); (case kd => ktr_room); (case ku => ktr_units); k_whole); rintro _ h' tk' ⟨t', hr'⟩ F' N'; subst hr'; (try dsimp only); (try k_fold)))

section
theorem tcode {w : World} {h : Heap} (X : (HeapK w.params).In h) : CodeHd h 550 546 := codeHd_of_K X (by rfl)
local macro_rules | `(tactic| walk_at "subscriptTail") => `(tactic| (refine Stop.mk ?_))
local macro_rules | `(tactic| walk_at "call ref") => `(tactic| ((with_reducible show wpAny _ _ (call (Value.ref 457) _ _) _ _ _); refine Stop.mk ?_))
local macro_rules | `(tactic| walk_at "call builtin:dict.get") => `(tactic| (refine Stop.mk ?_))
local macro_rules | `(tactic| walk_at "getMethod ref") => `(tactic| (k_here; (with_reducible show wpAny _ _ (getMethod (Value.ref _) (Str.ofString "get") _) _ _ _); k_dflt (refine' kdg_method (knd := PySem.strKind _ _) ?N ?m ?d ?_; (case N => k_asm); (case m => k_mem); (case d => assumption))))
local macro_rules | `(tactic| walk_at "call ref") => `(tactic| ((with_reducible show wpAny _ _ (call (Value.ref _) (_ :: _)) _ _ _); refine Stop.mk ?_))
set_option maxHeartbeats 8000000 in
theorem moving {w : World} {av : List Addr} {p : Program} {loose : List PySem.Str} {mean : ExcName → Option Value} {mg mb : PySem.Str → Option Value} {dp un : Nat} {gd : Option (List Code)} {cn : PySem.Str} {cs : Scope} {a : Addr} {ccd : Value} {cl : List (PySem.Str × Addr)} {outer : List Env} {A₀ : Around} {base h₀ : Heap} {L : Addr} {m : PySem.Str → Option Value} {news : List (Addr × Obj)} {s : Shared} {Q E : Value → Shared → Prop}
    {S : List (Addr × Obj)} {st std fn sg ex ev : Addr} {t1 t2 t3 t4 tk : Tok} {k : PySem.Str} {now x : Int} {lim : Value} {tx : Tok} {nn : Nat} {D : PySem.Str → List (Int × Int)}
    (B : Below A₀ base outer h₀) (F : Fr h₀ L s.heap m) (X : (HeapK w.params).In h₀) (N : News h₀ L s.heap news) (T : Top p loose mean mg mb h₀) (hk : cs.kind = .function)
    (hS : S ⊆ news) (hst : (st, instObj 597 std) ∈ S) (hstd : (std, storeD w fn sg ex ev t1 t2 t3 t4) ∈ S) (hfn : ∃ oc od fd sl, (fn, (⟨oc, od, .func fd, sl⟩ : Obj)) ∈ news)
    (CK : Call1 w p loose mean mg mb S fn 20 200 [] (fun r => ∃ t, r = .int now t)) (EV : EvAt w av ev news nn D) (hlo : (ev == sysModules) = false)
    (hDl : (D k).length ≤ 1000) (hord : ∀ (i j : Nat) a c, i ≤ j → (D k)[i]? = some a → (D k)[j]? = some c → c.1 ≤ a.1)
    (tab : TabOk news 546 mwPos mwQual)
    (hdp : dp + 60 < recursionLimit) (hun : un + 700 < cLine)
    (ret : ∀ Dt a (r : Nat) ta tr news' h' tk', r ≤ (D k).length → (∀ (j : Nat) d, j < r → (D k)[j]? = some d → now - x < d.1) → (∀ (j : Nat) d, r ≤ j → (D k)[j]? = some d → d.1 ≤ now - x) → (∀ d, 0 < r → (D k)[r - 1]? = some d → a = d.1) → Fr h₀ L h' m → News h₀ L h' news' → (Dt, ({ cls := .type "tuple", data := .seq #[.int a ta, .int (r : Int) tr] } : Obj)) ∈ news' → (∀ q ∈ news, q.1 ≠ 546 → q ∈ news') → TabOk news' 546 mwPos mwQual → Q (.ref Dt) { s with heap := h', toks := tk' }) :
    wpAny (model PG w) (ktrTop dp un gd cn cs L a ccd cl outer) (call (.ref 551) [.ref st, .str k tk, lim, .int x tx]) Q E s := by
  obtain ⟨oc, od, fd, sl, hfn⟩ := hfn
  obtain ⟨oev, kvs, hev, hevd, hkn, havk, hall⟩ := EV.at'
  have hk' := hall k
  clear hall
  generalize D k = ds at hk' hDl hord ret
  have hst' := hS hst
  have hstd' := hS hstd
  refine wpAny_call ?_
  k_dflt ktr_enter
  k_steps
  unfold Stop
  rcases hk' with ⟨hk', rfl⟩ | ⟨b, vs, cap, hk', hb, hE⟩
  · k_dflt (refine kdg_get2 (knd := PySem.strKind _ _) (by k_asm) (by k_mem) hevd hlo (strKind_is _ _ _ _) none hk' ?_)
    dsimp only [Option.getD]
    k_steps
    exact ret _ now 0 _ _ _ _ _ (Nat.zero_le _) (fun j d h _ => absurd h (Nat.not_lt_zero _)) (fun j d _ e => by simp at e) (fun d h _ => absurd h (Nat.lt_irrefl _)) (by k_asm) (by k_asm) (.head _) (fun q hq _ => .tail _ (.tail _ hq)) (tab.cast (fun _ z => .tail _ (.tail _ z)) rfl)
  · have hl : vs.length ≤ 1000 := by have := hE.1; omega
    rcases vs with _ | ⟨v0, vr⟩
    · k_dflt (refine kdg_get2 (knd := PySem.strKind _ _) (by k_asm) (by k_mem) hevd hlo (strKind_is _ _ _ _) (some (.ref b)) hk' ?_)
      dsimp only [Option.getD]
      k_steps
      have e0 : ds = [] := List.eq_nil_of_length_eq_zero hE.1.symm
      subst e0
      exact ret _ now 0 _ _ _ _ _ (Nat.zero_le _) (fun j d h _ => absurd h (Nat.not_lt_zero _)) (fun j d _ e => by simp at e) (fun d h _ => absurd h (Nat.lt_irrefl _)) (by k_asm) (by k_asm) (.head _) (fun q hq _ => .tail _ (.tail _ hq)) (tab.cast (fun _ z => .tail _ (.tail _ z)) rfl)
    · k_dflt (refine kdg_get2 (knd := PySem.strKind _ _) (by k_asm) (by k_mem) hevd hlo (strKind_is _ _ _ _) (some (.ref b)) hk' ?_)
      dsimp only [Option.getD]
      k_steps
      · exact absurd ‹(v0 :: vr).isEmpty = true› (by simp)
      unfold Stop
      k_dflt (refine kla_eval rfl ?_)
      k_dflt (refine' lam_make (P := 546) (c := 550) ?F ?N ?T (tcode ?X) ?cd ?tab ?cl ?_; (case F => k_asm); (case N => k_asm); (case T => k_asm); (case X => k_asm); (case cd => rfl); (case cl => exact rfl))
      case tab => exact tab.cast (fun _ z => .tail _ z) (by kernel_rfl)
      intro f c' ocl vsl tl ctv news' h' tk' F' N' hf hc' hd1 hd2 hkeep tab'
      (try dsimp only)
      (try k_fold)
      have hb' := hkeep _ (.tail _ hb) (ne_tab N hb tab (by nofun))
      have hE' := EntsAt.keep N tab hE (fun q hq hn => hkeep q (.tail _ hq) hn)
      k_steps
      unfold Stop
      have hEl : ds.length = (v0 :: vr).length := hE'.1.symm
      k_dflt (refine bisect (S := news') (ks := ds.map fun d => -d.1) (vs := v0 :: vr) (by k_asm) (by k_asm) (by k_asm) (by k_asm) (by k_asm) rfl hb' hf (by rw [List.length_map]; exact hEl) hl (fun _ z => z) ?hK ?hmono ?hdp ?hun ?_)
      case hdp => ktr_room
      case hun => ktr_units
      case hmono =>
        intro i j a c hij ha hc
        rw [List.getElem?_map, Option.map_eq_some_iff] at ha hc
        obtain ⟨a, ha, rfl⟩ := ha
        obtain ⟨c, hc, rfl⟩ := hc
        have := hord i j a c hij ha hc
        omega
      case hK =>
        intro i v kk hv hkk
        rw [List.getElem?_map, Option.map_eq_some_iff] at hkk
        obtain ⟨d, hd, rfl⟩ := hkk
        obtain ⟨y, yd, e1, e2, e3, e4, rfl, hy, hyd, _⟩ := hE'.2 i v d hv hd
        clear ret
        unfold Call1
        intro dp un gd cn cs a ccd cl outer A₀ base h₀ L m news s Q E B F X N T hk hS hdp hun ret
        have hy1 := hS hy
        have hy2 := hS hyd
        have hf1 := hS hf
        have hf2 := hS hc'
        refine wpAny_call ?_
        k_dflt kla_enter
        k_steps
        all_goals exact ret _ _ _ ⟨_, rfl⟩ (by k_asm) (by k_asm)
      intro r t h'' tk'' hr hlo1 hhi1 F'' N''
      (try dsimp only)
      (try k_fold)
      k_steps
      unfold Stop
      have hr' : r ≤ (v0 :: vr).length := hr
      k_dflt (refine item_lstm (by k_asm) (by k_mem) (by omega) (by omega) (by simp) hl ?_)
      intro i v hv hi
      have hi1 : i < (v0 :: vr).length := (List.getElem?_eq_some_iff.mp hv).1
      have hdi : ds[i]? = some (ds[i]'(by omega)) := List.getElem?_eq_getElem _
      obtain ⟨y, yd, e1, e2, e3, e4, rfl, hy, hyd, _⟩ := hE'.2 i v _ hv hdi
      generalize ds[i]'(by omega) = d at hdi hyd
      k_steps
      refine ret _ d.1 r _ _ _ _ _ (by omega) (fun j d' hj e => ?_) (fun j d' hj e => ?_) (fun d' hr0 e => ?_) (by k_asm) (by k_asm) (.head _) (fun q hq hn => .tail _ (hkeep q (.tail _ hq) hn)) (tab'.cast (fun _ z => .tail _ z) rfl)
      · have := hlo1 j (-d'.1) hj (by rw [List.getElem?_map, e]; rfl)
        omega
      · have := hhi1 j (-d'.1) hj (by rw [List.getElem?_map, e]; rfl)
        omega
      · have e9 : i = r - 1 := by have := hi (by omega); omega
        rw [e9, e] at hdi
        cases hdi
        rfl



end

section
theorem fill_JD4 : PySem.Challenge.rw_jb0022_01.prog = PySem.Challenge.rw_jb0022_01.prog ∧ HeapK = HeapK := by { k_fill; exact ⟨rfl, rfl⟩ }
theorem fresh_av {av : List Addr} {S news : List (Addr × Obj)} {l : Addr} (hav : ∀ a ∈ av, ∃ o, (a, o) ∈ S) (hS : S ⊆ news) (hl : ∀ p ∈ news, p.1 < l) : l ∉ av := fun ha => by
  obtain ⟨o, ho⟩ := hav l ha
  exact Nat.lt_irrefl _ (hl _ (hS ho))
theorem fresh_av4 {av : List Addr} {S news : List (Addr × Obj)} {x1 x2 x3 x4 : Addr × Obj} {l : Addr} (hav : ∀ a ∈ av, ∃ o, (a, o) ∈ S) (hS : S ⊆ news) (hl : ∀ p ∈ x1 :: x2 :: x3 :: x4 :: news, p.1 < l) : l ∉ av := fun ha => by
  obtain ⟨o, ho⟩ := hav l ha
  exact Nat.lt_irrefl _ (hl _ (.tail _ (.tail _ (.tail _ (.tail _ (hS ho))))))
theorem ne_cls {h₀ h : Heap} {L a b : Addr} {x y : Obj} {news : List (Addr × Obj)} (N : News h₀ L h news) (h1 : (a, x) ∈ news) (h2 : (b, y) ∈ news) (hc : x.cls ≠ y.cls) : a ≠ b := by
  intro e
  subst e
  have e1 := (N _ h1).1
  rw [(N _ h2).1] at e1
  cases e1
  exact hc rfl
theorem list_dict : (Value.type "list") ≠ .type "dict" := fun e => by injection e with e; exact absurd e (by decide)
theorem KAt.mono {w : World} {h₀ h : Heap} {L ev : Addr} {news news' : List (Addr × Obj)} {v : Option Value} {ds : List (Int × Int)} {o : Obj} (N : News h₀ L h news) (hev : (ev, o) ∈ news) (hc : o.cls = .type "dict") (K : KAt w ev news v ds) (hk : ∀ q ∈ news, q.1 ≠ ev → q ∈ news') : KAt w ev news' v ds := by
  rcases K with K | ⟨b, vs, cap, e, hb, hE⟩
  · exact .inl K
  · exact .inr ⟨b, vs, cap, e, hk _ hb (ne_cls N hb hev (by rw [hc]; exact list_dict)), hE.mono hk⟩
section
variable {w : World} {A : Around} {E : Value → Shared → Prop} {s : Shared} {h₀ : Heap} {L ev : Addr} {m : PySem.Str → Option Value} {news : List (Addr × Obj)} {k : PySem.Str} {tk : Tok}
theorem ev_put {Q : Unit → Shared → Prop} {o : Obj} {kvs : List (PySem.Str × Value)} {v : Value} (F : Fr h₀ L s.heap m) (N : News h₀ L s.heap news) (hev : (ev, o) ∈ news) (hd : o.IsDictOf (PySem.strKind PG w) kvs) (hn : kvs.length ≤ 2000)
    (h : ∀ o' news' h' tk', Fr h₀ L h' m → News h₀ L h' news' → (∀ q ∈ news, q.1 ≠ ev → q ∈ news') → (ev, o') ∈ news' → o'.IsDictOf (PySem.strKind PG w) (stored kvs k v) → Q () { s with heap := h', toks := tk' }) :
    wpAny (model PG w) A (setItem (.ref ev) (.str k tk) v) Q E s :=
  kda_set (knd := PySem.strKind _ _) F (news_front N hev) (UpdF.head off_ne) hd (strKind_is _ _ _ _) (by rw [sizeLine_eq]; omega) fun h' o' F' N' hd' => h o' _ h' _ F' N' (fun q hq hn => .tail _ (mem_off hq hn)) (.head _) hd'
theorem ev_setdef {av : List Addr} {Q : Value → Shared → Prop} {l : Addr} {n : Nat} {D : PySem.Str → List (Int × Int)} (F : Fr h₀ L s.heap m) (N : News h₀ L s.heap news) (V : EvAt w av ev news n D) (hlo : (ev == sysModules) = false) (hn : n ≤ 1000) (hl : (l, W.listOf #[] 0) ∈ news) (hla : l ∉ av)
    (h : ∀ b vs cap o' kvs' news' h' tk', Fr h₀ L h' m → News h₀ L h' news' → (∀ q ∈ news, q.1 ≠ ev → q ∈ news') → (ev, o') ∈ news' → o'.IsDictOf (PySem.strKind PG w) kvs' → kvs'.length ≤ n + 1 → valueAt kvs' k = some (.ref b) → (b, listOf vs.toArray cap) ∈ news' → EntsAt w ev news' vs (D k) →
      (∀ k b, valueAt kvs' k = some (.ref b) → b ∉ av) → (∀ k', KAt w ev news' (valueAt kvs' k') (D k')) → Q (.ref b) { s with heap := h', toks := tk' }) :
    wpAny (model PG w) A (call (.builtin "dict.setdefault") [.ref ev, .str k tk, .ref l]) Q E s := by
  obtain ⟨o, kvs, hev, hd, hkn, havk, hall⟩ := V.at'
  have hcls := dict_cls hd
  rcases hall k with ⟨hv, hD⟩ | ⟨b, vs, cap, hv, hb, hE⟩
  · have hll : l ≠ ev := ne_cls N hl hev (by rw [hcls]; exact list_dict)
    refine kob_setdef_new (knd := PySem.strKind _ _) F (news_front N hev) (UpdF.head off_ne) hd hlo (strKind_is _ _ _ _) (PySem.F.args_dict_setdefault_3 _ _ _) hv (by rw [sizeLine_eq]; omega) fun h' o' F' N' hd' => ?_
    have keep : ∀ q ∈ news, q.1 ≠ ev → q ∈ (ev, o') :: off ev news := fun q hq hn => .tail _ (mem_off hq hn)
    have hl' : (l, listOf ([] : List Value).toArray 0) ∈ (ev, o') :: off ev news := keep _ hl hll
    have hE0 : EntsAt w ev ((ev, o') :: off ev news) [] (D k) := ⟨by rw [hD]; rfl, fun i v d e _ => by simp at e⟩
    refine h l [] 0 o' _ _ h' _ F' N' keep (.head _) hd' (Nat.le_trans (stored_length_le _ _ _) (by omega)) (by rw [va_stored, if_pos rfl]) hl' hE0 (fun k' b' e => ?_) fun k' => ?_
    · rw [va_stored] at e
      by_cases hk : k' = k
      · rw [if_pos hk] at e; cases e; exact hla
      · rw [if_neg hk] at e; exact havk k' b' e
    rw [va_stored]
    by_cases hk : k' = k
    · rw [if_pos hk, hk]
      exact .inr ⟨l, [], 0, rfl, hl', hE0⟩
    · rw [if_neg hk]
      exact (hall k').mono N hev hcls keep
  · refine kob_setdef_there (knd := PySem.strKind _ _) N hev hd hlo (strKind_is _ _ _ _) (PySem.F.args_dict_setdefault_3 _ _ _) hv (by rw [sizeLine_eq]; omega) ?_
    exact h b vs cap o kvs news s.heap _ F N (fun q hq _ => hq) hev hd (by omega) hv hb hE havk hall
end
theorem rep_flat (n : Nat) (v : Value) : (List.replicate n [v]).flatten = List.replicate n v := by
  induction n with
  | zero => rfl
  | succ n ih => rw [List.replicate_succ, List.flatten_cons, ih, List.replicate_succ]; rfl
section
variable {prog : Program} {w : World} {A : Around} {E : Value → Shared → Prop} {s : Shared} {h₀ : Heap} {L : Addr} {m : PySem.Str → Option Value} {news : List (Addr × Obj)} {Q : Value → Shared → Prop}
theorem add_lst {a b : Addr} {vs ws : List Value} {c c2 : Nat} (F : Fr h₀ L s.heap m) (N : News h₀ L s.heap news) (ha : (a, listOf vs.toArray c) ∈ news) (hb : (b, listOf ws.toArray c2) ∈ news) (hz : vs.length + ws.length ≤ 2000)
    (h : ∀ D h', Fr h₀ L h' m → News h₀ L h' ((D, listOf (vs ++ ws).toArray 0) :: news) → (∀ p ∈ news, p.1 < D) → Q (.ref D) { s with heap := h' }) : wpAny (model prog w) A (binaryOp .Add (.ref a) (.ref b)) Q E s :=
  add_lists F N (News.isList N ha) (News.isList N hb) (fun h' F' N' => h _ h' F' N' fun p hp => Heap.lt_size (N p hp).1) (by rw [sizeLine_eq]; omega)
end
theorem EvAt.same {w : World} {av : List Addr} {ev : Addr} {news : List (Addr × Obj)} {n n' : Nat} {D : PySem.Str → List (Int × Int)} {k : PySem.Str} (V : EvAt w av ev news n D) (hn : n ≤ n') : EvAt w av ev news n' (fun k' => if k' = k then D k else D k') := by
  have e : (fun k' => if k' = k then D k else D k') = D := by
    funext k'
    by_cases h : k' = k
    · rw [if_pos h, h]
    · rw [if_neg h]
  rw [e]
  obtain ⟨o, kvs, h1, h2, h3, hav, h4⟩ := V.at'
  exact ⟨o, kvs, h1, h2, Nat.le_trans h3 hn, hav, h4⟩
theorem EvAt.mono {w : World} {av : List Addr} {ev : Addr} {news news' : List (Addr × Obj)} {n : Nat} {D : PySem.Str → List (Int × Int)} (V : EvAt w av ev news n D) (hk : ∀ q ∈ news, q ∈ news') : EvAt w av ev news' n D := by
  obtain ⟨o, kvs, h1, h2, h3, hav, h4⟩ := V.at'
  refine ⟨o, kvs, hk _ h1, h2, h3, hav, fun k => ?_⟩
  rcases h4 k with h | ⟨b, vs, cap, e, hb, hE⟩
  · exact .inl h
  · exact .inr ⟨b, vs, cap, e, hk _ hb, hE.mono fun q hq _ => hk q hq⟩
theorem ev_item {w : World} {A : Around} {E : Value → Shared → Prop} {s : Shared} {h₀ : Heap} {L d : Addr} {news : List (Addr × Obj)} {o : Obj} {kvs : List (PySem.Str × Value)} {k : PySem.Str} {tk : Tok} {v : Value} {value slice : PySem.Expr} {Q : Value → Shared → Prop} (N : News h₀ L s.heap news) (hp : (d, o) ∈ news) (hd : o.IsDictOf (PySem.strKind PG w) kvs) (hl : valueAt kvs k = some v) (h : Q v { s with toks := s.toks + 1 })
    (hs : subscripted slice false (.ref d) (.str k tk) = operate [.ref d, .str k tk] (getItem (.ref d) (.str k tk)) := by with_unfolding_all rfl) :
    wpAny (model PG w) A (subscriptTail value slice (.ref d) (.str k tk)) Q E s :=
  have hD := kda_dict N hp hd
  tail_any hD.typeIs slot_dict_getitem.lookup (wpAny_getItem_of (strKind_is _ _ _ _) hD.mapOf hl h) hs
theorem ev_done {w : World} {av : List Addr} {ev : Addr} {nn : Nat} {D : PySem.Str → List (Int × Int)} {k : PySem.Str} {am now x : Int} {vs : List Value} {o' o2 o1 ol : Obj} {kvs' : List (PySem.Str × Value)} {news1 news2 : List (Addr × Obj)} {g h : Heap} {L D2 D1 l x' d' : Addr} {a1 a2 a3 a4 : Tok}
    (N : News g L h ((D2, listOf (List.replicate am.toNat (Value.ref x') ++ vs).toArray 0) :: (D1, o1) :: (l, ol) :: (x', instObj 474 d') :: (d', entD w now (now + x) a1 a2 a3 a4) :: news1))
    (hlt : ∀ p ∈ news1, p.1 < d') (hev1 : (ev, o') ∈ news1) (hd1 : o'.IsDictOf (PySem.strKind PG w) kvs') (hkn1 : kvs'.length ≤ nn + 1) (hE1 : EntsAt w ev news1 vs (D k)) (havk : ∀ k b, valueAt kvs' k = some (.ref b) → b ∉ av) (hDa : D2 ∉ av) (hall1 : ∀ k', KAt w ev news1 (valueAt kvs' k') (D k'))
    (keep2 : ∀ q ∈ ((D2, listOf (List.replicate am.toNat (Value.ref x') ++ vs).toArray 0) :: (D1, o1) :: (l, ol) :: (x', instObj 474 d') :: (d', entD w now (now + x) a1 a2 a3 a4) :: news1), q.1 ≠ ev → q ∈ news2)
    (hev2 : (ev, o2) ∈ news2) (hd2 : o2.IsDictOf (PySem.strKind PG w) (stored kvs' k (.ref D2))) :
    EvAt w av ev news2 (nn + 2) (fun k' => if k' = k then List.replicate am.toNat (now, now + x) ++ D k else D k') := by
  have hcls := dict_cls hd1
  have hevl := (List.mem_cons_of_mem (D2, listOf (List.replicate am.toNat (Value.ref x') ++ vs).toArray 0) (List.mem_cons_of_mem (D1, o1) (List.mem_cons_of_mem (l, ol) (List.mem_cons_of_mem (x', instObj 474 d') (List.mem_cons_of_mem (d', entD w now (now + x) a1 a2 a3 a4) hev1)))))
  have n1 : D2 ≠ ev := ne_cls N (.head _) hevl (by rw [hcls]; exact list_dict)
  have n2 : x' ≠ ev := ne_cls N (.tail _ (.tail _ (.tail _ (.head _)))) hevl (by rw [hcls]; nofun)
  have n3 : d' ≠ ev := Nat.ne_of_gt (hlt _ hev1)
  have k1 : ∀ q ∈ news1, q.1 ≠ ev → q ∈ news2 := fun q hq hn => keep2 q (.tail _ (.tail _ (.tail _ (.tail _ (.tail _ hq))))) hn
  have hx := keep2 _ (.tail _ (.tail _ (.tail _ (.head _)))) n2
  have hd := keep2 _ (.tail _ (.tail _ (.tail _ (.tail _ (.head _))))) n3
  have hD2 := keep2 _ (.head _) n1
  have N1 : News g L h news1 := fun q hq => N q (.tail _ (.tail _ (.tail _ (.tail _ (.tail _ hq)))))
  refine ⟨o2, _, hev2, hd2, Nat.le_trans (stored_length_le _ _ _) (by omega), (fun k' b' e => by
    rw [va_stored] at e
    by_cases hk : k' = k
    · rw [if_pos hk] at e; cases e; exact hDa
    · rw [if_neg hk] at e; exact havk k' b' e), fun k' => ?_⟩
  rw [va_stored]
  by_cases hk : k' = k
  · rw [if_pos hk, if_pos hk]
    refine .inr ⟨D2, _, 0, rfl, hD2, ?_, fun i v d h1 h2 => ?_⟩
    · rw [List.length_append, List.length_append, List.length_replicate, List.length_replicate, hE1.1]
    · rw [List.getElem?_append] at h1 h2
      rw [List.length_replicate] at h1 h2
      by_cases hi : i < am.toNat
      · rw [if_pos hi, List.getElem?_replicate, if_pos hi] at h1 h2
        cases h1
        cases h2
        exact ⟨x', d', a1, a2, a3, a4, rfl, hx, hd, n3, n2⟩
      · rw [if_neg hi] at h1 h2
        exact (hE1.mono k1).2 _ v d h1 h2
  · rw [if_neg hk, if_neg hk]
    exact (hall1 k').mono N1 hev1 hcls k1
section
variable {prog : Program} {w : World} {A₀ : Around} {E : Value → Shared → Prop} {s' : Shared} {base g g₀ h : Heap} {outer : List Env} {L a e : Addr} {m : PySem.Str → Option Value} {name : PySem.Str} {scope : Scope} {cd : Value}
  {b₀ : Stmt} {suite : List Stmt} {pos np : Pos} {rest : List ExceptHandler} {Q : Flow → Shared → Prop} {news : List (Addr × Obj)} {KF : Frag}
  {p : Program} {loose : List PySem.Str} {mean : ExcName → Option Value} {mg mb : PySem.Str → Option Value} {x : PySem.Str} {X T' : String}
/-- an exception new in the frame whose try takes it -/
theorem caught_here (K : Below A₀ base outer g) (hx₀ : Heap.NewExc h s'.heap e X) (F : Fr g L h m) (N : News g L h news) (XB : KF.In base) (TB : Top p loose mean mg mb base)
    (D : KtsDicts (outer.filterMap (·.frame)) g) (T0 : KtsTurn (outer.filterMap (·.frame)) g₀ g)
    (ex : nsIn KF mainGlobals x = some none) (hv : bootBuiltins x = some (.type T')) (hn' : x ≠ "__name__")
    (hexc : isSubtype (.type T') (.type "BaseException") = pure true) (hnt : isSubtype (.type ((Manifest.find? T').elim "type" fun y => y.metatype)) (.type "tuple") = pure false) (hsub : isSubtype (.type X) (.type T') = pure true)
    (k : ∀ h' g', KtsTurn (outer.filterMap (·.frame)) g₀ g' → Fr g' L h' m → News g' L h' news → Below A₀ base outer g' → KF.In g' → Top p loose mean mg mb g' → KtsDicts (outer.filterMap (·.frame)) g' →
      wpAny (model prog w) ((A₀.deeper (envOf name scope L a cd)).mark (some (.ref e))) (execs (b₀ :: suite) (envOf name scope L a cd)) Q E { s' with heap := h' })
    (hk : scope.kind = .function := by rfl) (hx : (envOf name scope L a cd).kindOf x = some .globalImplicit := by rfl) (hd : (x == ("__debug__" : PySem.Str)) = false := by decide)
    (hE : PassesOwnAt (model prog w) ((A₀.deeper (envOf name scope L a cd)).mark (some (.ref e))) (A₀.deeper (envOf name scope L a cd)) (envOf name scope L a cd) E := by passes_own) :
    wpAny (model prog w) (A₀.deeper (envOf name scope L a cd)) (noteFrame (.ref e) (envOf name scope L a cd))
      (fun _ s₂ => wpAny (model prog w) (A₀.deeper (envOf name scope L a cd)) (setFlight (.ref e) none) (fun _ s₃ =>
        wpAny (model prog w) (A₀.deeper (envOf name scope L a cd)) (handleBy (.ref e) (envOf name scope L a cd) (.ExceptHandler (some (.Name x np)) none (b₀ :: suite) pos :: rest)) Q E s₃) E s₂) E s' := by
  have K' := K.push (name := name) (a := a) (cd := cd) F hk
  have hin : ∀ env ∈ (envOf name scope L a cd :: outer), ∀ b, env.frame = some b → b ∈ (envOf name scope L a cd :: outer).filterMap (·.frame) := fun env he b hb => List.mem_filterMap.mpr ⟨env, he, hb⟩
  have hBG : ∀ b o, h.get? b = some o → b ∉ (envOf name scope L a cd :: outer).filterMap (·.frame) → (hideAll h ((envOf name scope L a cd :: outer).filterMap (·.frame))).get? b = some o := fun b o q nm => hideAll_get _ q nm
  have hl : ∀ q ∈ news, (hideAll h ((envOf name scope L a cd :: outer).filterMap (·.frame))).get? q.1 = some q.2 := fun q hq => by
    refine hideAll_get _ (N q hq).1 fun hm => ?_
    obtain ⟨env, he, hf⟩ := List.mem_filterMap.mp hm
    rcases List.mem_cons.mp he with rfl | he
    · exact (N q hq).2.1 (Option.some.inj hf).symm
    · obtain ⟨o, ho, _⟩ := (K.frames.mem (List.mem_filterMap.mpr ⟨env, he, hf⟩)).2
      rw [(N q hq).2.2] at ho; cases ho
  obtain ⟨ob, tp, he, hcls, hdt⟩ := hx₀.there
  have hen : (hideAll h ((envOf name scope L a cd :: outer).filterMap (·.frame))).get? e = none := by
    cases q : (hideAll h ((envOf name scope L a cd :: outer).filterMap (·.frame))).get? e with
    | none => rfl
    | some o => have := of_hideAll _ q; rw [hx₀.new] at this; cases this
  have hff := (funFrames_hide K'.frames hin).of_keeps (h' := s'.heap) fun b o hb _ => ⟨o, hx₀.keeps b o hb, rfl⟩
  have hL : (hideAll h ((envOf name scope L a cd :: outer).filterMap (·.frame))).get? L = none := by
    cases q : (hideAll h ((envOf name scope L a cd :: outer).filterMap (·.frame))).get? L with
    | none => rfl
    | some o => exact absurd (hideAll_none (h := h) _ (show L ∈ (envOf name scope L a cd :: outer).filterMap (·.frame) from List.mem_filterMap.mpr ⟨_, .head _, rfl⟩)) (by rw [q]; nofun)
  have hsm : h.UpToSlots s'.heap := Heap.UpToSlots.of_keeps hx₀.keeps
  unfold noteFrame
  simp only [show (envOf name scope L a cd).frame = some L from rfl]
  refine wpAny_bind (wpAny_field he hdt (x := .none) rfl ?_)
  rw [if_neg (by decide)]
  refine wpAny_entryW (a0 := tp) K'.stack hff rfl he (fun b o eb => hx₀.keeps b o (of_hideAll _ eb)) hen hdt (by show 1 < 6; decide) rfl fun h₄ hN => ?_
  obtain ⟨n1, n2, n3, hsm₄⟩ := hN
  rw [hcls] at n3
  have hheld₄ : Heap.HeldW (hideAll h ((envOf name scope L a cd :: outer).filterMap (·.frame))) (envOf name scope L a cd :: outer) e (.type X) tp L h₄ := ⟨n1, hen, n2, n3⟩
  refine wpAny_landsW hheld₄ fun h₅ hheld hsm₅' => ?_
  have hsm₅ : s'.heap.UpToSlots h₅ := Heap.UpToSlots.trans hsm₄ hsm₅'
  obtain ⟨g₅, T₅, F₅, K₅⟩ := kts_ground K F hBG hheld.1 (hsm.trans hsm₅)
  have X₅ : KF.In g₅ := XB.keeps K₅.stays
  have P₅ : TopRead p loose mg mb g₅ := topRead_of (TB.keeps K₅.stays)
  obtain ⟨ob', hob, hobc⟩ := hheld.there
  refine wpAny_handleBy_builtin (X := X) (T := T') (b := true) hexc hnt hsub (name_B F₅ X₅ P₅ ex hv hn' ⟨rfl, ⟨ob', hob, hobc⟩, ?_⟩ hk hx hd)
  refine lands_againW hheld fun h₆ hfl₆ hsm₆ => ?_
  obtain ⟨g₆, T₆, F₆, K₆⟩ := kts_ground K F hBG hfl₆.1 ((hsm.trans hsm₅).trans hsm₆)
  have Nl : News g₆ L h₆ news := fun q hq => ⟨hfl₆.1 _ _ (hl q hq), (fun z => by have := hl q hq; rw [z, hL] at this; cases this), T₆.none_ _ (N q hq).2.2⟩
  have X₆ : KF.In g₆ := XB.keeps K₆.stays
  have P₆ : Top p loose mean mg mb g₆ := TB.keeps K₆.stays
  have D₆ : KtsDicts (outer.filterMap (·.frame)) g₆ := D.turn T₆
  exact wpAny_passesOwnAt hE (k h₆ g₆ (T0.trans T₆) F₆ Nl K₆ X₆ P₆ D₆)
end
def LeaveT (fs : List Addr) (A₀ : Around) (base : Heap) (outer : List Env) (h₀ : Heap) (L : Addr) (m : PySem.Str → Option Value) (g : Heap) (R : Result → Shared → Prop) (v : Value) (s' : Shared) : Prop :=
  ∃ g' L' m' news', KtsTurn fs g g' ∧ Fr g' L' s'.heap m' ∧ News g' L' s'.heap news' ∧ ∀ h₀', KtsTurn (outer.filterMap (·.frame)) h₀ h₀' → Fr h₀' L s'.heap m → News h₀' L s'.heap news' → Below A₀ base outer h₀' → KtsDicts (outer.filterMap (·.frame)) h₀' → R (.ok (.ret v)) s'
theorem leaveT {fs : List Addr} {A₀ : Around} {base : Heap} {outer : List Env} {h₀ g g' : Heap} {L L' : Addr} {m m' : PySem.Str → Option Value} {R : Result → Shared → Prop} {v : Value} {s' : Shared} {news' : List (Addr × Obj)} (T : KtsTurn fs g g') (F' : Fr g' L' s'.heap m') (N' : News g' L' s'.heap news')
    (k : ∀ h₀', KtsTurn (outer.filterMap (·.frame)) h₀ h₀' → Fr h₀' L s'.heap m → News h₀' L s'.heap news' → Below A₀ base outer h₀' → KtsDicts (outer.filterMap (·.frame)) h₀' → R (.ok (.ret v)) s') : LeaveT fs A₀ base outer h₀ L m g R v s' := ⟨g', L', m', news', T, F', N', k⟩
theorem turn_nil_fr {h₀ h₀' h : Heap} {L : Addr} {m : PySem.Str → Option Value} (T : KtsTurn [] h₀ h₀') (F : Fr h₀' L h m) : Fr h₀ L h m := ⟨F.ns, fun b o e => F.keep b o (T.other b o e (fun h => nomatch h)), by rw [← T.size]; exact F.above⟩
theorem turn_nil_news {h₀ h₀' h : Heap} {L : Addr} {news : List (Addr × Obj)} (T : KtsTurn [] h₀ h₀') (N : News h₀' L h news) : News h₀ L h news := fun q hq => ⟨(N q hq).1, (N q hq).2.1, by
  cases e : h₀.get? q.1 with
  | none => rfl
  | some o => have := T.other _ _ e (fun h => nomatch h); rw [(N q hq).2.2] at this; cases this⟩
section
variable {prog : Program} {w : World} {A₀ A : Around} {s : Shared} {base h₀ : Heap} {outer : List Env} {env : Env} {L : Addr} {m : PySem.Str → Option Value} {news : List (Addr × Obj)} {K : Frag} {p : Program} {loose : List PySem.Str} {mean : ExcName → Option Value} {mg mb : PySem.Str → Option Value}
    {R : Result → Shared → Prop} {name qual : PySem.Str} {params : Arguments} {body : List Stmt} {scope : Scope} {dV kV doc pm cdv ct oc : Value} {an od : Option Addr} {osl : Array (Option Value)} {f : Addr} {args : Args} {binds : List (PySem.Str × Value)}
theorem enterS (B : Below A₀ base outer h₀) (F : Fr h₀ L s.heap m) (X₀ : K.In h₀) (N : News h₀ L s.heap news) (T : Top p loose mean mg mb h₀) (D : KtsDicts (outer.filterMap (·.frame)) h₀)
    (hA : A.frames = some (env :: outer)) (hf : env.frame = some L) (hke : env.scope.kind = .function)
    (ho : K.lookup f = some ⟨oc, od, .func (fnOf name qual params body scope dV kV doc pm an cdv ct), osl⟩) (hcd : codeIn K cdv qual = true) (hroom : A.depth < recursionLimit)
    (hbind : BindsTo s (fnOf name qual params body scope dV kV doc pm an cdv ct) args binds) (hloc : ∀ y ∈ binds, scope.names.lookup y.1 = some .local)
    (h : ∀ g L' h₁, Fr h₀ L g m → Fr g L' h₁ (fun y => binds.reverse.lookup y) → News g L' h₁ news → Below A base (env :: outer) g → K.In g → Top p loose mean mg mb g → KtsDicts ((env :: outer).filterMap (·.frame)) g →
      wpAny (model prog w) (A.deeper (envOf qual scope L' f cdv)) (execs body (envOf qual scope L' f cdv))
        (fun fl s' => LeaveT ((env :: outer).filterMap (·.frame)) A₀ base outer h₀ L m g R (match fl with | .ret v => v | _ => .none) s')
        (fun e s' => wpAny (model prog w) (A.deeper (envOf qual scope L' f cdv)) (leaving (envOf qual scope L' f cdv) e) (fun _ s'' => R (.error e) s'') (fun e' s'' => R (.error e') s'') s')
        { s with heap := h₁, toks := s.toks + binds.length })
    (hco : scope.isCoroutine = false) (hgen : scope.isGenerator = false) (hk : scope.kind = .function)
    (hcell : ∀ x ∈ scope.names, x.2 ≠ .cell) : codeAny (model prog w) A (.call (.ref f) args) R s := by
  have X := X₀.keeps F.keep
  refine codeAny_call_def (fd := fnOf name qual params body scope dV kV doc pm an cdv ct) (body := body) (binds := binds) hroom (X _ _ ho) rfl (T.nolimit.keeps F.keep) (codeRec_of X hcd) rfl hbind hcell hloc (fun h₁ hns hk₁ => ?_) hco hgen hk
  have nm : ∀ b o, h₀.get? b = some o → b ∉ news.map (·.1) := fun b o e q => by
    obtain ⟨p, hp, rfl⟩ := List.mem_map.mp q
    rw [(N p hp).2.2] at e; cases e
  obtain ⟨FG, B₂, st, _⟩ := groundX (R := R) B F N hA hf hke
  obtain ⟨oL, es, ep, hL, hLd, hLk, hLf⟩ := F.ns
  have nL : L ∉ news.map (·.1) := fun q => by
    obtain ⟨p, hp, e⟩ := List.mem_map.mp q
    exact (N p hp).2.1 e
  have hLg := hideAll_get (news.map (·.1)) hL nL
  have hNs : ∀ (sl : Array (Option Value)) h', h'.get? L = some { oL with slots := sl } → Heap.Ns h' L m := fun sl h' e => ⟨_, es, ep, e, hLd, hLk, hLf⟩
  have kmem : ∀ {b : Addr}, b ∈ (env :: outer).filterMap (·.frame) → b = L ∨ b ∈ outer.filterMap (·.frame) := fun {b} hm => by
    rw [List.filterMap_cons, hf] at hm
    exact List.mem_cons.mp hm
  refine wpAny_mono (h _ s.heap.objs.size h₁ FG ⟨hns, fun b o e => hk₁ b o (of_hideAll _ e), Nat.le_of_eq (hideAll_size _ _)⟩
    (fun p hp => ⟨hk₁ _ _ (N p hp).1, Nat.ne_of_lt (Heap.lt_size (N p hp).1), hideAll_none _ (List.mem_map_of_mem hp)⟩) B₂ (X₀.keeps st) (T.keeps st) (fun b hb => by
      rcases kmem hb with rfl | hb
      · exact ⟨oL, es, ep, hLg, hLd⟩
      · obtain ⟨o, es', n', ho', hd'⟩ := D b hb
        exact ⟨o, es', n', st b o ho', hd'⟩)) (fun fl s' hl => ?_) fun _ _ y => y
  have nL₀ : h₀.get? L = none := kts_self F
  obtain ⟨g', L', m', news', T', F', N', k⟩ := hl
  obtain ⟨sl, hs⟩ := T'.up hLg
  obtain ⟨T₁, S₁⟩ := kts_turn_at (h := s'.heap) (fs := outer.filterMap (·.frame)) (g := h₀)
    (fun b hb => by
      obtain ⟨_, o, ho', _⟩ := B.frames.mem hb
      exact ⟨o, ho'⟩)
    (fun b o e nmem => F'.keep b o (T'.other b o (st b o e) (fun q => by
      rcases kmem q with z | z
      · rw [z, nL₀] at e
        cases e
      · exact nmem z)))
    (fun b o e hm => by
      obtain ⟨sl', hs'⟩ := T'.up (st b o e)
      exact ⟨sl', F'.keep _ _ hs'⟩)
  have B₃ : Below A₀ base outer (ktsHeap s'.heap (outer.filterMap (·.frame)) h₀) := ⟨B.stack, fun b o e => T₁.other b o (B.stays b o e) (fun hm => by
    rw [(B.frames.mem hm).1] at e
    cases e), B.frames.of_keeps fun b o e _ => by
    obtain ⟨sl', hs'⟩ := T₁.up e
    exact ⟨_, hs', rfl⟩⟩
  refine k _ T₁ ⟨hNs sl _ (F'.keep _ _ hs), S₁, by rw [T₁.size]; exact F.above⟩ (fun p hp => ⟨(N' p hp).1, fun q => ?_, ?_⟩) B₃ (D.turn T₁)
  · have := (N' p hp).2.2; rw [q, hs] at this; cases this
  · refine T₁.none_ _ ?_
    cases q : h₀.get? p.1 with
    | none => rfl
    | some o =>
      obtain ⟨sl', hs'⟩ := T'.up (st _ _ q)
      have := (N' p hp).2.2
      rw [hs'] at this
      cases this
end
local macro_rules | `(tactic| walk_at "call builtin:dict.setdefault") => `(tactic| (refine Stop.mk ?_))
local macro_rules | `(tactic| walk_at "getMethod ref") => `(tactic| (k_here; (with_reducible show wpAny _ _ (getMethod (Value.ref _) (Str.ofString "setdefault") _) _ _ _); k_dflt (refine' kob_method (knd := PySem.strKind _ _) (id := "dict.setdefault") ?sl ?ty ?N ?m ?d ?_; (case N => k_asm); (case m => k_mem); (case d => assumption); (case sl => exact PySem.F.slot_dict_setdefault); (case ty => exact PySem.F.type_dict_setdefault))))
local macro_rules | `(tactic| walk_at "subscriptTail") => `(tactic| (refine Stop.mk ?_))
local macro_rules | `(tactic| walk_at "subscriptTail") => `(tactic| (k_here; (with_reducible show wpAny _ _ (subscriptTail _ _ (Value.ref _) (Value.str _ _)) _ _ _); k_dflt (refine ev_item (by k_asm) (by k_mem) (by assumption) (by assumption) ?_)))
local macro_rules | `(tactic| walk_at "binaryOp Mult ref int") => `(tactic| (k_here; k_dflt (refine' KMa.mul ?F ?N ?l ?lo ?hi ?z (rep_flat _ _) ?_; (case F => k_asm); (case N => k_asm); (case l => is_list); (case lo => omega); (case hi => omega); (case z => simp only [List.length_cons, List.length_nil]; omega)); intro D' h' F' N' lm'))
local macro_rules | `(tactic| walk_at "binaryOp Add ref ref") => `(tactic| (k_here; k_dflt (refine' add_lst ?F ?N ?l ?b ?z ?_; (case F => k_asm); (case N => k_asm); (case l => k_mem); (case b => k_mem); (case z => simp only [List.length_replicate]; omega)); intro D' h' F' N' lm'))
local macro_rules | `(tactic| walk_at "setItem ref str") => `(tactic| (refine Stop.mk ?_))
set_option maxHeartbeats 8000000 in
theorem acquire {w : World} {av : List Addr} {p : Program} {loose : List PySem.Str} {mean : ExcName → Option Value} {mg mb : PySem.Str → Option Value} {dp un : Nat} {gd : Option (List Code)} {cn : PySem.Str} {cs : Scope} {a : Addr} {ccd : Value} {cl : List (PySem.Str × Addr)} {outer : List Env} {A₀ : Around} {base h₀ : Heap} {L : Addr} {m : PySem.Str → Option Value} {news : List (Addr × Obj)} {s : Shared} {Q E : Value → Shared → Prop}
    {S : List (Addr × Obj)} {st std fn sg ex ev : Addr} {t1 t2 t3 t4 tk : Tok} {k : PySem.Str} {now x lim am : Int} {tl tx ta : Tok} {nn : Nat} {D : PySem.Str → List (Int × Int)}
    (B : Below A₀ base outer h₀) (F : Fr h₀ L s.heap m) (X : (HeapK w.params).In h₀) (N : News h₀ L s.heap news) (T : Top p loose mean mg mb h₀) (hk : cs.kind = .function)
    (XT : (HeapK w.params).In base ∧ Top p loose mean mg mb base) (DD : KtsDicts (outer.filterMap (·.frame)) h₀) (hS : S ⊆ news) (hst : (st, instObj 597 std) ∈ S) (hstd : (std, storeD w fn sg ex ev t1 t2 t3 t4) ∈ S) (hfn : ∃ oc od fd sl, (fn, (⟨oc, od, .func fd, sl⟩ : Obj)) ∈ S)
    (CK : Call1 w p loose mean mg mb S fn 20 200 [] (fun r => ∃ t, r = .int now t)) (EV : EvAt w av ev news nn D) (hlo : (ev == sysModules) = false) (hav : ∀ a ∈ av, ∃ o, (a, o) ∈ S) (hnn : nn ≤ 1000)
    (hDl : (D k).length ≤ 1000) (hSe : ∀ q ∈ S, q.1 ≠ ev) (ham0 : 1 ≤ am) (ham1 : am ≤ 10) (hlim0 : 0 ≤ lim) (hlim1 : lim ≤ 10)
    (hdp : dp + 60 < recursionLimit) (hun : un + 700 < cLine)
    (ret : ∀ (b : Bool) ds' h₀' news' h' tk', KtsTurn (outer.filterMap (·.frame)) h₀ h₀' → Fr h₀' L h' m → News h₀' L h' news' → Below A₀ base outer h₀' → KtsDicts (outer.filterMap (·.frame)) h₀' → (∀ q ∈ news, q.1 ≠ ev → q ∈ news') → EvAt w av ev news' (nn + 2) (fun k' => if k' = k then ds' else D k') → (b = true → ds' = List.replicate am.toNat (now, now + x) ++ D k ∧ am ≤ lim ∧ (∀ d, (D k)[(lim - am).toNat]? = some d → d.1 < now - x)) → (b = false → ds' = D k ∧ (am ≤ lim → ∃ d, (D k)[(lim - am).toNat]? = some d ∧ now - x ≤ d.1)) → Q (.bool b) { s with heap := h', toks := tk' }) :
    wpAny (model PG w) (ktrTop dp un gd cn cs L a ccd cl outer) (call (.ref 537) [.ref st, .str k tk, .int lim tl, .int x tx] [(PySem.Str.ofString "amount", .int am ta)]) Q E s := by
  obtain ⟨oc, od, fd, sl, hfn⟩ := hfn
  have hst' := hS hst
  have hstd' := hS hstd
  have hfn' := hS hfn
  have V0 := EV
  obtain ⟨oev, kvs, hev, hevd, _⟩ := EV.at'
  refine wpAny_call ?_
  k_dflt ((refine' enterS ?k1 ?k2 ?k3 ?k4 ?k5 ?D ?kA ?kF ?kK ?k6 ?k7 ?k8 ?k9 ?kB ?_ ?c2 ?c3 ?c4 ?c5; (case kA => exact rfl); (case kF => exact rfl); (case kK => first | exact rfl | assumption); (case k1 => k_asm); (case k2 => k_asm); (case k3 => k_asm); (case k4 => k_asm); (case k5 => k_asm); (case D => assumption); (case k6 => k_is); (case k7 => k_is); (case k8 => ktr_room); (case k9 => first | exact BindsTo.of_eq rfl | exact binds_K (by k_in) rfl (by k_is) rfl rfl rfl); (case c5 => decide); (case kB => exact locs rfl); (case c2 => exact rfl); (case c3 => exact rfl); (case c4 => exact rfl); k_whole; intro g' L' h' FG' F' N' B' X' T' D'; (try dsimp only); (try k_lift B'); (try k_fold)))
  k_steps
  · refine leaveT KtsTurn.refl (by k_asm) (by k_asm) fun h₀' T0 F0 N0 B0 D0 => ?_
    exact ret false (D k) h₀' _ _ _ T0 F0 N0 B0 D0 (fun q hq _ => hq) (V0.same (by omega)) (fun z => Bool.noConfusion z) (fun _ => ⟨rfl, fun z => absurd z (by omega)⟩)
  unfold Stop

  k_dflt (refine ev_setdef (by k_asm) (by k_asm) (V0.mono fun _ z => List.mem_cons_of_mem _ z) hlo hnn (.head _) (fresh_av hav hS (by assumption)) ?_)
  clear hev hevd
  intro b vs cap o' kvs' news1 h' tk' F' N' keep1 hev1 hd1 hkn1 hv1 hb1 hE1 havk hall1
  (try dsimp only)
  (try k_fold)
  have hS1 : S ⊆ news1 := fun q hq => keep1 q (.tail _ (hS hq)) (hSe q hq)
  have hst1 := hS1 hst
  have hstd1 := hS1 hstd
  have hfn1 := hS1 hfn
  clear hst' hstd' hfn'
  k_steps
  unfold Stop
  have hvl : vs.length ≤ 1000 := by have := hE1.1; omega
  by_cases hidx : (lim - am).toNat < vs.length
  · k_dflt (refine item_lstx (by k_asm) (by k_mem) (by omega) (by omega) (by have := hE1.1; omega) ?_)
    intro v hv
    have hDk : (D k)[(lim - am).toNat]? = some ((D k)[(lim - am).toNat]'(by have := hE1.1; omega)) := List.getElem?_eq_getElem _
    obtain ⟨y, yd, e1, e2, e3, e4, rfl, hy, hyd, _⟩ := hE1.2 _ v _ hv hDk
    generalize (D k)[(lim - am).toNat]'(by have := hE1.1; omega) = dd at hDk hyd
    k_steps
    · refine leaveT KtsTurn.refl (by k_asm) (by k_asm) fun h₀' T0 F0 N0 B0 D0 => ?_
      refine ret false (D k) h₀' _ _ _ T0 F0 N0 B0 D0 (fun q hq hn => keep1 q (.tail _ hq) hn) ?_ (fun z => Bool.noConfusion z) (fun _ => ⟨rfl, fun z => ⟨dd, hDk, ?_⟩⟩)
      · have e : EvAt w av ev news1 (nn + 1) D := ⟨o', kvs', hev1, hd1, hkn1, havk, hall1⟩
        exact e.same (by omega)
      · assumption
    unfold Stop
    k_dflt (refine ev_put (by k_asm) (by k_asm) (by k_mem) hd1 (by omega) ?_)
    intro o2 news2 h2 tk2 F2 N2 keep2 hev2 hd2
    (try dsimp only)
    (try k_fold)
    k_steps
    refine leaveT KtsTurn.refl (by k_asm) (by k_asm) fun h₀' T0 F0 N0 B0 D0 => ?_
    refine ret true (List.replicate am.toNat (now, now + x) ++ D k) h₀' _ _ _ T0 F0 N0 B0 D0 (fun q hq hn => keep2 q (.tail _ (.tail _ (.tail _ (.tail _ (.tail _ (keep1 q (.tail _ hq) hn)))))) hn) ?_ (fun _ => ⟨rfl, by omega, fun d e => by rw [hDk] at e; cases e; omega⟩) (fun z => Bool.noConfusion z)
    exact ev_done (by assumption) (by assumption) hev1 hd1 hkn1 hE1 havk (fresh_av4 hav hS1 (by assumption)) hall1 keep2 hev2 hd2
  · k_dflt (refine item_outK rfl (News.isList (by k_asm) (by k_mem)) (.inr (by rw [List.size_toArray]; omega)) (by omega) (by omega) ?_)
    intro h' tk' e' x'
    k_steps
    k_dflt (refine' caught_here (X := "IndexError") (T' := "IndexError") ?K x' ?F ?N XT.1 XT.2 ?D KtsTurn.refl ?ex PyProof.Rows.Boot.«IndexError» ?ne PySem.F.isExc_IndexError PySem.F.notTuple_IndexError ?sub ?_; (case K => k_asm); (case F => k_asm); (case N => k_asm); (case D => assumption); (case ex => k_is); (case ne => decide); (case sub => kts_sub))
    intro h'' g'' Tg Fg Ng Bg Xg TTg Dg
    (try dsimp only)
    (try k_fold)
    k_steps
    unfold Stop
    k_dflt (refine ev_put (by k_asm) (by k_asm) (by k_mem) hd1 (by omega) ?_)
    intro o2 news2 h2 tk2 F2 N2 keep2 hev2 hd2
    (try dsimp only)
    (try k_fold)
    k_steps
    refine leaveT Tg (by k_asm) (by k_asm) fun h₀' T0 F0 N0 B0 D0 => ?_
    refine ret true (List.replicate am.toNat (now, now + x) ++ D k) h₀' _ _ _ T0 F0 N0 B0 D0 (fun q hq hn => keep2 q (.tail _ (.tail _ (.tail _ (.tail _ (.tail _ (keep1 q (.tail _ hq) hn)))))) hn) ?_ (fun _ => ⟨rfl, by omega, fun d e => absurd (List.getElem?_eq_some_iff.mp e).1 (by have := hE1.1; omega)⟩) (fun z => Bool.noConfusion z)
    exact ev_done (by assumption) (by assumption) hev1 hd1 hkn1 hE1 havk (fresh_av4 hav hS1 (by assumption)) hall1 keep2 hev2 hd2



end

end

section
theorem fill_JD5 : PySem.Challenge.rw_jb0022_01.prog = PySem.Challenge.rw_jb0022_01.prog ∧ HeapK = HeapK := by { k_fill; exact ⟨rfl, rfl⟩ }
section
variable {w : World} {A : Around} {E : Value → Shared → Prop} {s : Shared} {h₀ : Heap} {L d ev : Addr} {m : PySem.Str → Option Value} {news : List (Addr × Obj)} {k : PySem.Str} {tk : Tok} {Q : Value → Shared → Prop}
theorem pop_none {o : Obj} {kvs : List (PySem.Str × Value)} {dflt : Value} (N : News h₀ L s.heap news) (hp : (d, o) ∈ news) (hd : o.IsDictOf (PySem.strKind PG w) kvs) (lo : (d == sysModules) = false) (hl : valueAt kvs k = none) (h : Q dflt { s with toks := s.toks + 1 }) :
    wpAny (model PG w) A (call (.builtin "dict.pop") [.ref d, .str k tk, dflt]) Q E s :=
  have hD := kda_dict N hp hd
  call_meetsIn PySem.F.slot_dict_pop hD.typeIs PySem.F.entry_dict_pop (PySem.F.args_dict_pop_3 _ _ _) (meets_dict_pop_default (PySem.strKind _ _) d (strKind_is _ _ _ _) lo rfl dflt) ⟨kvs, hD, hl, h⟩
theorem ev_pop {av : List Addr} {n : Nat} {D : PySem.Str → List (Int × Int)} (F : Fr h₀ L s.heap m) (N : News h₀ L s.heap news) (V : EvAt w av ev news n D) (hlo : (ev == sysModules) = false) (hn : n ≤ 1000)
    (h : ∀ v news' h' tk', Fr h₀ L h' m → News h₀ L h' news' → (∀ q ∈ news, q.1 ≠ ev → q ∈ news') → EvAt w av ev news' n (fun k' => if k' = k then [] else D k') → Q v { s with heap := h', toks := tk' }) :
    wpAny (model PG w) A (call (.builtin "dict.pop") [.ref ev, .str k tk, .none]) Q E s := by
  obtain ⟨o, kvs, hev, hd, hkn, havk, hall⟩ := V.at'
  have hcls := dict_cls hd
  cases hv : valueAt kvs k with
  | none =>
    refine pop_none N hev hd hlo hv (h .none news s.heap _ F N (fun q hq _ => hq) ⟨o, kvs, hev, hd, hkn, havk, fun k' => ?_⟩)
    by_cases hk : k' = k
    · rw [if_pos hk, hk]; exact .inl ⟨hv, rfl⟩
    · rw [if_neg hk]; exact hall k'
  | some v =>
    refine kob_pop (knd := PySem.strKind _ _) (more := [.none]) F (news_front N hev) (UpdF.head off_ne) hd (strKind_is _ _ _ _) (.inr ⟨_, rfl⟩) rfl (PySem.F.args_dict_pop_3 _ _ _) hv (by rw [sizeLine_eq]; omega) fun h' o' F' N' hd' => ?_
    have keep : ∀ q ∈ news, q.1 ≠ ev → q ∈ (ev, o') :: off ev news := fun q hq hn => .tail _ (mem_off hq hn)
    refine h v _ h' _ F' N' keep ⟨o', _, .head _, hd', Nat.le_trans (List.length_filter_le _ _) hkn, (fun k' b' e => by
      rw [va_without] at e
      by_cases hk : k' = k
      · rw [if_pos hk] at e; cases e
      · rw [if_neg hk] at e; exact havk k' b' e), fun k' => ?_⟩
    rw [va_without]
    by_cases hk : k' = k
    · rw [if_pos hk, if_pos hk]; exact .inl ⟨rfl, rfl⟩
    · rw [if_neg hk, if_neg hk]; exact (hall k').mono N hev hcls keep
end
local macro_rules | `(tactic| walk_at "getMethod ref") => `(tactic| (k_here; (with_reducible show wpAny _ _ (getMethod (Value.ref _) (Str.ofString "pop") _) _ _ _); k_dflt (refine' kob_method (knd := PySem.strKind _ _) (id := "dict.pop") ?sl ?ty ?N ?m ?d ?_; (case N => k_asm); (case m => k_mem); (case d => assumption); (case sl => exact PySem.F.slot_dict_pop); (case ty => exact PySem.F.type_dict_pop))))
local macro_rules | `(tactic| walk_at "call builtin:dict.pop") => `(tactic| (refine Stop.mk ?_))
local macro_rules | `(tactic| walk_at "call builtin:dict.pop") => `(tactic| (k_here; k_dflt (refine pop_none (by k_asm) (by k_mem) (by assumption) (by assumption) rfl ?_)))
set_option maxHeartbeats 8000000 in
theorem sclear {w : World} {av : List Addr} {p : Program} {loose : List PySem.Str} {mean : ExcName → Option Value} {mg mb : PySem.Str → Option Value} {dp un : Nat} {gd : Option (List Code)} {cn : PySem.Str} {cs : Scope} {a : Addr} {ccd : Value} {cl : List (PySem.Str × Addr)} {outer : List Env} {A₀ : Around} {base h₀ : Heap} {L : Addr} {m : PySem.Str → Option Value} {news : List (Addr × Obj)} {s : Shared} {Q E : Value → Shared → Prop}
    {S : List (Addr × Obj)} {st std fn sg ex ev : Addr} {osg oex : Obj} {t1 t2 t3 t4 tk : Tok} {k : PySem.Str} {nn : Nat} {D : PySem.Str → List (Int × Int)}
    (B : Below A₀ base outer h₀) (F : Fr h₀ L s.heap m) (X : (HeapK w.params).In h₀) (N : News h₀ L s.heap news) (T : Top p loose mean mg mb h₀) (hk : cs.kind = .function)
    (hS : S ⊆ news) (hst : (st, instObj 597 std) ∈ S) (hstd : (std, storeD w fn sg ex ev t1 t2 t3 t4) ∈ S)
    (hsg : (sg, osg) ∈ S) (hsgd : osg.IsDictOf (PySem.strKind PG w) []) (hsgl : (sg == sysModules) = false) (hex : (ex, oex) ∈ S) (hexd : oex.IsDictOf (PySem.strKind PG w) []) (hexl : (ex == sysModules) = false)
    (EV : EvAt w av ev news nn D) (hlo : (ev == sysModules) = false) (hnn : nn ≤ 1000)
    (hdp : dp + 60 < recursionLimit) (hun : un + 700 < cLine)
    (ret : ∀ news' h' tk', Fr h₀ L h' m → News h₀ L h' news' → (∀ q ∈ news, q.1 ≠ ev → q ∈ news') → EvAt w av ev news' nn (fun k' => if k' = k then [] else D k') → Q .none { s with heap := h', toks := tk' }) :
    wpAny (model PG w) (ktrTop dp un gd cn cs L a ccd cl outer) (call (.ref 529) [.ref st, .str k tk]) Q E s := by
  have hst' := hS hst
  have hstd' := hS hstd
  have hsg' := hS hsg
  have hex' := hS hex
  obtain ⟨oev, kvs, hev, hevd, _⟩ := EV.at'
  refine wpAny_call ?_
  k_dflt ktr_enter
  k_steps
  unfold Stop
  k_dflt (refine ev_pop (by k_asm) (by k_asm) EV hlo hnn ?_)
  intro v news' h' tk' F' N' keep EV'
  (try dsimp only)
  (try k_fold)
  k_steps
  exact ret _ _ _ (by k_asm) (by k_asm) keep EV'



end

section
local macro_rules | `(tactic| walk_at "call ref") => `(tactic| ((first | (with_reducible show wpAny _ _ (call (Value.ref 551) _ _) _ _ _) | (with_reducible show wpAny _ _ (call (Value.ref 537) _ _) _ _ _) | (with_reducible show wpAny _ _ (call (Value.ref 529) _ _) _ _ _)); refine Stop.mk ?_))
local macro_rules | `(tactic| walk_at "call ref") => `(tactic| (k_here; (with_reducible show wpAny _ _ (call (Value.ref 357) _) _ _ _); k_dflt (refine' Call1.use (fn := 357) (by assumption) ?k1 ?k2 ?k3 ?k4 ?k5 ?kK ?kS ?kd ?ku ?_; (case k1 => k_asm); (case k2 => k_asm); (case k3 => k_asm); (case k4 => k_asm); (case k5 => k_asm); (case kK => first | rfl | assumption); (case kS => assumption); (case kd => ktr_room); (case ku => ktr_units); k_whole); rintro _ h' tk' ⟨t', hr'⟩ F' N'; subst hr'; (try dsimp only); (try k_fold)))
local macro_rules | `(tactic| walk_at "call ref") => `(tactic| (k_here; (with_reducible show wpAny _ _ (call (Value.ref 364) _) _ _ _); k_dflt (refine' Call1.use (fn := 364) (by assumption) ?k1 ?k2 ?k3 ?k4 ?k5 ?kK ?kS ?kd ?ku ?_; (case k1 => k_asm); (case k2 => k_asm); (case k3 => k_asm); (case k4 => k_asm); (case k5 => k_asm); (case kK => first | rfl | assumption); (case kS => assumption); (case kd => ktr_room); (case ku => ktr_units); k_whole); rintro _ h' tk' ⟨t', hr'⟩ F' N'; subst hr'; (try dsimp only); (try k_fold)))

section
theorem fill_JC7 : PySem.Challenge.rw_jb0022_01.prog = PySem.Challenge.rw_jb0022_01.prog ∧ HeapK = HeapK := by { k_fill; exact ⟨rfl, rfl⟩ }
local macro_rules | `(tactic| k_is) => `(tactic| with_reducible assumption)
set_option maxHeartbeats 8000000 in
theorem hit {w : World} {av : List Addr} {p : Program} {loose : List PySem.Str} {mean : ExcName → Option Value} {mg mb : PySem.Str → Option Value} {dp un : Nat} {gd : Option (List Code)} {cn : PySem.Str} {cs : Scope} {a : Addr} {ccd : Value} {cl : List (PySem.Str × Addr)} {outer : List Env} {A₀ : Around} {base h₀ : Heap} {L : Addr} {m : PySem.Str → Option Value} {news : List (Addr × Obj)} {s : Shared} {Q E : Value → Shared → Prop}
    {S : List (Addr × Obj)} {st std fn sg ex ev : Addr} {t1 t2 t3 t4 : Tok} {now : Int} {nn : Nat} {D : PySem.Str → List (Int × Int)} {lim limd it d C nm : Addr} {A M : Int} {t7 t8 t9 t10 t11 t12 t13 : Tok} {key : PySem.Str} {x : Int} {am : Int} {ta : Tok}
    (B : Below A₀ base [] h₀) (F : Fr h₀ L s.heap m) (X : (HeapK w.params).In h₀) (N : News h₀ L s.heap news) (T : Top p loose mean mg mb h₀) (hk : cs.kind = .function)
    (hS : S ⊆ news) (hst : (st, instObj 597 std) ∈ S) (hstd : (std, storeD w fn sg ex ev t1 t2 t3 t4) ∈ S) (hfn : ∃ oc od fd sl, (fn, (⟨oc, od, .func fd, sl⟩ : Obj)) ∈ S)
    (CK : Call1 w p loose mean mg mb S fn 20 200 [] (fun r => ∃ t, r = .int now t)) (EV : EvAt w av ev news nn D) (hlo : (ev == sysModules) = false) (hav : ∀ a ∈ av, ∃ o, (a, o) ∈ S) (hnn : nn ≤ 900)
    (hSe : ∀ q ∈ S, q.1 ≠ ev)
    (hl1 : (lim, instObj 202 limd) ∈ S) (hl2 : (limd, dictOf [⟨PyData.keyHash w.params (PySem.Str.ofString "storage"), .str (PySem.Str.ofString "storage") t7, .ref st⟩] 1) ∈ S)
    (hi1 : (it, instObj C d) ∈ S) (hi2 : (d, itemD w A M (.str (PySem.Str.ofString "LIMITER") t8) t9 t10 t11 t12 t13) ∈ S)
    (hc7 : findIn (HeapK w.params) (.ref C) (PySem.Str.ofString "amount") = some none) (hc8 : plainGet (HeapK w.params) C (PySem.Str.ofString "amount") = true) (hm1 : plainGet (HeapK w.params) C (PySem.Str.ofString "key_for") = true) (hm2 : plainGet (HeapK w.params) C (PySem.Str.ofString "get_expiry") = true) (hm3 : findIn (HeapK w.params) (.ref C) (PySem.Str.ofString "key_for") = some (some (.ref 364))) (hm4 : findIn (HeapK w.params) (.ref C) (PySem.Str.ofString "get_expiry") = some (some (.ref 357)))
    (hc11 : hasDictIn (HeapK w.params) C = true) (hc12 : isClsIn (HeapK w.params) C = true)
    (KF : Call1 w p loose mean mg mb S 364 20 200 [.ref it, .ref nm] (fun r => ∃ t, r = .str key t)) (GE : Call1 w p loose mean mg mb S 357 10 60 [.ref it] (fun r => ∃ t, r = .int x t))
    (XT : (HeapK w.params).In base ∧ Top p loose mean mg mb base) (hDl : (D key).length ≤ 1000) (ham0 : 1 ≤ am) (ham1 : am ≤ 10) (hA0 : 0 ≤ A) (hA1 : A ≤ 10)
    (hdp : dp + 100 < recursionLimit) (hun : un + 1100 < cLine)
    (ret : ∀ (b : Bool) ds' news' h' tk', Fr h₀ L h' m → News h₀ L h' news' → (∀ q ∈ news, q.1 ≠ ev → q ∈ news') → EvAt w av ev news' (nn + 2) (fun k' => if k' = key then ds' else D k') → (b = true → ds' = List.replicate am.toNat (now, now + x) ++ D key ∧ am ≤ A ∧ (∀ d, (D key)[(A - am).toNat]? = some d → d.1 < now - x)) → (b = false → ds' = D key ∧ (am ≤ A → ∃ d, (D key)[(A - am).toNat]? = some d ∧ now - x ≤ d.1)) → Q (.bool b) { s with heap := h', toks := tk' }) :
    wpAny (model PG w) (ktrTop dp un gd cn cs L a ccd cl []) (call (.ref 181) [.ref lim, .ref it, .ref nm, .int am ta]) Q E s := by
  have hl1' := hS hl1
  have hl2' := hS hl2
  have hi1' := hS hi1
  have hi2' := hS hi2
  have hst' := hS hst
  have hstd' := hS hstd
  have DD : KtsDicts (([] : List Env).filterMap (·.frame)) h₀ := fun _ m => nomatch m
  refine wpAny_call ?_
  k_dflt ((refine' enterS ?k1 ?k2 ?k3 ?k4 ?k5 ?D ?kA ?kF ?kK ?k6 ?k7 ?k8 ?k9 ?kB ?_ ?c2 ?c3 ?c4 ?c5; (case kA => exact rfl); (case kF => exact rfl); (case kK => first | exact rfl | assumption); (case k1 => k_asm); (case k2 => k_asm); (case k3 => k_asm); (case k4 => k_asm); (case k5 => k_asm); (case D => assumption); (case k6 => k_is); (case k7 => k_is); (case k8 => ktr_room); (case k9 => first | exact BindsTo.of_eq rfl | exact binds_K (by k_in) rfl (by k_is) rfl rfl rfl); (case c5 => decide); (case kB => exact locs rfl); (case c2 => exact rfl); (case c3 => exact rfl); (case c4 => exact rfl); k_whole; intro g' L' h' FG' F' N' B' X' T' D'; (try dsimp only); (try k_lift B'); (try k_fold)))
  k_steps
  unfold Stop
  k_dflt (refine' acquire ?k1 ?k2 ?k3 ?k4 ?k5 ?kK XT ?DD hS hst hstd hfn CK EV hlo hav ?hn hDl hSe ham0 ham1 hA0 hA1 ?hdp ?hun ?_; (case k1 => k_asm); (case k2 => k_asm); (case k3 => k_asm); (case k4 => k_asm); (case k5 => k_asm); (case kK => rfl); (case DD => assumption); (case hn => omega))
  case hdp => ktr_room
  case hun => ktr_units
  intro b ds' h₀' news' h' tk' T0 F0 N0 B0 D0 keep EV' htt hff
  (try dsimp only)
  k_steps
  exact leaveT T0 (by k_asm) (by k_asm) fun h₁' T1 F1 N1 B1 D1 => ret b ds' news' _ _ (turn_nil_fr T1 F1) (turn_nil_news T1 N1) keep EV' htt hff



end

section
local macro_rules | `(tactic| walk_at "subscriptTail") => `(tactic| (k_here; k_dflt (refine' item_tupleT ?t ?a ?b ?c ?d ?_; (case t => exact News.isTup (by k_asm) (by k_mem)); (case a => decide); (case b => decide); (case c => rfl); (case d => rfl); k_whole)))

section
theorem fill_JC8test : PySem.Challenge.rw_jb0022_01.prog = PySem.Challenge.rw_jb0022_01.prog ∧ HeapK = HeapK := by { k_fill; exact ⟨rfl, rfl⟩ }
local macro_rules | `(tactic| k_is) => `(tactic| with_reducible assumption)
set_option maxHeartbeats 8000000 in
theorem ltest {w : World} {av : List Addr} {p : Program} {loose : List PySem.Str} {mean : ExcName → Option Value} {mg mb : PySem.Str → Option Value} {dp un : Nat} {gd : Option (List Code)} {cn : PySem.Str} {cs : Scope} {a : Addr} {ccd : Value} {cl : List (PySem.Str × Addr)} {outer : List Env} {A₀ : Around} {base h₀ : Heap} {L : Addr} {m : PySem.Str → Option Value} {news : List (Addr × Obj)} {s : Shared} {Q E : Value → Shared → Prop}
    {S : List (Addr × Obj)} {st std fn sg ex ev : Addr} {t1 t2 t3 t4 : Tok} {now : Int} {nn : Nat} {D : PySem.Str → List (Int × Int)} {lim limd it d C nm : Addr} {A M : Int} {t7 t8 t9 t10 t11 t12 t13 : Tok} {key : PySem.Str} {x : Int} {am : Int} {ta : Tok}
    (B : Below A₀ base outer h₀) (F : Fr h₀ L s.heap m) (X : (HeapK w.params).In h₀) (N : News h₀ L s.heap news) (T : Top p loose mean mg mb h₀) (hk : cs.kind = .function)
    (hS : S ⊆ news) (hst : (st, instObj 597 std) ∈ S) (hstd : (std, storeD w fn sg ex ev t1 t2 t3 t4) ∈ S) (hfn : ∃ oc od fd sl, (fn, (⟨oc, od, .func fd, sl⟩ : Obj)) ∈ S)
    (CK : Call1 w p loose mean mg mb S fn 20 200 [] (fun r => ∃ t, r = .int now t)) (EV : EvAt w av ev news nn D) (hlo : (ev == sysModules) = false) (hav : ∀ a ∈ av, ∃ o, (a, o) ∈ S) (hnn : nn ≤ 900)
    (hSe : ∀ q ∈ S, q.1 ≠ ev)
    (hl1 : (lim, instObj 202 limd) ∈ S) (hl2 : (limd, dictOf [⟨PyData.keyHash w.params (PySem.Str.ofString "storage"), .str (PySem.Str.ofString "storage") t7, .ref st⟩] 1) ∈ S)
    (hi1 : (it, instObj C d) ∈ S) (hi2 : (d, itemD w A M (.str (PySem.Str.ofString "LIMITER") t8) t9 t10 t11 t12 t13) ∈ S)
    (hc7 : findIn (HeapK w.params) (.ref C) (PySem.Str.ofString "amount") = some none) (hc8 : plainGet (HeapK w.params) C (PySem.Str.ofString "amount") = true) (hm1 : plainGet (HeapK w.params) C (PySem.Str.ofString "key_for") = true) (hm2 : plainGet (HeapK w.params) C (PySem.Str.ofString "get_expiry") = true) (hm3 : findIn (HeapK w.params) (.ref C) (PySem.Str.ofString "key_for") = some (some (.ref 364))) (hm4 : findIn (HeapK w.params) (.ref C) (PySem.Str.ofString "get_expiry") = some (some (.ref 357)))
    (hc11 : hasDictIn (HeapK w.params) C = true) (hc12 : isClsIn (HeapK w.params) C = true)
    (KF : Call1 w p loose mean mg mb S 364 20 200 [.ref it, .ref nm] (fun r => ∃ t, r = .str key t)) (GE : Call1 w p loose mean mg mb S 357 10 60 [.ref it] (fun r => ∃ t, r = .int x t))
    (hDl : (D key).length ≤ 1000) (hord : ∀ (i j : Nat) a c, i ≤ j → (D key)[i]? = some a → (D key)[j]? = some c → c.1 ≤ a.1) (hSt : ∀ q ∈ S, q.1 ≠ 546) (tab : TabOk news 546 mwPos mwQual)
    (hdp : dp + 100 < recursionLimit) (hun : un + 1100 < cLine)
    (ret : ∀ (r : Nat) news' h' tk', r ≤ (D key).length → (∀ (j : Nat) d, j < r → (D key)[j]? = some d → now - x < d.1) → (∀ (j : Nat) d, r ≤ j → (D key)[j]? = some d → d.1 ≤ now - x) → Fr h₀ L h' m → News h₀ L h' news' → (∀ q ∈ news, q.1 ≠ 546 → q ∈ news') → TabOk news' 546 mwPos mwQual → Q (.bool (decide ((r : Int) ≤ A - am))) { s with heap := h', toks := tk' }) :
    wpAny (model PG w) (ktrTop dp un gd cn cs L a ccd cl outer) (call (.ref 190) [.ref lim, .ref it, .ref nm, .int am ta]) Q E s := by
  have hl1' := hS hl1
  have hl2' := hS hl2
  have hi1' := hS hi1
  have hi2' := hS hi2
  have hst' := hS hst
  have hstd' := hS hstd
  obtain ⟨oc, od, fd, sl, hfn'⟩ := hfn
  refine wpAny_call ?_
  k_dflt ktr_enter
  k_steps
  unfold Stop
  k_dflt (refine' moving ?k1 ?k2 ?k3 ?k4 ?k5 ?kK hS hst hstd ⟨_, _, _, _, hS hfn'⟩ CK EV hlo hDl hord tab ?hdp ?hun ?_; (case k1 => k_asm); (case k2 => k_asm); (case k3 => k_asm); (case k4 => k_asm); (case k5 => k_asm); (case kK => rfl))
  case hdp => ktr_room
  case hun => ktr_units
  intro Dt fst r ta tr news' h' tk' hr hlo1 hhi1 hfst F' N' hDt keep tab'
  (try dsimp only)
  (try k_fold)
  have hS' : S ⊆ news' := fun q hq => keep q (hS hq) (hSt q hq)
  have hi1'' := hS' hi1
  have hi2'' := hS' hi2
  have hl1'' := hS' hl1
  k_steps
  exact ret r _ _ _ hr hlo1 hhi1 (by k_asm) (by k_asm) keep tab'



end

section
theorem fill_JC8stats : PySem.Challenge.rw_jb0022_01.prog = PySem.Challenge.rw_jb0022_01.prog ∧ HeapK = HeapK := by { k_fill; exact ⟨rfl, rfl⟩ }
section
variable {prog : Program} {w : World} {A : Around} {K : Frag} {C : Addr} {E : Value → Shared → Prop} {s : Shared} {Q : Value → Shared → Prop} {oc : Value} {od : Option Addr} {cd : ClassData} {sl : Array (Option Value)} {a b : Value}
theorem made_none {M : Model} {h : Heap} (X : K.In h) (hC : K.lookup C = some ⟨oc, od, .cls cd, sl⟩) (he : cd.mro.isEmpty = false) (h4 : (sl.toList[4]?).join = some .none) : Looks M h (Bind.madeBy (.ref C)) none := by
  have hc : clsIn K C = some cd := by unfold clsIn; rw [hC]
  have hm : Looks M h (mroOf (.ref C)) cd.mro := (looks_clsIn X hc).andThen .now
  obtain ⟨c, l, hl⟩ : ∃ c l, cd.mro = c :: l := by cases q : cd.mro with | nil => rw [q] at he; cases he | cons c l => exact ⟨c, l, rfl⟩
  intro A Q E s k q
  unfold Bind.madeBy
  refine wpAny_bind (hm A _ E s k ?_)
  rw [hl, List.forIn_cons]
  refine wpAny_bind (wpAny_bind (wpAny_bind (wpAny_bind (wpAny_loadPart (k _ _ (X _ _ hC)) (wpAny_pure ?_)))))
  dsimp only
  rw [← Array.getElem?_toList, h4]
  exact wpAny_pure (wpAny_pure (wpAny_pure q))
theorem oi_args3 (a b c : Value) : argsOk "object.__init__" ⟨[a, b, c], []⟩ := by unfold argsOk; kernel_rfl
theorem call_ntup (X : K.In s.heap) (hC : K.lookup C = some ⟨oc, od, .cls cd, sl⟩) (he : cd.mro.isEmpty = false) (h4 : (sl.toList[4]?).join = some .none) (hs : mroIn K C (.ref C) = some true) (ho : mroIn K C (.type "object") = some true)
    (hcall : specialIn K (.ref C) "__call__" = some (some (.builtin "type.__call__"))) (hty : instIn K (.ref C) (.type "type") = some true) (hin : findIn K (.ref C) "__init__" = some (some (.builtin "object.__init__")))
    (h : wpAny (model prog w) (A.under (.builtin "type.__call__" ⟨[.ref C, a, b], []⟩)) (getAttr (.ref C) "__new__")
      (fun f s₁ => wpAny (model prog w) (A.under (.builtin "type.__call__" ⟨[.ref C, a, b], []⟩)) (call f [.ref C, a, b])
        (fun v s₂ => ∃ x o, v = .ref x ∧ s₂.heap.get? x = some o ∧ o.cls = .ref C ∧ K.In s₂.heap ∧ Q v s₂) E s₁) E s) :
    wpAny (model prog w) A (call (.ref C) [a, b]) Q E s := by
  have call' := looks_specialIn (M := model prog w) X hcall
  have typ := looks_instIn (M := model prog w) X hty
  have made := made_none (M := model prog w) X hC he h4
  have hm : Looks (model prog w) s.heap (mroOf (.ref C)) cd.mro := ((Looks.ld (part := none) (X _ _ hC)).andThen .now).andThen .now
  obtain ⟨hh, gg, d, t, os⟩ := s
  refine wpAny_call (codeAny_of_tree ?_)
  show wpAny _ _ (callAny (.ref C) _) _ _ _
  refine nd_load (X _ _ hC) ?_
  show wpAny _ _ (callAny.viaDunder (.ref C) _) _ _ _
  unfold callAny.viaDunder
  refine wpAny_bind (call'.at ?_)
  dsimp only
  rw [tc_bind]
  refine wpAny_bind (wpAny_pure (wpAny_bind (wpAny_pure ?_)))
  refine wpAny_pure (a := Fin.again (.call (.builtin "type.__call__") ⟨[.ref C, a, b], []⟩)) (And.intro rfl ?_)
  refine codeAny_call_builtin_at (Code.quiet_builtin _ (by decide +kernel)) entry_typeCall (check_slot tc_kind tc_split typ (tc_args _ _ _) ?_)
  unfold Builtin.«type.__call__»
  dsimp only
  generalize getAttr (Value.ref C) (PySem.Str.ofString "__new__") false = gA at h ⊢
  repeat (first | simp only [he, Bool.false_eq_true, if_false] | lk)
  refine wpAny_mono h (fun f s₁ h₁ => ?_) fun _ _ z => z
  repeat (first | with_reducible refine wpAny_bind ?_ | with_reducible refine nd_bind ?_ | with_reducible refine wpAny_holding ?_)
  refine wpAny_mono h₁ (fun v s₂ h₂ => ?_) fun _ _ z => z
  obtain ⟨x, o, rfl, hx, hcl, X₂, q⟩ := h₂
  obtain ⟨hh2, gg2, d2, t2, os2⟩ := s₂
  have t1 : Looks (model prog w) hh2 (typeOf (.ref x)) (.ref C) := (Looks.ld hx).andThen (by rw [hcl]; exact .now)
  have s1 := looks_mroIn (M := model prog w) X₂ hs
  have o1 := looks_mroIn (M := model prog w) X₂ ho
  have i1 := looks_findIn (M := model prog w) X₂ hin
  have b1 : Looks (model prog w) hh2 (bindSpecial (.builtin "object.__init__") (.ref x)) (.builtin "object.__init__", [.ref x]) := Looks.of_pure (oi_bind _)
  have m1 := made_none (M := model prog w) X₂ hC he h4
  have io : Looks (model prog w) hh2 (isInstance (.ref x) (.type "object")) true := t1.andThen o1
  unfold isInstance callSpecial? specialOf
  repeat (first | with_reducible refine wpAny_call ?_ | lk)
  refine codeAny_call_builtin oi_plain entry_oi (@check_slot (model prog w) _ _ _ "object.__init__" "object" "__init__" (.ref x) [a, b] [] _ oi_kind oi_split io (oi_args3 (.ref x) a b) ?_)
  unfold Builtin.«object.__init__»
  dsimp only [List.singleton_append]
  repeat (first | simp only [bne_self_eq_false, Bool.false_eq_true, if_false, Bool.not_true, Bool.or_true, if_true, List.isEmpty_cons, Bool.not_false, Bool.true_or] | lk)

  exact q
end
section
variable {prog : Program} {w : World} {A : Around} {K : Frag} {C : Addr} {E : Value → Shared → Prop} {s : Shared} {Q : Value → Shared → Prop} {oc : Value} {od : Option Addr} {cd : ClassData} {sl : Array (Option Value)} {a b : Value}
theorem static_tuple {M : Model} {h : Heap} {c c' : Value} {l : List Value} (X : K.In h) (hC : K.lookup C = some ⟨oc, od, .cls cd, sl⟩) (h2 : cd.mro = c :: c' :: l) (hb : cd.bases = [.type "tuple"]) (h4 : (sl.toList[4]?).join = some .none) : Looks M h (Bind.staticBase (.ref C)) (.type "tuple") := by
  have hc : clsIn K C = some cd := by unfold clsIn; rw [hC]
  have hm : Looks M h (mroOf (.ref C)) cd.mro := (looks_clsIn X hc).andThen .now
  have made := made_none (M := M) X hC (by rw [h2]; rfl) h4
  have dat : Looks M h (classData C) cd := looks_clsIn X hc
  have best : Looks M h (Builtin.Slots.bestBase [.type "tuple"]) (.type "tuple") := Looks.of_pure (by kernel_rfl)
  have made2 : Looks M h (Bind.madeBy (.type "tuple")) (some "tuple.__new__") := Looks.of_pure PySem.F.called_tuple.made
  intro A Q E s k q
  unfold Bind.staticBase
  refine wpAny_bind (hm A _ E s k ?_)
  rw [h2, List.forIn_cons]
  refine wpAny_bind (wpAny_bind (wpAny_bind (made A _ E s k ?_)))
  simp only [Option.isSome_none, Bool.false_eq_true, if_false]
  refine wpAny_bind (dat A _ E s k ?_)
  rw [hb]
  refine wpAny_bind (best A _ E s k ?_)
  refine wpAny_pure ?_
  dsimp only
  rw [List.forIn_cons]
  refine wpAny_bind (wpAny_bind (made2 A _ E s k ?_))
  simp only [Option.isSome_some, if_true]
  exact wpAny_pure (wpAny_pure (wpAny_pure q))
end
section
variable {prog : Program} {w : World} {A : Around} {K : Frag} {C : Addr} {E : Value → Shared → Prop} {s : Shared} {Q : Value → Shared → Prop} {oc : Value} {od : Option Addr} {cd : ClassData} {sl : Array (Option Value)} {a b : Value}
theorem tn_kind : builtinKind "tuple.__new__" = some .builtinFn := by decide +kernel
theorem tn_split : splitId "tuple.__new__" = some ("tuple", "__new__") := by decide +kernel
theorem tn_args (u v : Value) : argsOk "tuple.__new__" ⟨[u, v], []⟩ := by unfold argsOk; kernel_rfl
theorem tup_new {D : Addr} {c c' : Value} {l : List Value} {its : Array Value} (X : K.In s.heap) (hC : K.lookup C = some ⟨oc, od, .cls cd, sl⟩) (h2 : cd.mro = c :: c' :: l) (hb : cd.bases = [.type "tuple"]) (hd : cd.hasDel = false) (h4 : (sl.toList[4]?).join = some .none)
    (ht : mroIn K C (.type "tuple") = some true) (hin : findIn K (.ref C) "__init__" = some (some (.builtin "object.__init__"))) (hD : s.heap.get? D = some { cls := .type "tuple", data := .seq its })
    (hz : its.size ≤ sizeLine) (h : ∀ x dx h' tk', s.heap.get? x = none → s.heap.get? dx = none → x ≠ dx → (∀ q o, s.heap.get? q = some o → h'.get? q = some o) → h'.get? x = some ⟨.ref C, some dx, .seq its 0, #[]⟩ → h'.get? dx = some { cls := .type "dict", data := .dict #[] } → Q (.ref x) { s with heap := h', toks := tk' }) :
    wpAny (model prog w) A (call (.builtin "tuple.__new__") [.ref C, .ref D]) Q E s := by
  have sub := looks_mroIn (M := model prog w) X ht
  have stat := static_tuple (M := model prog w) X hC h2 hb h4
  have made2 : Looks (model prog w) s.heap (Bind.madeBy (.type "tuple")) (some "tuple.__new__") := Looks.of_pure PySem.F.called_tuple.made
  have i1 := looks_findIn (M := model prog w) X hin
  have ity : Looks (model prog w) s.heap (isType (.ref C)) true := looks_isType X (by unfold isClsIn clsIn; rw [hC]; rfl)
  obtain ⟨hh, gg, d, t, os⟩ := s
  refine wpAny_call ?_
  refine codeAny_call_builtin_code (Code.quiet_builtin _ (by decide +kernel)) ?_
  simp only [checkBuiltinCall, tn_kind, tn_split]
  have ha := tn_args (.ref C) (.ref D)
  unfold argsOk at ha
  have fin : ∀ A', wpAny (model prog w) A' (Builtin.«tuple.__new__» ⟨[.ref C, .ref D], []⟩) (fun fin s' => match fin with | .done f => (match (Except.ok f : Result) with | .ok (.ret v) => Q v s' | .ok _ => False | .error e => E e s') | .again c' => c'.quiet = true ∧ codeAny (model prog w) A c' (fun r s' => match r with | .ok (.ret v) => Q v s' | .ok _ => False | .error e => E e s') s') (fun e s' => E e s') ⟨hh, gg, d, t, os⟩ := by
    intro A'
    have here : Looks (model prog w) hh (Bind.madeHere "tuple.__new__" (.ref C)) () := stat.andThen (made2.andThen (Looks.of_pure (by simp only [Option.map_some, bne_self_eq_false, Bool.false_eq_true, if_false])))
    have kw0 : noKeywords "tuple" ⟨[.ref C, .ref D], []⟩ = pure () := rfl
    have cc0 : checkCount "tuple" 0 1 [Value.ref D].length = pure () := by kernel_rfl
    have ne0 : (Value.ref C == Value.type "tuple") = false := rfl
    unfold Builtin.«tuple.__new__»
    dsimp only
    simp only [kw0, cc0, ne0]
    generalize hcD : collect (Value.ref D) = cD
    generalize hnO : newObj (Value.ref C) = nO
    repeat (first | simp only [beq_self_eq_true, if_true, bne_self_eq_false, Bool.false_eq_true, if_false, Bool.not_true] | lk)
    subst hcD
    subst hnO
    refine wpAny_collect_seq D (T := "tuple") (.inr rfl) hD rfl rfl (fun h1 k1 => ?_) hz
    refine wpAny_bind (wpAny_pure (wpAny_bind (wpAny_alloc (wpAny_bind ?_))))
    have hC1 := Heap.get?_push_of_some { cls := .type "dict", data := .dict #[] } (k1 _ _ (X _ _ hC))
    have hdx : (h1.push ({ cls := .type "dict", data := .dict #[] } : Obj)).get? h1.objs.size = some { cls := .type "dict", data := .dict #[] } := Heap.get?_push_size _ rfl
    have none1 : ∀ b, h1.objs.size ≤ b → hh.get? b = none := fun b hb => by
      cases q : hh.get? b with
      | none => rfl
      | some o => exact absurd (Heap.lt_size (k1 _ _ q)) (Nat.not_lt.mpr hb)
    have hsz : ¬ (its.size > sizeLine) := Nat.not_lt.mpr hz
    unfold newObj newObjAsIs classHasDel
    simp only [Array.toArray_toList, if_neg hsz, pure_bind]
    refine wpAny_bind (wpAny_alloc ?_)
    refine wpAny_bind (wpAny_bind (wpAny_load (Heap.get?_push_of_some _ hC1) (wpAny_pure ?_)))
    rw [hd]
    simp only [Bool.false_eq_true, if_false]
    refine wpAny_pure (wpAny_pure ?_)
    refine h _ h1.objs.size _ t (none1 _ (by rw [Heap.size_push]; omega)) (none1 _ (Nat.le_refl _)) (Nat.ne_of_gt (show h1.objs.size < (h1.push ({ cls := .type "dict", data := .dict #[] } : Obj)).objs.size from by rw [Heap.size_push]; exact Nat.lt_succ_self _)) (fun q o e => Heap.get?_push_of_some _ (Heap.get?_push_of_some _ (k1 _ _ e))) (Heap.get?_push_size _ rfl) (Heap.get?_push_of_some _ hdx)
  cases hsig : Manifest.signature? "tuple.__new__" with
  | none =>
    repeat (first | simp only [beq_self_eq_true, if_true, bne_self_eq_false, Bool.false_eq_true, if_false, Bool.not_true] | lk)
    exact codeAny_builtin PySem.F.entry_tuple_new (fin _)
  | some sig =>
    rw [hsig] at ha
    have h2' : Bind.checkArgs "tuple.__new__" sig ⟨[.ref C, .ref D], []⟩ = pure () := ha
    simp only [h2']
    repeat (first | simp only [beq_self_eq_true, if_true, bne_self_eq_false, Bool.false_eq_true, if_false, Bool.not_true] | lk)
    exact codeAny_builtin PySem.F.entry_tuple_new (fin _)
end
section
variable {prog : Program} {w : World} {A : Around} {K : Frag} {C : Addr} {E : Value → Shared → Prop} {s : Shared} {Q : Value → Shared → Prop} {oc : Value} {od : Option Addr} {cd : ClassData} {sl : Array (Option Value)} {h₀ : Heap} {L : Addr} {m : PySem.Str → Option Value} {news : List (Addr × Obj)}
theorem tup_newN {D : Addr} {c c' : Value} {l : List Value} {its : Array Value} (F : Fr h₀ L s.heap m) (X : K.In h₀) (N : News h₀ L s.heap news) (hC : K.lookup C = some ⟨oc, od, .cls cd, sl⟩) (h2 : cd.mro = c :: c' :: l) (hb : cd.bases = [.type "tuple"]) (hd : cd.hasDel = false) (h4 : (sl.toList[4]?).join = some .none)
    (ht : mroIn K C (.type "tuple") = some true) (hin : findIn K (.ref C) "__init__" = some (some (.builtin "object.__init__"))) (hD : (D, ({ cls := .type "tuple", data := .seq its } : Obj)) ∈ news) (hz : its.size ≤ sizeLine)
    (h : ∀ x dx h' tk', Fr h₀ L h' m → News h₀ L h' ((x, ⟨.ref C, some dx, .seq its 0, #[]⟩) :: (dx, { cls := .type "dict", data := .dict #[] }) :: news) → Q (.ref x) { s with heap := h', toks := tk' }) :
    wpAny (model prog w) A (call (.builtin "tuple.__new__") [.ref C, .ref D]) Q E s := by
  refine tup_new (X.keeps F.keep) hC h2 hb hd h4 ht hin (N _ hD).1 hz fun x dx h' tk' n1 n2 _ k e1 e2 => ?_
  have hL : ∀ b, s.heap.get? b = none → b ≠ L := fun b hb q => by
    obtain ⟨oL, es, ep, hL, _⟩ := F.ns
    rw [← q, hb] at hL; cases hL
  have h0 : ∀ b, s.heap.get? b = none → h₀.get? b = none := fun b hb => by
    cases q : h₀.get? b with
    | none => rfl
    | some o => have := F.keep _ _ q; rw [hb] at this; cases this
  refine h x dx h' tk' (F.keeps k) fun q hq => ?_
  rcases List.mem_cons.mp hq with rfl | hq
  · exact ⟨e1, hL _ n1, h0 _ n1⟩
  · rcases List.mem_cons.mp hq with rfl | hq
    · exact ⟨e2, hL _ n2, h0 _ n2⟩
    · exact ⟨k _ _ (N q hq).1, (N q hq).2⟩
end
local macro_rules | `(tactic| k_is) => `(tactic| with_reducible assumption)
local macro_rules | `(tactic| walk_at "call ref") => `(tactic| (k_here; (with_reducible show wpAny _ _ (call (Value.ref 132) _) _ _ _); refine Stop.mk ?_))
local macro_rules | `(tactic| walk_at "call builtin:tuple.__new__") => `(tactic| (k_here; k_dflt (refine' tup_newN (K := HeapK _) ?F ?X ?N ?l ?h2 ?hb ?hd ?h4 ?ht ?hin ?m ?z ?_; (case F => k_asm); (case X => k_asm); (case N => k_asm); (case l => k_is); (case h2 => exact rfl); (case hb => exact rfl); (case hd => exact rfl); (case h4 => exact rfl); (case ht => k_is); (case hin => k_is); (case m => k_mem); (case z => rw [sizeLine_eq]; exact Nat.le_of_ble_eq_true rfl)); intro x' dx' h' tk' F' N'))
set_option maxHeartbeats 8000000 in
theorem lstats {w : World} {av : List Addr} {p : Program} {loose : List PySem.Str} {mean : ExcName → Option Value} {mg mb : PySem.Str → Option Value} {dp un : Nat} {gd : Option (List Code)} {cn : PySem.Str} {cs : Scope} {a : Addr} {ccd : Value} {cl : List (PySem.Str × Addr)} {outer : List Env} {A₀ : Around} {base h₀ : Heap} {L : Addr} {m : PySem.Str → Option Value} {news : List (Addr × Obj)} {s : Shared} {Q E : Value → Shared → Prop}
    {S : List (Addr × Obj)} {st std fn sg ex ev : Addr} {t1 t2 t3 t4 : Tok} {now : Int} {nn : Nat} {D : PySem.Str → List (Int × Int)} {lim limd it d C nm : Addr} {A M : Int} {t7 t8 t9 t10 t11 t12 t13 : Tok} {key : PySem.Str} {x : Int}
    (B : Below A₀ base outer h₀) (F : Fr h₀ L s.heap m) (X : (HeapK w.params).In h₀) (N : News h₀ L s.heap news) (T : Top p loose mean mg mb h₀) (hk : cs.kind = .function)
    (hS : S ⊆ news) (hst : (st, instObj 597 std) ∈ S) (hstd : (std, storeD w fn sg ex ev t1 t2 t3 t4) ∈ S) (hfn : ∃ oc od fd sl, (fn, (⟨oc, od, .func fd, sl⟩ : Obj)) ∈ S)
    (CK : Call1 w p loose mean mg mb S fn 20 200 [] (fun r => ∃ t, r = .int now t)) (EV : EvAt w av ev news nn D) (hlo : (ev == sysModules) = false) (hav : ∀ a ∈ av, ∃ o, (a, o) ∈ S) (hnn : nn ≤ 900)
    (hSe : ∀ q ∈ S, q.1 ≠ ev)
    (hl1 : (lim, instObj 202 limd) ∈ S) (hl2 : (limd, dictOf [⟨PyData.keyHash w.params (PySem.Str.ofString "storage"), .str (PySem.Str.ofString "storage") t7, .ref st⟩] 1) ∈ S)
    (hi1 : (it, instObj C d) ∈ S) (hi2 : (d, itemD w A M (.str (PySem.Str.ofString "LIMITER") t8) t9 t10 t11 t12 t13) ∈ S)
    (hc7 : findIn (HeapK w.params) (.ref C) (PySem.Str.ofString "amount") = some none) (hc8 : plainGet (HeapK w.params) C (PySem.Str.ofString "amount") = true) (hm1 : plainGet (HeapK w.params) C (PySem.Str.ofString "key_for") = true) (hm2 : plainGet (HeapK w.params) C (PySem.Str.ofString "get_expiry") = true) (hm3 : findIn (HeapK w.params) (.ref C) (PySem.Str.ofString "key_for") = some (some (.ref 364))) (hm4 : findIn (HeapK w.params) (.ref C) (PySem.Str.ofString "get_expiry") = some (some (.ref 357)))
    (hc11 : hasDictIn (HeapK w.params) C = true) (hc12 : isClsIn (HeapK w.params) C = true)
    (KF : Call1 w p loose mean mg mb S 364 20 200 [.ref it, .ref nm] (fun r => ∃ t, r = .str key t)) (GE : Call1 w p loose mean mg mb S 357 10 60 [.ref it] (fun r => ∃ t, r = .int x t))
    (hDl : (D key).length ≤ 1000) (hord : ∀ (i j : Nat) a c, i ≤ j → (D key)[i]? = some a → (D key)[j]? = some c → c.1 ≤ a.1) (hSt : ∀ q ∈ S, q.1 ≠ 546) (tab : TabOk news 546 mwPos mwQual)
    (hdp : dp + 100 < recursionLimit) (hun : un + 1100 < cLine)
    (ret : ∀ (r : Nat) (fst : Int) Dt dx ta tb news' h' tk', r ≤ (D key).length → (∀ (j : Nat) d, j < r → (D key)[j]? = some d → now - x < d.1) → (∀ (j : Nat) d, r ≤ j → (D key)[j]? = some d → d.1 ≤ now - x) → (∀ d, 0 < r → (D key)[r - 1]? = some d → fst = d.1) → Fr h₀ L h' m → News h₀ L h' news' → (∀ q ∈ news, q.1 ≠ 546 → q ∈ news') → TabOk news' 546 mwPos mwQual → (Dt, (⟨.ref 132, some dx, .seq #[.int (fst + x) ta, .int (A - (r : Int)) tb] 0, #[]⟩ : Obj)) ∈ news' → (dx, ({ cls := .type "dict", data := .dict #[] } : Obj)) ∈ news' → Q (.ref Dt) { s with heap := h', toks := tk' }) :
    wpAny (model PG w) (ktrTop dp un gd cn cs L a ccd cl outer) (call (.ref 199) [.ref lim, .ref it, .ref nm]) Q E s := by
  have hl1' := hS hl1
  have hl2' := hS hl2
  have hi1' := hS hi1
  have hi2' := hS hi2
  have hst' := hS hst
  have hstd' := hS hstd
  obtain ⟨oc, od, fd, sl, hfn'⟩ := hfn
  refine wpAny_call ?_
  k_dflt ktr_enter
  k_steps
  unfold Stop
  k_dflt (refine' moving ?k1 ?k2 ?k3 ?k4 ?k5 ?kK hS hst hstd ⟨_, _, _, _, hS hfn'⟩ CK EV hlo hDl hord tab ?hdp ?hun ?_; (case k1 => k_asm); (case k2 => k_asm); (case k3 => k_asm); (case k4 => k_asm); (case k5 => k_asm); (case kK => rfl))
  case hdp => ktr_room
  case hun => ktr_units
  intro Dt fst r ta tr news' h' tk' hr hlo1 hhi1 hfst F' N' hDt keep tab'
  (try dsimp only)
  (try k_fold)
  have hS' : S ⊆ news' := fun q hq => keep q (hS hq) (hSt q hq)
  have hi1'' := hS' hi1
  have hi2'' := hS' hi2
  have hl1'' := hS' hl1
  k_steps
  unfold Stop
  k_dflt (refine' call_ntup (K := HeapK w.params) ?X ?l ?he ?h4 ?hs ?ho ?hcall ?hty ?hin ?_; (case X => k_in); (case l => k_is); (case he => exact rfl); (case h4 => exact rfl); (case hs => k_is); (case ho => k_is); (case hcall => k_is); (case hty => k_is); (case hin => k_is))
  k_steps
  · exact ((by k_asm : News _ _ _ (_ :: _)) _ (.head _)).1
  · exact rfl
  · exact ret r fst _ _ _ _ _ _ _ hr hlo1 hhi1 hfst (by k_asm) (by k_asm) (fun q hq hn => .tail _ (.tail _ (.tail _ (keep q hq hn)))) (tab'.cast (fun _ z => .tail _ (.tail _ (.tail _ z))) rfl) (.head _) (.tail _ (.head _))



end

end

section
theorem fill_JC8clear : PySem.Challenge.rw_jb0022_01.prog = PySem.Challenge.rw_jb0022_01.prog ∧ HeapK = HeapK := by { k_fill; exact ⟨rfl, rfl⟩ }
local macro_rules | `(tactic| k_is) => `(tactic| with_reducible assumption)
set_option maxHeartbeats 8000000 in
theorem lclear {w : World} {av : List Addr} {p : Program} {loose : List PySem.Str} {mean : ExcName → Option Value} {mg mb : PySem.Str → Option Value} {dp un : Nat} {gd : Option (List Code)} {cn : PySem.Str} {cs : Scope} {a : Addr} {ccd : Value} {cl : List (PySem.Str × Addr)} {outer : List Env} {A₀ : Around} {base h₀ : Heap} {L : Addr} {m : PySem.Str → Option Value} {news : List (Addr × Obj)} {s : Shared} {Q E : Value → Shared → Prop}
    {S : List (Addr × Obj)} {st std fn sg ex ev : Addr} {t1 t2 t3 t4 : Tok} {now : Int} {nn : Nat} {D : PySem.Str → List (Int × Int)} {lim limd it d C nm : Addr} {A M : Int} {t7 t8 t9 t10 t11 t12 t13 : Tok} {key : PySem.Str} {x : Int} {osg oex : Obj}
    (B : Below A₀ base outer h₀) (F : Fr h₀ L s.heap m) (X : (HeapK w.params).In h₀) (N : News h₀ L s.heap news) (T : Top p loose mean mg mb h₀) (hk : cs.kind = .function)
    (hS : S ⊆ news) (hst : (st, instObj 597 std) ∈ S) (hstd : (std, storeD w fn sg ex ev t1 t2 t3 t4) ∈ S) (hfn : ∃ oc od fd sl, (fn, (⟨oc, od, .func fd, sl⟩ : Obj)) ∈ S)
    (CK : Call1 w p loose mean mg mb S fn 20 200 [] (fun r => ∃ t, r = .int now t)) (EV : EvAt w av ev news nn D) (hlo : (ev == sysModules) = false) (hav : ∀ a ∈ av, ∃ o, (a, o) ∈ S) (hnn : nn ≤ 900)
    (hSe : ∀ q ∈ S, q.1 ≠ ev)
    (hl1 : (lim, instObj 202 limd) ∈ S) (hl2 : (limd, dictOf [⟨PyData.keyHash w.params (PySem.Str.ofString "storage"), .str (PySem.Str.ofString "storage") t7, .ref st⟩] 1) ∈ S)
    (hi1 : (it, instObj C d) ∈ S) (hi2 : (d, itemD w A M (.str (PySem.Str.ofString "LIMITER") t8) t9 t10 t11 t12 t13) ∈ S)
    (hc7 : findIn (HeapK w.params) (.ref C) (PySem.Str.ofString "amount") = some none) (hc8 : plainGet (HeapK w.params) C (PySem.Str.ofString "amount") = true) (hm1 : plainGet (HeapK w.params) C (PySem.Str.ofString "key_for") = true) (hm2 : plainGet (HeapK w.params) C (PySem.Str.ofString "get_expiry") = true) (hm3 : findIn (HeapK w.params) (.ref C) (PySem.Str.ofString "key_for") = some (some (.ref 364))) (hm4 : findIn (HeapK w.params) (.ref C) (PySem.Str.ofString "get_expiry") = some (some (.ref 357)))
    (hc11 : hasDictIn (HeapK w.params) C = true) (hc12 : isClsIn (HeapK w.params) C = true)
    (KF : Call1 w p loose mean mg mb S 364 20 200 [.ref it, .ref nm] (fun r => ∃ t, r = .str key t)) (GE : Call1 w p loose mean mg mb S 357 10 60 [.ref it] (fun r => ∃ t, r = .int x t))
    (hsg : (sg, osg) ∈ S) (hsgd : osg.IsDictOf (PySem.strKind PG w) []) (hsgl : (sg == sysModules) = false) (hex : (ex, oex) ∈ S) (hexd : oex.IsDictOf (PySem.strKind PG w) []) (hexl : (ex == sysModules) = false)
    (hdp : dp + 100 < recursionLimit) (hun : un + 1100 < cLine)
    (ret : ∀ news' h' tk', Fr h₀ L h' m → News h₀ L h' news' → (∀ q ∈ news, q.1 ≠ ev → q ∈ news') → EvAt w av ev news' nn (fun k' => if k' = key then [] else D k') → Q .none { s with heap := h', toks := tk' }) :
    wpAny (model PG w) (ktrTop dp un gd cn cs L a ccd cl outer) (call (.ref 158) [.ref lim, .ref it, .ref nm]) Q E s := by
  have hl1' := hS hl1
  have hl2' := hS hl2
  have hi1' := hS hi1
  have hi2' := hS hi2
  have hst' := hS hst
  have hstd' := hS hstd
  refine wpAny_call ?_
  k_dflt ktr_enter
  k_steps
  unfold Stop
  k_dflt (refine' sclear ?k1 ?k2 ?k3 ?k4 ?k5 ?kK hS hst hstd hsg hsgd hsgl hex hexd hexl EV hlo ?hn ?hdp ?hun ?_; (case k1 => k_asm); (case k2 => k_asm); (case k3 => k_asm); (case k4 => k_asm); (case k5 => k_asm); (case kK => rfl); (case hn => omega))
  case hdp => ktr_room
  case hun => ktr_units
  intro news' h' tk' F' N' keep EV'
  (try dsimp only)
  (try k_fold)
  k_steps
  exact ret _ _ _ (by k_asm) (by k_asm) keep EV'



end

end

section
theorem fill_JC10 : PySem.Challenge.rw_jb0022_01.prog = PySem.Challenge.rw_jb0022_01.prog ∧ HeapK = HeapK := by { k_fill; exact ⟨rfl, rfl⟩ }

theorem TabOk.evs {w : World} {h₀ h : Heap} {L P ev : Addr} {news news' : List (Addr × Obj)} {pos : Pos} {q : PySem.Str} {o : Obj} {kvs : List (PySem.Str × Value)} (N : News h₀ L h news) (hev : (ev, o) ∈ news) (hd : o.IsDictOf (PySem.strKind PG w) kvs) (t : TabOk news P pos q) (hk : ∀ x ∈ news, x.1 ≠ ev → x ∈ news') : TabOk news' P pos q := by
  have hcls := dict_cls hd
  have hP : P ≠ ev := fun e => (ne_tab N hev t (by rw [hcls]; nofun)) e.symm
  obtain ⟨ps, hp, h⟩ := t
  refine ⟨ps, hk _ hp hP, ?_⟩
  rcases h with h | ⟨c', oc, vs, t, h1, h2, h3, h4, h5⟩
  · exact .inl h
  · refine .inr ⟨c', oc, vs, t, h1, hk _ h2 (fun e => ?_), h3, h4, h5⟩
    have e1 := (N _ h2).1
    dsimp only at e
    rw [e, (N _ hev).1] at e1
    cases e1
    obtain ⟨es, ep, _, x, _⟩ := hd
    rw [h4] at x
    cases x
theorem stored_same {K : Type} [DecidableEq K] {kvs : List (K × Value)} {k : K} {v u : Value} (h : valueAt kvs k = some u) : (stored kvs k v).length = kvs.length := by
  have ha : kvs.any (fun kv => kv.1 = k) = true := by
    unfold valueAt at h
    obtain ⟨a, ha, _⟩ := Option.map_eq_some_iff.mp h
    exact List.any_eq_true.mpr ⟨a, List.mem_of_find?_eq_some ha, by simpa using List.find?_some ha⟩
  unfold stored
  rw [ha]
  simp
/-- what a sweep at this moment may take away -/
def Shrunk (now : Int) (D D' : PySem.Str → List (Int × Int)) : Prop := ∀ k, ∃ r, D k = D' k ++ r ∧ ∀ d ∈ r, d.2 ≤ now
theorem Shrunk.refl {now : Int} {D : PySem.Str → List (Int × Int)} : Shrunk now D D := fun k => ⟨[], by simp, by simp⟩
theorem Shrunk.len {now : Int} {D D' : PySem.Str → List (Int × Int)} (h : Shrunk now D D') (k : PySem.Str) : (D' k).length ≤ (D k).length := by
  obtain ⟨r, e, _⟩ := h k
  rw [e, List.length_append]; omega
theorem Shrunk.at {now : Int} {D D' : PySem.Str → List (Int × Int)} (h : Shrunk now D D') {k : PySem.Str} {i : Nat} {d : Int × Int} (e : (D' k)[i]? = some d) : (D k)[i]? = some d := by
  obtain ⟨r, e1, _⟩ := h k
  have := (List.getElem?_eq_some_iff.mp e).1
  rw [e1, List.getElem?_append_left this, e]
theorem Shrunk.cut {now : Int} {D D' : PySem.Str → List (Int × Int)} (h : Shrunk now D D') {k : PySem.Str} {r : Nat} (hr : ∀ (j : Nat) d, r ≤ j → (D' k)[j]? = some d → d.2 ≤ now) : Shrunk now D (fun k' => if k' = k then (D' k).take r else D' k') := fun k' => by
  by_cases e : k' = k
  · subst e
    obtain ⟨q, e1, e2⟩ := h k'
    refine ⟨(D' k').drop r ++ q, by simp only [if_true]; rw [← List.append_assoc, List.take_append_drop, e1], fun d hd => ?_⟩
    rcases List.mem_append.mp hd with hd | hd
    · obtain ⟨i, hi⟩ := List.mem_iff_getElem?.mp hd
      rw [List.getElem?_drop] at hi
      exact hr _ _ (by omega) hi
    · exact e2 d hd
  · simp only [if_neg e]; exact h k'
theorem EntsAt.take {w : World} {ev : Addr} {news : List (Addr × Obj)} {vs : List Value} {ds : List (Int × Int)} (E : EntsAt w ev news vs ds) (r : Nat) : EntsAt w ev news (vs.take r) (ds.take r) :=
  ⟨by rw [List.length_take, List.length_take, E.1], fun i v d h1 h2 => by
    rw [List.getElem?_take] at h1 h2
    split at h1
    · rename_i hi
      rw [if_pos hi] at h2
      exact E.2 i v d h1 h2
    · cases h1⟩
theorem pick_take (vs : List Value) (r : Nat) : kms_pick vs none (some (r : Int)) = vs.take r := by
  unfold kms_pick kms_lo kms_hi
  simp only [List.drop_zero, Nat.sub_zero]
  rw [if_neg (by omega)]
  by_cases h : r ≤ vs.length
  · rw [Int.toNat_natCast, Nat.min_eq_left h]
  · rw [Int.toNat_natCast, Nat.min_eq_right (by omega), List.take_length, List.take_of_length_le (by omega)]
section
variable {prog : Program} {w : World} {A : Around} {E : Value → Shared → Prop} {s : Shared} {h₀ : Heap} {L d v : Addr} {m : PySem.Str → Option Value} {news : List (Addr × Obj)} {Q : Value → Shared → Prop} {o : Obj}
theorem dummyA : True := trivial
theorem list_keysA {kvs : List (PySem.Str × Value)} (hh : A.handled = none) (F : Fr h₀ L s.heap m) (N : News h₀ L s.heap news) (hv : (v, { cls := .type "dict_keys", data := .fields #[.ref d] }) ∈ news) (hp : (d, o) ∈ news) (hd : o.IsDictOf (PySem.strKind prog w) kvs) (hn : kvs.length ≤ 2000)
    (h : ∀ (B : Addr) c h' tk (vs : List Value), vs.length = kvs.length → (∀ (j : Nat) v, vs[j]? = some v → ∃ k t, v = .str k t) → Fr h₀ L h' m → News h₀ L h' ((B, listOf vs.toArray c) :: news) → Q (.ref B) { s with heap := h', toks := tk }) :
    wpAny (model prog w) A (call (.type "list") [.ref v]) Q E s := by
  obtain ⟨ep, hat⟩ := (kda_dict N hp hd).dictAt
  refine kdl_N (kdl_keys (knd := PySem.strKind prog w) (kvs := kvs) (ep := ep)) hh F N ⟨⟨_, (N _ hv).1, rfl, rfl⟩, hat⟩ (kdl_size (by omega)) fun B c h' tk vs F' N' l1 hl hv => ?_
  refine h B c h' tk vs hl (fun j u hu => ?_) F' N'
  obtain ⟨k, x, hx, hk⟩ := hv j u hu
  obtain ⟨t, e⟩ := Value.isStrOf_shape hk
  exact ⟨k, t, e⟩
end
theorem InvEndG.off {h₀ : Heap} {L P : Addr} {oI : Obj} {J : (PySem.Str → Option Value) → List (Addr × Obj) → Prop} {m' : PySem.Str → Option Value} {news' : List (Addr × Obj)} {s₁ : Shared} {h' : Heap} {tk : Nat} (F : Fr h₀ L h' m') (N : News h₀ L h' news') (hP : (P, oI) ∈ news')
    (hj : J m' (Mine.off P news')) : InvEndG h₀ L J [(P, oI)] s₁ { s₁ with heap := h', toks := tk } :=
  InvEndG.intro F N hj (fun p hp b hb e => by
    rw [List.mem_singleton.mp hp] at e
    obtain ⟨q, hq, rfl⟩ := List.mem_map.mp hb
    exact off_ne q hq e.symm) (fun p hp => off_mem hp) (fun p hp => by rw [List.mem_singleton.mp hp]; exact hP)
theorem li_ne (T : String) (h : T ≠ "list_iterator") : (Value.type T) ≠ .type "list_iterator" := fun e => by injection e with e; exact h e
theorem ne_it {h₀ h : Heap} {L a P : Addr} {x oI : Obj} {news : List (Addr × Obj)} (N : News h₀ L h news) (h1 : (a, x) ∈ news) (h2 : (P, oI) ∈ news) (hc : oI.cls = .type "list_iterator") (hx : x.cls ≠ .type "list_iterator") : a ≠ P :=
  ne_cls N h1 h2 (by rw [hc]; exact hx)
theorem EvAt.offI {w : World} {av : List Addr} {h₀ h : Heap} {L P ev : Addr} {oI : Obj} {n : Nat} {D : PySem.Str → List (Int × Int)} {news : List (Addr × Obj)} (V : EvAt w av ev news n D) (N : News h₀ L h news) (hP : (P, oI) ∈ news) (hc : oI.cls = .type "list_iterator") : EvAt w av ev (Mine.off P news) n D := by
  obtain ⟨o, kvs, h1, h2, h3, hav, h4⟩ := V.at'
  refine ⟨o, kvs, mem_off h1 (ne_it N h1 hP hc (by rw [dict_cls h2]; exact li_ne _ (by decide))), h2, h3, hav, fun k => ?_⟩
  rcases h4 k with h | ⟨b, vs, cap, e, hb, hE⟩
  · exact .inl h
  · refine .inr ⟨b, vs, cap, e, mem_off hb (ne_it N hb hP hc (li_ne _ (by decide))), hE.1, fun i v d h1 h2 => ?_⟩
    obtain ⟨x, xd, t1, t2, u1, u2, e, hx, hxd, n1⟩ := hE.2 i v d h1 h2
    exact ⟨x, xd, t1, t2, u1, u2, e, mem_off hx (ne_it N hx hP hc (by nofun)), mem_off hxd (ne_it N hxd hP hc (li_ne _ (by decide))), n1⟩
theorem TabOk.offI {h₀ h : Heap} {L P R : Addr} {oI : Obj} {news : List (Addr × Obj)} {pos : Pos} {q : PySem.Str} (t : TabOk news R pos q) (N : News h₀ L h news) (hP : (P, oI) ∈ news) (hc : oI.cls = .type "list_iterator") (hd : ∃ u v, oI.data = .fields #[u, .int v 0]) : TabOk (Mine.off P news) R pos q := by
  have hR : R ≠ P := fun e => (ne_tab N hP t (by rw [hc]; nofun)) e.symm
  obtain ⟨ps, hp, h⟩ := t
  refine ⟨ps, mem_off hp hR, ?_⟩
  rcases h with h | ⟨c', oc, vs, t, h1, h2, h3, h4, h5⟩
  · exact .inl h
  · refine .inr ⟨c', oc, vs, t, h1, mem_off h2 (fun e => ?_), h3, h4, h5⟩
    have e1 := (N _ h2).1
    dsimp only at e
    rw [e, (N _ hP).1] at e1
    cases e1
    obtain ⟨u, v, e⟩ := hd
    rw [e] at h4
    cases h4
    cases h5
theorem TabOk.more {h₀ h : Heap} {L P : Addr} {x : Addr × Obj} {ns : List (Addr × Obj)} {pos : Pos} {q : PySem.Str} (_ : News h₀ L h (x :: ns)) (t : TabOk ns P pos q) : TabOk (x :: ns) P pos q := t.cast (fun _ z => List.mem_cons_of_mem _ z) rfl
section
variable {prog : Program} {w : World} {A : Around} {E : Value → Shared → Prop} {s : Shared} {h₀ : Heap} {L l : Addr} {m : PySem.Str → Option Value} {news : List (Addr × Obj)}
theorem tail_go {value slice : PySem.Expr} {o i : Value} {T id : String} {ops : List Value} {Q : Value → Shared → Prop} (hT : s.TypeIs o T) (hl : typeLookup (.type T) "__getitem__" = pure (some (.builtin id))) (h : wpAny (model prog w) A (getItem o i) Q E s) (hs : subscripted slice false o i = operate ops (getItem o i)) :
    wpAny (model prog w) A (subscriptTail value slice o i) Q E s := by
  have fin : wpAny (model prog w) A (subscripted slice false o i) (fun r s₃ => wpAny (model prog w) A (letTemporaryGo value o r >>= fun _ => pure r) Q E s₃) E s := by
    rw [hs]
    exact wpAny_operating (wpAny_mono h (fun r s₃ h₃ => wpAny_bind (wpAny_letTemporaryGo (wpAny_pure h₃))) fun _ _ x => x)
  unfold subscriptTail
  refine wpAny_bind ?_
  rw [getitemInPython_of_ne hT.not_modules]
  refine wpAny_bind (wpAny_specialOf hT hl ?_)
  first
    | exact wpAny_pure (wpAny_bind fin)
    | exact wpAny_bind (wpAny_pure (wpAny_bind fin))
    | exact wpAny_bind fin
/-- a list's beginning, the list being the value of any expression -/
theorem slice_take {value slice : PySem.Expr} {vs : List Value} {c r : Nat} {vl vu : Value} {Q : Value → Shared → Prop} (F : Fr h₀ L s.heap m) (N : News h₀ L s.heap news) (hm : (l, listOf vs.toArray c) ∈ news) (pl : IsPart vl none) (pu : IsPart vu (some (r : Int)))
    (h : ∀ D h', Fr h₀ L h' m → News h₀ L h' ((D, listOf (vs.take r).toArray 0) :: news) → (∀ p ∈ news, p.1 < D) → Q (.ref D) { s with heap := h' })
    (hs : subscripted slice false (.ref l) (.ref s.heap.objs.size) = operate [.ref s.heap.objs.size, .ref l] (getItem (.ref l) (.ref s.heap.objs.size))) (hz : vs.length ≤ 1000) :
    wpAny (model prog w) A (subscriptTail value slice (.ref l) (.ref s.heap.objs.size)) Q E { s with heap := s.heap.push { cls := .type "slice", data := .fields #[vl, vu, .none] } } := by
  have hL := News.isList N hm
  have F1 := F.push { cls := .type "slice", data := .fields #[vl, vu, .none] }
  have N1 := News.push F1 (N.grown fun _ _ e => Heap.get?_push_of_some { cls := .type "slice", data := .fields #[vl, vu, .none] } e) { cls := .type "list", data := .seq (slicePick vs.toArray none (some (r : Int)) none) }
  have e : slicePick vs.toArray none (some (r : Int)) none = (vs.take r).toArray := by
    rw [kms_pick_eq, List.toList_toArray, pick_take]
  rw [e] at N1
  refine tail_go (Heap.IsList.typeIs (s := { s with heap := s.heap.push { cls := .type "slice", data := .fields #[vl, vu, .none] } }) (hL.push _)) list_getitem_lookup
    (wpAny_getItem_list_slice (hL.push _) (Heap.IsSliceOf.new ..) pl pu .none (by simp) ?_ (by rw [List.size_toArray, sizeLine_eq]; omega)) hs
  rw [e]
  exact h _ _ (F1.push _) N1 (fun p hp => by rw [Heap.size_push]; exact Nat.lt_succ_of_lt (Heap.lt_size (N p hp).1))
end
abbrev exPos : Pos := ⟨289, 64, 289, 91⟩
abbrev exQual : PySem.Str := PySem.Str.ofString "MemoryStorage.expire_events.<locals>.<lambda>"
theorem tcodeE {w : World} {h : Heap} (X : (HeapK w.params).In h) : CodeHd h 498 494 := codeHd_of_K X (by rfl)
/-- the state of the sweep between two turns -/
structure SwpAt (w : World) (av : List Addr) (ev st B : Addr) (vs : List Value) (c : Nat) (now : Int) (nn : Nat) (D : PySem.Str → List (Int × Int)) (news : List (Addr × Obj)) (m' : PySem.Str → Option Value) (nx : List (Addr × Obj)) : Prop where
  lst : (B, listOf vs.toArray c) ∈ nx
  keep : ∀ q ∈ news, q.1 ≠ ev → q.1 ≠ 494 → q ∈ nx
  evs : ∃ D', EvAt w av ev nx nn D' ∧ Shrunk now D D'
  tab : TabOk nx 494 exPos exQual
  self : m' (PySem.Str.ofString "self") = some (.ref st)
theorem SwpAt.close {w : World} {av : List Addr} {h₀ h : Heap} {L P ev st B : Addr} {oI : Obj} {vs : List Value} {c : Nat} {now : Int} {nn : Nat} {D D' : PySem.Str → List (Int × Int)} {news news' : List (Addr × Obj)} {m' : PySem.Str → Option Value} (N : News h₀ L h news') (hP : (P, oI) ∈ news') (hc : oI.cls = .type "list_iterator") (hd : ∃ u v, oI.data = .fields #[u, .int v 0])
    (lst : (B, listOf vs.toArray c) ∈ news') (keep : ∀ q ∈ news, q.1 ≠ ev → q.1 ≠ 494 → q ∈ news' ∧ q.1 ≠ P) (evs : EvAt w av ev news' nn D') (shr : Shrunk now D D') (tab : TabOk news' 494 exPos exQual) (self : m' (PySem.Str.ofString "self") = some (.ref st)) :
    SwpAt w av ev st B vs c now nn D news m' (Mine.off P news') :=
  ⟨mem_off lst (ne_it N lst hP hc (li_ne _ (by decide))), fun q hq h1 h2 => mem_off (keep q hq h1 h2).1 (keep q hq h1 h2).2, ⟨D', evs.offI N hP hc, shr⟩, tab.offI N hP hc hd, self⟩
local macro_rules | `(tactic| walk_at "call ref") => `(tactic| (k_here; (with_reducible show wpAny _ _ (call (Value.ref _) []) _ _ _); k_dflt (refine' Call1.use (fn := _) (args := []) (by assumption) ?k1 ?k2 ?k3 ?k4 ?k5 ?kK ?kS ?kd ?ku ?_; (case k1 => k_asm); (case k2 => k_asm); (case k3 => k_asm); (case k4 => k_asm); (case k5 => k_asm); (case kK => first | rfl | assumption); (case kS => first | assumption | exact List.subset_cons_of_subset _ (by assumption)); (case kd => ktr_room); (case ku => ktr_units); k_whole); rintro _ h' tk' ⟨t', hr'⟩ F' N'; subst hr'; (try dsimp only); (try k_fold)))
local macro_rules | `(tactic| walk_at "subscriptTail") => `(tactic| (refine Stop.mk ?_))
local macro_rules | `(tactic| walk_at "call ref") => `(tactic| ((with_reducible show wpAny _ _ (call (Value.ref 457) _ _) _ _ _); refine Stop.mk ?_))
local macro_rules | `(tactic| walk_at "call builtin:dict.get") => `(tactic| (refine Stop.mk ?_))
local macro_rules | `(tactic| walk_at "getMethod ref") => `(tactic| (k_here; (with_reducible show wpAny _ _ (getMethod (Value.ref _) (Str.ofString "get") _) _ _ _); k_dflt (refine' kdg_method (knd := PySem.strKind _ _) ?N ?m ?d ?_; (case N => k_asm); (case m => k_mem); (case d => assumption))))
local macro_rules | `(tactic| walk_at "getMethod ref") => `(tactic| (k_here; (with_reducible show wpAny _ _ (getMethod (Value.ref _) (Str.ofString "keys") _) _ _ _); k_dflt (refine' kdl_method (knd := PySem.strKind _ _) PySem.F.slot_dict_keys PySem.F.type_dict_keys ?N ?m ?d ?_; (case N => k_asm); (case m => k_mem); (case d => assumption))))
local macro_rules | `(tactic| walk_at "call builtin:dict.keys") => `(tactic| (k_here; k_dflt (refine' kdl_view_keys (knd := PySem.strKind _ _) ?F ?N ?m ?d ?l ?_; (case F => k_asm); (case N => k_asm); (case m => k_mem); (case d => assumption); (case l => assumption)); intro D' h' F' N' l1))
local macro_rules | `(tactic| walk_at "call type:list") => `(tactic| (refine Stop.mk ?_))
local macro_rules | `(tactic| walk_at "call ref") => `(tactic| ((with_reducible show wpAny _ _ (call (Value.ref _) (_ :: _)) _ _ _); refine Stop.mk ?_))
local macro_rules | `(tactic| walk_at "setItem ref str") => `(tactic| (refine Stop.mk ?_))
local macro_rules | `(tactic| walk_at "exec For Name Call cons nil") => `(tactic| (refine Stop1.mk ?_))
local macro_rules | `(tactic| walk_at "exec For") => `(tactic| (refine Stop1.mk ?_))
local macro_rules | `(tactic| walk_at "pyIter ref") => `(tactic| (refine Stop1.mk ?_))
set_option maxHeartbeats 8000000 in
theorem expire {w : World} {av : List Addr} {p : Program} {loose : List PySem.Str} {mean : ExcName → Option Value} {mg mb : PySem.Str → Option Value} {dp un : Nat} {gd : Option (List Code)} {cn : PySem.Str} {cs : Scope} {a : Addr} {ccd : Value} {cl : List (PySem.Str × Addr)} {outer : List Env} {A₀ : Around} {base h₀ : Heap} {L : Addr} {m : PySem.Str → Option Value} {news : List (Addr × Obj)} {s : Shared} {Q E : Value → Shared → Prop}
    {S : List (Addr × Obj)} {st std fn sg ex ev : Addr} {oex : Obj} {t1 t2 t3 t4 : Tok} {now : Int} {nn : Nat} {D : PySem.Str → List (Int × Int)}
    (B : Below A₀ base outer h₀) (F : Fr h₀ L s.heap m) (X : (HeapK w.params).In h₀) (N : News h₀ L s.heap news) (T : Top p loose mean mg mb h₀) (hk : cs.kind = .function)
    (hS : S ⊆ news) (hst : (st, instObj 597 std) ∈ S) (hstd : (std, storeD w fn sg ex ev t1 t2 t3 t4) ∈ S) (hfn : ∃ oc od fd sl, (fn, (⟨oc, od, .func fd, sl⟩ : Obj)) ∈ S) (hex : (ex, oex) ∈ S) (hexd : oex.IsDictOf (PySem.strKind PG w) []) (hexl : (ex == sysModules) = false)
    (CK : Call1 w p loose mean mg mb S fn 20 200 [] (fun r => ∃ t, r = .int now t)) (EV : EvAt w av ev news nn D) (hlo : (ev == sysModules) = false) (hav : ∀ a ∈ av, ∃ o, (a, o) ∈ S) (hnn : nn ≤ 900) (hSe : ∀ q ∈ S, q.1 ≠ ev) (hSt : ∀ q ∈ S, q.1 ≠ 494)
    (hDl : ∀ k, (D k).length ≤ 1000) (hord : ∀ k (i j : Nat) a c, i ≤ j → (D k)[i]? = some a → (D k)[j]? = some c → c.2 ≤ a.2)
    (tab : TabOk news 494 exPos exQual)
    (hdp : dp + 60 < recursionLimit) (hun : un + 700 < cLine)
    (ret : ∀ D' news' h' tk', Fr h₀ L h' m → News h₀ L h' news' → (∀ q ∈ news, q.1 ≠ ev → q.1 ≠ 494 → q ∈ news') → EvAt w av ev news' nn D' → Shrunk now D D' → TabOk news' 494 exPos exQual → Q .none { s with heap := h', toks := tk' }) :
    wpAny (model PG w) (ktrTop dp un gd cn cs L a ccd cl outer) (call (.ref 499) [.ref st]) Q E s := by
  obtain ⟨oc, od, fd, sl, hfn⟩ := hfn
  obtain ⟨oev, kvs, hev, hevd, hkn, havk, hall⟩ := EV.at'
  have hst' := hS hst
  have hstd' := hS hstd
  have hex' := hS hex
  have hfn' := hS hfn
  refine wpAny_call ?_
  k_dflt ktr_enter
  k_steps
  unfold Stop1
  (rename Fr _ _ _ _ => lF')
  (with_unfolding_all refine' For_invVF lF' ?k1 ?k2 ?_; (case k1 => exact rfl); (case k2 => exact rfl))
  k_steps
  unfold Stop
  k_dflt (refine list_keysA (by rfl) (by k_asm) (by k_asm) (by k_mem) (by k_mem) hevd (by omega) ?_)
  intro Bl cl0 h' tk' vs hvl hvk F' N'
  (try dsimp only)
  (try k_fold)
  k_steps
  unfold Stop1
  (rename Fr _ _ _ _ => lF2)
  (rename News _ _ _ _ => lN2)
  k_dflt (refine' iter_any (vs := vs) (nn := cl0) (fun i m' nx => SwpAt w av ev st Bl vs cl0 now nn D news m' nx) ?hh ?hlJ lF2 lN2 ?hj ?turn ?done; (case hh => exact rfl); (case hlJ => exact fun i m nx h => h.lst); (case hj => exact ⟨.head _, fun q hq _ _ => .tail _ (.tail _ hq), ⟨D, EV.mono fun _ z => .tail _ (.tail _ z), Shrunk.refl⟩, tab.cast (fun _ z => .tail _ (.tail _ z)) rfl, rfl⟩))
  case done =>
    intro m₁ news₁ hh tk hJ F1 N1
    obtain ⟨hlst, hkeep, ⟨D', EV', hshr⟩, htab, hself⟩ := hJ
    have em : m₁ = kstB m₁ [(PySem.Str.ofString "self", .ref st)] := funext fun z => (kstB_eq (by intro q hq; rw [List.mem_singleton.mp hq]; exact hself) (fun _ => rfl)).symm
    rw [em] at F1
    have hst1 := hkeep _ hst' (hSe _ hst) (hSt _ hst)
    have hstd1 := hkeep _ hstd' (hSe _ hstd) (hSt _ hstd)
    have hex1 := hkeep _ hex' (hSe _ hex) (hSt _ hex)
    clear hst' hstd' hex' hfn' hev hevd hkn havk hall
    k_steps
    unfold Stop1
    (rename Fr _ _ _ _ => lF6)
    (with_unfolding_all refine' For_invVF lF6 ?y1 ?y2 ?_; (case y1 => exact rfl); (case y2 => exact rfl))
    k_steps
    unfold Stop
    k_dflt (refine list_keysA (by rfl) (by k_asm) (by k_asm) (by k_mem) (by k_mem) hexd (by simp) ?_)
    intro B2 c2 h2 tk2 vs2 hvl2 _ F2 N2
    have e2 : vs2 = [] := List.eq_nil_of_length_eq_zero hvl2
    subst e2
    (try dsimp only)
    (try k_fold)
    k_steps
    unfold Stop1
    (rename Fr _ _ _ _ => lF7)
    (rename News _ _ _ _ => lN7)
    k_dflt (refine' iter_any (vs := []) (nn := c2) (fun i m' nx => (B2, listOf ([] : List Value).toArray c2) ∈ nx ∧ ∀ q ∈ news₁, q ∈ nx) ?z1 ?z2 lF7 lN7 ?z3 ?z4 ?z5; (case z1 => exact rfl); (case z2 => exact fun i m nx h => h.1); (case z3 => exact ⟨.head _, fun q hq => .tail _ (.tail _ hq)⟩); (case z4 => intro i v m₁ news₁ hh tk own hv; cases hv))
    intro m₂ nx2 h8 tk8 hJ2 F8 N8
    obtain ⟨hJ3, hJ4⟩ := hJ2
    k_steps
    exact ret D' nx2 _ _ (by k_asm) (by k_asm) (fun q hq h1 h2 => hJ4 _ (hkeep q hq h1 h2)) (EV'.mono hJ4) hshr (htab.cast hJ4 rfl)
  case turn =>
    intro i v m₁ news₁ hh tk own hv hoff hown hJ F1 N1
    obtain ⟨P0, oI, rfl, hcI, hdI⟩ := hown
    obtain ⟨kk, tkk, rfl⟩ := hvk i v hv
    obtain ⟨hlst, hkeep, ⟨D', EV', hshr⟩, htab, hself⟩ := hJ
    have em : (fun y => if y = PySem.Str.ofString "key" then some (Value.str kk tkk) else m₁ y) = kstB m₁ [(PySem.Str.ofString "key", .str kk tkk), (PySem.Str.ofString "self", .ref st)] := by
      funext y
      simp only [kstB]
      by_cases e : y = PySem.Str.ofString "key"
      · rw [if_pos e, if_pos e]
      · rw [if_neg e, if_neg e]
        by_cases e2 : y = PySem.Str.ofString "self"
        · rw [if_pos e2, e2, hself]
        · rw [if_neg e2]
    rw [em] at F1
    have up : ∀ q ∈ news₁, q ∈ news₁ ++ [(P0, oI)] := fun q hq => List.mem_append_left _ hq
    have EV1 := EV'.mono up
    have tab1 := htab.cast up rfl
    have hI1 : (P0, oI) ∈ news₁ ++ [(P0, oI)] := by simp
    have hlst1 := up _ hlst
    have hkeep1 : ∀ q ∈ news, q.1 ≠ ev → q.1 ≠ 494 → q ∈ news₁ ++ [(P0, oI)] ∧ q.1 ≠ P0 := fun q hq h1 h2 => ⟨up _ (hkeep q hq h1 h2), fun e => hoff (P0, oI) (List.mem_singleton.mpr rfl) q.1 (List.mem_map.mpr ⟨q, hkeep q hq h1 h2, rfl⟩) e.symm⟩
    clear hkeep EV' htab hlst hoff
    generalize news₁ ++ [(P0, oI)] = ns at N1 EV1 tab1 hI1 hlst1 hkeep1 up
    have hS1 : S ⊆ ns := fun q hq => (hkeep1 q (hS hq) (hSe q hq) (hSt q hq)).1
    have hst1 := hS1 hst
    have hstd1 := hS1 hstd
    have hfn1 := hS1 hfn
    clear hst' hstd' hex' hfn' hev hevd hkn havk hall
    obtain ⟨oev, kvs, hev, hevd, hkn, havk, hall⟩ := EV1.at'
    k_steps
    unfold Stop
    rcases hall kk with ⟨hk', hD0⟩ | ⟨b, vsb, cap, hk', hb, hE⟩
    · k_dflt (refine kdg_get2 (knd := PySem.strKind _ _) (by k_asm) (by k_mem) hevd hlo (strKind_is _ _ _ _) none hk' ?_)
      dsimp only [Option.getD]
      k_steps
      refine InvEndG.off (by k_asm) (by k_asm) (.tail _ hI1) (SwpAt.close (oI := oI) (by k_asm) (.tail _ hI1) hcI hdI (.tail _ hlst1) (fun q hq h1 h2 => ⟨.tail _ (hkeep1 q hq h1 h2).1, (hkeep1 q hq h1 h2).2⟩) (EV1.mono fun _ z => .tail _ z) hshr (tab1.cast (fun _ z => .tail _ z) rfl) rfl)
    · have hl : vsb.length ≤ 1000 := by have := hE.1; have := hDl kk; have := hshr.len kk; omega
      rcases vsb with _ | ⟨v0, vr⟩
      · k_dflt (refine kdg_get2 (knd := PySem.strKind _ _) (by k_asm) (by k_mem) hevd hlo (strKind_is _ _ _ _) (some (.ref b)) hk' ?_)
        dsimp only [Option.getD]
        k_steps
        refine InvEndG.off (by k_asm) (by k_asm) (.tail _ hI1) (SwpAt.close (oI := oI) (by k_asm) (.tail _ hI1) hcI hdI (.tail _ hlst1) (fun q hq h1 h2 => ⟨.tail _ (hkeep1 q hq h1 h2).1, (hkeep1 q hq h1 h2).2⟩) (EV1.mono fun _ z => .tail _ z) hshr (tab1.cast (fun _ z => .tail _ z) rfl) rfl)
      · k_dflt (refine kdg_get2 (knd := PySem.strKind _ _) (by k_asm) (by k_mem) hevd hlo (strKind_is _ _ _ _) (some (.ref b)) hk' ?_)
        dsimp only [Option.getD]
        k_steps
        · exact absurd ‹(v0 :: vr).isEmpty = true› (by simp)
        unfold Stop
        (rename News _ _ _ _ => lN3)
        have lN4 := lN3
        have tab2 := TabOk.more lN4 tab1
        have nP1 : P0 ≠ ev := fun e => ne_it lN4 (.tail _ hev) (.tail _ hI1) hcI (by rw [dict_cls hevd]; exact li_ne _ (by decide)) e.symm
        have nP2 : P0 ≠ 494 := ne_tab lN4 (.tail _ hI1) tab2 (by rw [hcI]; nofun)
        have nB1 : Bl ≠ ev := ne_cls lN4 (.tail _ hlst1) (.tail _ hev) (by rw [dict_cls hevd]; exact list_dict)
        have nB2 : Bl ≠ 494 := ne_tab lN4 (.tail _ hlst1) tab2 (by nofun)
        k_dflt (refine kla_eval rfl ?_)
        k_dflt (refine' lam_make (P := 494) (c := 498) ?F ?N ?T (tcodeE ?X) ?cd ?tab ?cl ?_; (case F => k_asm); (case N => k_asm); (case T => k_asm); (case X => k_asm); (case cd => rfl); (case cl => exact rfl))
        case tab => exact tab1.cast (fun _ z => .tail _ z) (by kernel_rfl)
        intro f c' ocl vsl tl ctv news' h' tk' F' N' hf hc' hd1 hd2 hkeep tab'
        (try dsimp only)
        (try k_fold)
        have hb' := hkeep _ (.tail _ hb) (ne_tab lN4 (.tail _ hb) tab2 (by nofun))
        have hE' := EntsAt.keep lN4 tab2 (hE.mono fun q hq _ => List.mem_cons_of_mem _ hq) hkeep
        have EV2 := (EV1.mono fun q hq => List.mem_cons_of_mem _ hq).keep lN4 tab2 hkeep
        k_steps
        unfold Stop
        have hEl : (D' kk).length = (v0 :: vr).length := hE'.1.symm
        k_dflt (refine bisect (S := news') (ks := (D' kk).map fun d => -d.2) (vs := v0 :: vr) (by k_asm) (by k_asm) (by k_asm) (by k_asm) (by k_asm) rfl hb' hf (by rw [List.length_map]; exact hEl) hl (fun _ z => z) ?hK ?hmono ?hdp ?hun ?_)
        case hdp => ktr_room
        case hun => ktr_units
        case hmono =>
          intro i j a c hij ha hc
          rw [List.getElem?_map, Option.map_eq_some_iff] at ha hc
          obtain ⟨a, ha, rfl⟩ := ha
          obtain ⟨c, hc, rfl⟩ := hc
          have := hord kk i j a c hij (hshr.at ha) (hshr.at hc)
          omega
        case hK =>
          intro i v kk2 hv hkk
          rw [List.getElem?_map, Option.map_eq_some_iff] at hkk
          obtain ⟨d, hd, rfl⟩ := hkk
          obtain ⟨y, yd, e1, e2, e3, e4, rfl, hy, hyd, _⟩ := hE'.2 i v d hv hd
          clear ret
          unfold Call1
          intro dp un gd cn cs a ccd cl outer A₀ base h₀ L m news s Q E B F X N T hk hS hdp hun ret
          have hy1 := hS hy
          have hy2 := hS hyd
          have hf1 := hS hf
          have hf2 := hS hc'
          refine wpAny_call ?_
          k_dflt kla_enter
          k_steps
          all_goals exact ret _ _ _ ⟨_, rfl⟩ (by k_asm) (by k_asm)
        intro r t h'' tk'' hr hlo1 hhi1 F'' N''
        (try dsimp only)
        (try k_fold)
        have hst2 := hkeep _ (.tail _ hst1) (ne_tab lN4 (.tail _ hst1) tab2 (by nofun))
        have hstd2 := hkeep _ (.tail _ hstd1) (ne_tab lN4 (.tail _ hstd1) tab2 (by nofun))
        obtain ⟨oev2, kvs2, hev2, hevd2, hkn2, havk2, hall2⟩ := EV2.at'
        obtain ⟨b2, vs2, cap2, hk2, hb2, hE2⟩ : ∃ b2 vs2 cap2, valueAt kvs2 kk = some (.ref b2) ∧ (b2, listOf vs2.toArray cap2) ∈ news' ∧ EntsAt w ev news' vs2 (D' kk) := by
          rcases hall2 kk with ⟨_, hD0⟩ | h
          · rw [hD0] at hEl; cases hEl
          · exact h
        k_steps
        unfold Stop
        k_dflt (refine ev_item (by k_asm) (by k_mem) hevd2 hk2 ?_)
        k_steps
        unfold Stop
        k_dflt (refine' slice_take ?xF ?xN hb2 ?xp ?xq ?_ ?xs (by have := hE2.1; omega); (case xF => k_asm); (case xN => k_asm); (case xp => kmk_part); (case xq => kmk_part); (case xs => with_unfolding_all rfl))
        intro Dn h3 F3 N3 l3
        have hDa : Dn ∉ av := fun ha => by
          obtain ⟨oa, hoa⟩ := hav _ ha
          exact absurd (l3 _ (hkeep _ (.tail _ (hS1 hoa)) (fun e => hSt _ hoa e))) (Nat.lt_irrefl _)
        have lN5 := N3
        have nD1 : Dn ≠ ev := ne_cls lN5 (.head _) (.tail _ hev2) (by rw [dict_cls hevd2]; exact list_dict)
        have nbs : ∀ b vs cap, (b, listOf (List.toArray vs) cap) ∈ news' → b ≠ ev := fun b vs cap hb => ne_cls lN5 (.tail _ hb) (.tail _ hev2) (by rw [dict_cls hevd2]; exact list_dict)
        have tab4 : ∀ news4 : List (Addr × Obj), (∀ q ∈ (Dn, listOf (List.take r vs2).toArray 0) :: news', q.1 ≠ ev → q ∈ news4) → TabOk news4 494 exPos exQual := fun news4 keep4 => (TabOk.more lN5 tab').evs lN5 (.tail _ hev2) hevd2 keep4
        (try dsimp only)
        (try k_fold)
        k_steps
        unfold Stop
        k_dflt (refine ev_put (by k_asm) (by k_asm) (by k_mem) hevd2 (by omega) ?_)
        intro o4 news4 h4 tk4 F4 N4 keep4 hev4 hd4
        (try dsimp only)
        (try k_fold)
        k_steps
        have up3 : ∀ q ∈ ns, q.1 ≠ ev → q.1 ≠ 494 → q ∈ news4 := fun q hq h1 h2 => keep4 q (.tail _ (hkeep _ (.tail _ hq) h2)) h1
        have hI4 : (P0, oI) ∈ news4 := up3 _ hI1 nP1 nP2
        have hl4 : (Bl, listOf vs.toArray cl0) ∈ news4 := up3 _ hlst1 nB1 nB2
        refine InvEndG.off (by k_asm) (by k_asm) hI4 (SwpAt.close (oI := oI) (by k_asm) hI4 hcI hdI hl4 (fun q hq h1 h2 => ⟨up3 q (hkeep1 q hq h1 h2).1 h1 h2, (hkeep1 q hq h1 h2).2⟩) (D' := fun k' => if k' = kk then (D' kk).take r else D' k') ?_ (hshr.cut ?_) ?_ rfl)
        · have hDn : (Dn, listOf (vs2.take r).toArray 0) ∈ news4 := keep4 _ (.head _) nD1
          refine ⟨o4, _, hev4, hd4, by rw [stored_same hk2]; exact hkn2, (fun k' b' e => by
            rw [va_stored] at e
            by_cases hk : k' = kk
            · rw [if_pos hk] at e; cases e; exact hDa
            · rw [if_neg hk] at e; exact havk2 k' b' e), fun k' => ?_⟩
          rw [va_stored]
          by_cases e : k' = kk
          · rw [if_pos e, if_pos e]
            exact .inr ⟨Dn, _, 0, rfl, hDn, (hE2.take r).mono fun q hq h1 => keep4 q (.tail _ hq) h1⟩
          · rw [if_neg e, if_neg e]
            rcases hall2 k' with h | ⟨b, vs, cap, e, hb, hE⟩
            · exact .inl h
            · exact .inr ⟨b, vs, cap, e, keep4 _ (.tail _ hb) (nbs _ _ _ hb), hE.mono fun q hq h1 => keep4 q (.tail _ hq) h1⟩
        · intro j d hj e
          have := hhi1 j (-d.2) hj (by rw [List.getElem?_map, e]; rfl)
          omega
        · exact tab4 _ keep4



end

section
theorem ne_dat {h₀ h : Heap} {L a b : Addr} {x y : Obj} {news : List (Addr × Obj)} (N : News h₀ L h news) (h1 : (a, x) ∈ news) (h2 : (b, y) ∈ news) (hd : x.data ≠ y.data) : a ≠ b := by
  intro e
  subst e
  have e1 := (N _ h1).1
  rw [(N _ h2).1] at e1
  cases e1
  exact hd rfl
/-- an object that the law itself changes: a cell, or a list that is none of the events' lists -/
def Chg (av : List Addr) (c : Addr) (o : Obj) : Prop := (∃ v, o.data = .cell v) ∨ ((∃ vs n, o = W.listOf vs n) ∧ c ∈ av)
theorem Chg.ne {h₀ h : Heap} {L a c : Addr} {x o : Obj} {av : List Addr} {news : List (Addr × Obj)} (C : Chg av c o) (N : News h₀ L h news) (h1 : (a, x) ∈ news) (h2 : (c, o) ∈ news) (hd : ∀ v, x.data ≠ .cell v) (hc : x.cls ≠ .type "list") : a ≠ c := by
  rcases C with ⟨v, e⟩ | ⟨⟨vs, n, rfl⟩, _⟩
  · exact ne_dat N h1 h2 (by rw [e]; exact hd v)
  · exact ne_cls N h1 h2 hc
theorem Chg.tab {h₀ h : Heap} {L c P : Addr} {o : Obj} {av : List Addr} {news : List (Addr × Obj)} {pos : Pos} {q : PySem.Str} (C : Chg av c o) (N : News h₀ L h news) (h2 : (c, o) ∈ news) (t : TabOk news P pos q) {news' : List (Addr × Obj)} (hk : ∀ x ∈ news, x.1 ≠ c → x ∈ news') : TabOk news' P pos q := by
  obtain ⟨ps, hp, h⟩ := t
  refine ⟨ps, hk _ hp (C.ne N hp h2 (by nofun) (by nofun)), ?_⟩
  rcases h with h | ⟨c', oc, vs, t, h1, h3, h4, h5, h6⟩
  · exact .inl h
  · refine .inr ⟨c', oc, vs, t, h1, hk _ h3 ?_, h4, h5, h6⟩
    rcases C with ⟨v, e⟩ | ⟨⟨us, n, rfl⟩, _⟩
    · exact ne_dat N h3 h2 (by rw [e, h5]; nofun)
    · exact ne_dat N h3 h2 (by rw [h5]; nofun)
theorem EvAt.chg {w : World} {av : List Addr} {ev c : Addr} {o : Obj} {h₀ h : Heap} {L : Addr} {n : Nat} {D : PySem.Str → List (Int × Int)} {news news' : List (Addr × Obj)} (V : EvAt w av ev news n D) (N : News h₀ L h news) (C : Chg av c o) (h2 : (c, o) ∈ news) (hk : ∀ x ∈ news, x.1 ≠ c → x ∈ news') : EvAt w av ev news' n D := by
  obtain ⟨oe, kvs, h1, hd, h3, hav, h4⟩ := V.at'
  have hcls := dict_cls hd
  refine ⟨oe, kvs, hk _ h1 (C.ne N h1 h2 (fun v => by obtain ⟨es, ep, _, x, _⟩ := hd; rw [x]; nofun) (by rw [hcls]; exact fun e => list_dict e.symm)), hd, h3, hav, fun k => ?_⟩
  rcases h4 k with h | ⟨b, vs, cap, e, hb, hE⟩
  · exact .inl h
  · refine .inr ⟨b, vs, cap, e, hk _ hb ?_, hE.1, fun i v d e1 e2 => ?_⟩
    · rcases C with ⟨v, e⟩ | ⟨_, hc⟩
      · exact ne_dat N hb h2 (by rw [e]; nofun)
      · exact fun q => hav k b e (by dsimp only at q; rw [q]; exact hc)
    · obtain ⟨x, xd, t1, t2, u1, u2, e, hx, hxd, n1⟩ := hE.2 i v d e1 e2
      exact ⟨x, xd, t1, t2, u1, u2, e, hk _ hx (C.ne N hx h2 (by nofun) (by nofun)), hk _ hxd (C.ne N hxd h2 (by nofun) (fun e => list_dict e.symm)), n1⟩
theorem RowsAt.chg {av : List Addr} {c : Addr} {o : Obj} {h₀ h : Heap} {L : Addr} {vs : List Value} {rows : List (Int × Int × Int)} {news news' : List (Addr × Obj)} (R : RowsAt news vs rows) (N : News h₀ L h news) (C : Chg av c o) (h2 : (c, o) ∈ news) (hk : ∀ x ∈ news, x.1 ≠ c → x ∈ news') : RowsAt news' vs rows :=
  ⟨R.1, fun i v r e1 e2 => by
    obtain ⟨x, a, b, c, e, hx⟩ := R.2 i v r e1 e2
    exact ⟨x, a, b, c, e, hk _ hx (C.ne N hx h2 (by nofun) (fun e => by injection e with e; exact absurd e (by decide)))⟩⟩
theorem RowsAt.evs {w : World} {ev : Addr} {o : Obj} {kvs : List (PySem.Str × Value)} {h₀ h : Heap} {L : Addr} {vs : List Value} {rows : List (Int × Int × Int)} {news news' : List (Addr × Obj)} (R : RowsAt news vs rows) (N : News h₀ L h news) (h2 : (ev, o) ∈ news) (hd : o.IsDictOf (PySem.strKind PG w) kvs) (hk : ∀ x ∈ news, x.1 ≠ ev → x ∈ news') : RowsAt news' vs rows :=
  ⟨R.1, fun i v r e1 e2 => by
    obtain ⟨x, a, b, c, e, hx⟩ := R.2 i v r e1 e2
    exact ⟨x, a, b, c, e, hk _ hx (ne_cls N hx h2 (by rw [dict_cls hd]; exact fun e => by injection e with e; exact absurd e (by decide)))⟩⟩
theorem RowsAt.tab {P : Addr} {pos : Pos} {q : PySem.Str} {h₀ h : Heap} {L : Addr} {vs : List Value} {rows : List (Int × Int × Int)} {news news' : List (Addr × Obj)} (R : RowsAt news vs rows) (N : News h₀ L h news) (t : TabOk news P pos q) (hk : ∀ x ∈ news, x.1 ≠ P → x ∈ news') : RowsAt news' vs rows :=
  ⟨R.1, fun i v r e1 e2 => by
    obtain ⟨x, a, b, c, e, hx⟩ := R.2 i v r e1 e2
    exact ⟨x, a, b, c, e, hk _ hx (ne_tab N hx t (by nofun))⟩⟩
theorem RowsAt.mono {vs : List Value} {rows : List (Int × Int × Int)} {news news' : List (Addr × Obj)} (R : RowsAt news vs rows) (hk : ∀ x ∈ news, x ∈ news') : RowsAt news' vs rows :=
  ⟨R.1, fun i v r e1 e2 => by
    obtain ⟨x, a, b, c, e, hx⟩ := R.2 i v r e1 e2
    exact ⟨x, a, b, c, e, hk _ hx⟩⟩
/-- one table of nested code and the other one: neither is part of the other -/
theorem TabOk.two {h₀ h : Heap} {L P R : Addr} {pos pos' : Pos} {q q' : PySem.Str} {news news' : List (Addr × Obj)} (t : TabOk news P pos q) (t' : TabOk news R pos' q') (N : News h₀ L h news) (hPR : P ≠ R) (hk : ∀ x ∈ news, x.1 ≠ R → x ∈ news') : TabOk news' P pos q := by
  obtain ⟨ps, hp, h⟩ := t
  refine ⟨ps, hk _ hp hPR, ?_⟩
  rcases h with h | ⟨c', oc, vs, t, h1, h3, h4, h5, h6⟩
  · exact .inl h
  · refine .inr ⟨c', oc, vs, t, h1, hk _ h3 (fun e => ?_), h4, h5, h6⟩
    obtain ⟨ps', hp', h'⟩ := t'
    dsimp only at e
    subst e
    have e1 := (N _ h3).1
    rw [(N _ hp').1] at e1
    cases e1
    cases h5
    rcases h' with rfl | ⟨c2, oc2, vs2, t2, rfl, _⟩
    · cases h6
    · cases h6
/-- the addresses that the law's loop changes, and those that it leaves -/
structure LawA where
  S : List (Addr × Obj)
  ev : Addr
  mo : Addr
  cw : Addr
  rl : Addr
def LawA.fixed (a : LawA) : List Addr := a.mo :: a.cw :: a.ev :: 546 :: 494 :: a.S.map (·.1)
structure LawA.Ok (a : LawA) : Prop where
  mo : ∀ q ∈ a.S, q.1 ≠ a.mo
  cw : ∀ q ∈ a.S, q.1 ≠ a.cw
  ev : ∀ q ∈ a.S, q.1 ≠ a.ev
  t1 : ∀ q ∈ a.S, q.1 ≠ 546
  t2 : ∀ q ∈ a.S, q.1 ≠ 494
/-- the ledger between two statements of the loop -/
structure Led (w : World) (a : LawA) (nx : List (Addr × Obj)) (now : Int) (kp : Addr) (vs : List Value) (cap : Nat) (kept : List (Int × Int × Int)) (n : Nat) (D : PySem.Str → List (Int × Int)) : Prop where
  s0 : ∀ q ∈ a.S, q ∈ nx
  mo : ∃ t, (a.mo, W.listOf #[.int now t] 0) ∈ nx
  cw : ∃ o v, (a.cw, o) ∈ nx ∧ o.data = .cell v
  kpm : (kp, W.listOf vs.toArray cap) ∈ nx
  nk : kp ∉ a.fixed
  rows : RowsAt nx vs kept
  evs : EvAt w [kp, a.mo] a.ev nx n D
  t1 : TabOk nx 546 mwPos mwQual
  t2 : TabOk nx 494 exPos exQual
section
variable {w : World} {a : LawA} {nx nx' : List (Addr × Obj)} {now : Int} {kp : Addr} {vs : List Value} {cap : Nat} {kept : List (Int × Int × Int)} {n : Nat} {D : PySem.Str → List (Int × Int)} {h₀ h : Heap} {L : Addr}
theorem Led.mono (l : Led w a nx now kp vs cap kept n D) (hk : ∀ x ∈ nx, x ∈ nx') : Led w a nx' now kp vs cap kept n D where
  s0 := fun q hq => hk _ (l.s0 q hq)
  mo := let ⟨t, h⟩ := l.mo; ⟨t, hk _ h⟩
  cw := let ⟨o, v, h, e⟩ := l.cw; ⟨o, v, hk _ h, e⟩
  kpm := hk _ l.kpm
  nk := l.nk
  rows := l.rows.mono hk
  evs := l.evs.mono hk
  t1 := l.t1.cast hk rfl
  t2 := l.t2.cast hk rfl
theorem fixed_s (hq : q ∈ a.S) : q.1 ∈ a.fixed := List.mem_cons_of_mem _ (List.mem_cons_of_mem _ (List.mem_cons_of_mem _ (List.mem_cons_of_mem _ (List.mem_cons_of_mem _ (List.mem_map_of_mem hq)))))
theorem Led.kmo (l : Led w a nx now kp vs cap kept n D) : kp ≠ a.mo := fun e => l.nk (e ▸ .head _)
theorem Led.kcw (l : Led w a nx now kp vs cap kept n D) : kp ≠ a.cw := fun e => l.nk (e ▸ .tail _ (.head _))
theorem Led.kev (l : Led w a nx now kp vs cap kept n D) : kp ≠ a.ev := fun e => l.nk (e ▸ .tail _ (.tail _ (.head _)))
theorem Led.kt1 (l : Led w a nx now kp vs cap kept n D) : kp ≠ 546 := fun e => l.nk (e ▸ .tail _ (.tail _ (.tail _ (.head _))))
theorem Led.kt2 (l : Led w a nx now kp vs cap kept n D) : kp ≠ 494 := fun e => l.nk (e ▸ .tail _ (.tail _ (.tail _ (.tail _ (.head _)))))
theorem Led.ks (l : Led w a nx now kp vs cap kept n D) : ∀ q ∈ a.S, q.1 ≠ kp := fun _ hq e => l.nk (e ▸ fixed_s hq)
theorem Led.mocw (l : Led w a nx now kp vs cap kept n D) (N : News h₀ L h nx) : a.mo ≠ a.cw := by
  obtain ⟨t, h1⟩ := l.mo
  obtain ⟨o, v, h2, e⟩ := l.cw
  exact ne_dat N h1 h2 (by rw [e]; nofun)
/-- a deed that changes the events' dict alone -/
theorem Led.ev' (l : Led w a nx now kp vs cap kept n D) (ok : a.Ok) (N : News h₀ L h nx) (hk : ∀ x ∈ nx, x.1 ≠ a.ev → x ∈ nx') {n' : Nat} {D' : PySem.Str → List (Int × Int)} (V : EvAt w [kp, a.mo] a.ev nx' n' D') : Led w a nx' now kp vs cap kept n' D' := by
  obtain ⟨oe, kvs, he, hd, _⟩ := l.evs.at'
  have hcls := dict_cls hd
  obtain ⟨t, h1⟩ := l.mo
  obtain ⟨o, v, h2, e⟩ := l.cw
  exact ⟨fun q hq => hk _ (l.s0 q hq) (ok.ev q hq), ⟨t, hk _ h1 (ne_cls N h1 he (by rw [hcls]; exact list_dict))⟩, ⟨o, v, hk _ h2 (ne_dat N h2 he (by obtain ⟨es, ep, _, x, _⟩ := hd; rw [e, x]; nofun)), e⟩, hk _ l.kpm l.kev, l.nk, l.rows.evs N he hd hk, V, l.t1.evs N he hd hk, l.t2.evs N he hd hk⟩
/-- a deed that makes the nested code of get_moving_window -/
theorem Led.tab1 (l : Led w a nx now kp vs cap kept n D) (ok : a.Ok) (N : News h₀ L h nx) (hk : ∀ x ∈ nx, x.1 ≠ 546 → x ∈ nx') (t : TabOk nx' 546 mwPos mwQual) : Led w a nx' now kp vs cap kept n D := by
  obtain ⟨t0, h1⟩ := l.mo
  obtain ⟨o, v, h2, e⟩ := l.cw
  exact ⟨fun q hq => hk _ (l.s0 q hq) (ok.t1 q hq), ⟨t0, hk _ h1 (ne_tab N h1 l.t1 (by nofun))⟩, ⟨o, v, hk _ h2 (by obtain ⟨ps, hp, _⟩ := l.t1; exact ne_dat N h2 hp (by rw [e]; nofun)), e⟩, hk _ l.kpm l.kt1, l.nk, l.rows.tab N l.t1 hk, l.evs.keep N l.t1 hk, t, l.t2.two l.t1 N (by decide) hk⟩
/-- the sweep -/
theorem Led.swp (l : Led w a nx now kp vs cap kept n D) (ok : a.Ok) (N : News h₀ L h nx) (hk : ∀ x ∈ nx, x.1 ≠ a.ev → x.1 ≠ 494 → x ∈ nx') {D' : PySem.Str → List (Int × Int)} (V : EvAt w [kp, a.mo] a.ev nx' n D') (t : TabOk nx' 494 exPos exQual) : Led w a nx' now kp vs cap kept n D' := by
  obtain ⟨oe, kvs, he, hd, _⟩ := l.evs.at'
  have hcls := dict_cls hd
  have hne : a.ev ≠ 494 := ne_tab N he l.t2 (by rw [hcls]; nofun)
  have l1 : Led w a (Mine.off 494 nx ++ [(494, tabObj #[])]) now kp vs cap kept n D := by
    have hk1 : ∀ x ∈ nx, x.1 ≠ 494 → x ∈ Mine.off 494 nx ++ [(494, tabObj #[])] := fun x hx hn => List.mem_append_left _ (mem_off hx hn)
    obtain ⟨t0, h1⟩ := l.mo
    obtain ⟨o, v, h2, e⟩ := l.cw
    exact ⟨fun q hq => hk1 _ (l.s0 q hq) (ok.t2 q hq), ⟨t0, hk1 _ h1 (ne_tab N h1 l.t2 (by nofun))⟩, ⟨o, v, hk1 _ h2 (by obtain ⟨ps, hp, _⟩ := l.t2; exact ne_dat N h2 hp (by rw [e]; nofun)), e⟩, hk1 _ l.kpm l.kt2, l.nk, l.rows.tab N l.t2 hk1, l.evs.keep N l.t2 hk1, l.t1.two l.t2 N (by decide) hk1, ⟨#[], List.mem_append_right _ (.head _), .inl rfl⟩⟩
  obtain ⟨t0, h1⟩ := l.mo
  obtain ⟨o, v, h2, e⟩ := l.cw
  have h1e := ne_cls N h1 he (by rw [hcls]; exact list_dict)
  have h2e := ne_dat N h2 he (by obtain ⟨es, ep, _, x, _⟩ := hd; rw [e, x]; nofun)
  refine ⟨fun q hq => hk _ (l.s0 q hq) (ok.ev q hq) (ok.t2 q hq), ⟨t0, hk _ h1 h1e (ne_tab N h1 l.t2 (by nofun))⟩, ⟨o, v, hk _ h2 h2e (by obtain ⟨ps, hp, _⟩ := l.t2; exact ne_dat N h2 hp (by rw [e]; nofun)), e⟩, hk _ l.kpm l.kev l.kt2, l.nk, ⟨l.rows.1, fun i v r e1 e2 => ?_⟩, V, ?_, t⟩
  · obtain ⟨x, b, c, d, e, hx⟩ := l.rows.2 i v r e1 e2
    exact ⟨x, b, c, d, e, hk _ hx (ne_cls N hx he (by rw [hcls]; exact fun e => by injection e with e; exact absurd e (by decide))) (ne_tab N hx l.t2 (by nofun))⟩
  · have q : TabOk (Mine.off 494 nx) 546 mwPos mwQual := l.t1.two l.t2 N (by decide) fun x hx hn => mem_off hx hn
    have N1 : News h₀ L h (Mine.off 494 nx) := fun x hx => N x (off_mem hx)
    exact q.evs N1 (mem_off he hne) hd fun x hx hn => hk _ (off_mem hx) hn (off_ne x hx)
/-- a store into a cell or into one of the law's own lists -/
theorem Led.clock (l : Led w a nx now kp vs cap kept n D) (ok : a.Ok) (N : News h₀ L h nx) {now' : Int} {t : Tok} (hk : ∀ x ∈ nx, x.1 ≠ a.mo → x ∈ nx') (hm : (a.mo, W.listOf #[.int now' t] 0) ∈ nx') : Led w a nx' now' kp vs cap kept n D := by
  obtain ⟨t0, h1⟩ := l.mo
  obtain ⟨o, v, h2, e⟩ := l.cw
  have C : Chg [kp, a.mo] a.mo (W.listOf #[.int now t0] 0) := .inr ⟨⟨_, _, rfl⟩, by simp⟩
  exact ⟨fun q hq => hk _ (l.s0 q hq) (ok.mo q hq), ⟨t, hm⟩, ⟨o, v, hk _ h2 (Ne.symm (l.mocw N)), e⟩, hk _ l.kpm l.kmo, l.nk, l.rows.chg N C h1 hk, l.evs.chg N C h1 hk, C.tab N h1 l.t1 hk, C.tab N h1 l.t2 hk⟩
theorem Led.who (l : Led w a nx now kp vs cap kept n D) (ok : a.Ok) (N : News h₀ L h nx) {o' : Obj} {v' : Option Value} (hk : ∀ x ∈ nx, x.1 ≠ a.cw → x ∈ nx') (hm : (a.cw, o') ∈ nx') (e' : o'.data = .cell v') : Led w a nx' now kp vs cap kept n D := by
  obtain ⟨t0, h1⟩ := l.mo
  obtain ⟨o, v, h2, e⟩ := l.cw
  have C : Chg [kp, a.mo] a.cw o := .inl ⟨v, e⟩
  exact ⟨fun q hq => hk _ (l.s0 q hq) (ok.cw q hq), ⟨t0, hk _ h1 (l.mocw N)⟩, ⟨o', v', hm, e'⟩, hk _ l.kpm l.kcw, l.nk, l.rows.chg N C h2 hk, l.evs.chg N C h2 hk, C.tab N h2 l.t1 hk, C.tab N h2 l.t2 hk⟩
theorem Led.app (l : Led w a nx now kp vs cap kept n D) (N : News h₀ L h nx) {x : Addr} {r : Int × Int × Int} {t1 t2 t3 : Tok} {c' : Nat} (hx : (x, ({ cls := .type "tuple", data := .seq #[.int r.1 t1, .int r.2.1 t2, .int r.2.2 t3] } : Obj)) ∈ nx) (hk2 : ∀ y ∈ nx, y.1 ≠ kp → y ∈ nx') (hm : (kp, W.listOf (vs ++ [Value.ref x]).toArray c') ∈ nx') : Led w a nx' now kp (vs ++ [Value.ref x]) c' (kept ++ [r]) n D := by
  obtain ⟨t0, h1⟩ := l.mo
  obtain ⟨o, v, h2, e⟩ := l.cw
  have C : Chg [kp, a.mo] kp (W.listOf vs.toArray cap) := .inr ⟨⟨_, _, rfl⟩, by simp⟩
  have hxk : x ≠ kp := C.ne N hx l.kpm (by nofun) (fun e => by injection e with e; exact absurd e (by decide))
  refine ⟨fun q hq => hk2 _ (l.s0 q hq) (l.ks q hq), ⟨t0, hk2 _ h1 (Ne.symm l.kmo)⟩, ⟨o, v, hk2 _ h2 (Ne.symm l.kcw), e⟩, hm, l.nk, ⟨by simp [l.rows.1], fun i v r' e1 e2 => ?_⟩, l.evs.chg N C l.kpm hk2, C.tab N l.kpm l.t1 hk2, C.tab N l.kpm l.t2 hk2⟩
  rw [List.getElem?_append] at e1 e2
  rw [← l.rows.1] at e2
  by_cases hi : i < vs.length
  · rw [if_pos hi] at e1 e2
    obtain ⟨y, b, c, d, e, hy⟩ := l.rows.2 i v r' e1 e2
    exact ⟨y, b, c, d, e, hk2 _ hy (C.ne N hy l.kpm (by nofun) (fun e => by injection e with e; exact absurd e (by decide)))⟩
  · rw [if_neg hi] at e1 e2
    rcases hj : i - vs.length with _ | j
    · rw [hj] at e1 e2
      cases e1; cases e2
      exact ⟨x, t1, t2, t3, rfl, hk2 _ hx hxk⟩
    · rw [hj] at e1; cases e1
/-- a new list of kept rows -/
theorem Led.new (l : Led w a nx now kp vs cap kept n D) {kp' : Addr} {vs' : List Value} {cap' : Nat} {kept' : List (Int × Int × Int)} (hlt : ∀ q ∈ nx, q.1 ≠ kp') (hk : ∀ x ∈ nx, x ∈ nx') (hm : (kp', W.listOf vs'.toArray cap') ∈ nx') (hr : RowsAt nx' vs' kept') : Led w a nx' now kp' vs' cap' kept' n D := by
  have l' := l.mono hk
  obtain ⟨t0, h1⟩ := l.mo
  obtain ⟨o, v, h2, e⟩ := l.cw
  obtain ⟨oe, kvs, he, hd, h3, hav, h4⟩ := l.evs.at'
  obtain ⟨oe', kvs', he', hd', h3', hav', h4'⟩ := l'.evs.at'
  obtain ⟨p1, q1, _⟩ := l.t1
  obtain ⟨p2, q2, _⟩ := l.t2
  refine ⟨l'.s0, l'.mo, l'.cw, hm, fun hf => ?_, hr, ⟨oe, kvs, hk _ he, hd, h3, fun k b e => ?_, fun k => ?_⟩, l'.t1, l'.t2⟩
  · rcases List.mem_cons.mp hf with rfl | hf
    · exact hlt _ h1 rfl
    rcases List.mem_cons.mp hf with rfl | hf
    · exact hlt _ h2 rfl
    rcases List.mem_cons.mp hf with rfl | hf
    · exact hlt _ he rfl
    rcases List.mem_cons.mp hf with rfl | hf
    · exact hlt _ q1 rfl
    rcases List.mem_cons.mp hf with rfl | hf
    · exact hlt _ q2 rfl
    obtain ⟨q, hq, e⟩ := List.mem_map.mp hf
    subst e
    exact hlt _ (l.s0 q hq) rfl
  · intro hb
    rcases List.mem_cons.mp hb with rfl | hb
    · rcases h4 k with ⟨h, _⟩ | ⟨b', vs, cap, e', hb', _⟩
      · rw [h] at e; cases e
      · rw [e'] at e
        cases e
        exact hlt _ hb' rfl
    · exact hav k b e (.tail _ hb)
  · rcases h4 k with h | ⟨b, vs, cap, e, hb, hE⟩
    · exact .inl h
    · exact .inr ⟨b, vs, cap, e, hk _ hb, hE.mono fun q hq _ => hk q hq⟩
end


end

section
local macro_rules | `(tactic| walk_at "call ref") => `(tactic| ((first | (with_reducible show wpAny _ _ (call (Value.ref 190) _) _ _ _) | (with_reducible show wpAny _ _ (call (Value.ref 199) _) _ _ _) | (with_reducible show wpAny _ _ (call (Value.ref 181) _) _ _ _) | (with_reducible show wpAny _ _ (call (Value.ref 158) _) _ _ _) | (with_reducible show wpAny _ _ (call (Value.ref 499) _) _ _ _) | (with_reducible show wpAny _ _ (call (Value.ref 611) _) _ _ _)); refine Stop.mk ?_))
local macro_rules | `(tactic| walk_at "subscriptTail") => `(tactic| (refine Stop.mk ?_))

section
theorem fill_JT1 : PySem.Challenge.rw_jb0022_01.prog = PySem.Challenge.rw_jb0022_01.prog ∧ HeapK = HeapK := by { k_fill; exact ⟨rfl, rfl⟩ }
def lawSt : Stmt := nth progB 26
def loopB : List Stmt := sBody (nth (sBody lawSt) 9)

theorem Call1.more {w : World} {p : Program} {loose : List PySem.Str} {mean : ExcName → Option Value} {mg mb : PySem.Str → Option Value} {S S' : List (Addr × Obj)} {fn : Addr} {dd uu : Nat} {args : List Value} {R : Value → Prop} (C : Call1 w p loose mean mg mb S fn dd uu args R) (h : S ⊆ S') : Call1 w p loose mean mg mb S' fn dd uu args R :=
  fun _ _ _ _ _ _ _ _ _ _ _ _ _ _ _ _ _ _ B F X N T hk hs hd hu ret => C _ _ _ _ _ _ _ _ _ _ _ _ _ _ _ _ _ _ B F X N T hk (fun q hq => hs (h hq)) hd hu ret
theorem eq_same {prog : Program} {w : World} {A : Around} {E : Value → Shared → Prop} {s : Shared} {a : Int} {t u : Tok} {Q : Value → Shared → Prop} (h : Q (.bool true) s) : wpAny (model prog w) A (compareOp .Eq (.int a t) (.int a u)) Q E s := eq_int (by rw [beq_self_eq_true]; exact h)
/-- what the frame of the law holds all through the loop -/
def psL (st lim am le its kp : Addr) : List (PySem.Str × Value) := [(PySem.Str.ofString "store", .ref st), (PySem.Str.ofString "limiter", .ref lim), (PySem.Str.ofString "amounts", .ref am), (PySem.Str.ofString "lengths", .ref le), (PySem.Str.ofString "items", .ref its), (PySem.Str.ofString "kept", .ref kp), (PySem.Str.ofString "right", .bool true)]
local macro_rules | `(tactic| walk_at "compareOp Eq int int") => `(tactic| (k_here; k_dflt (refine eq_same ?_)))
set_option maxHeartbeats 8000000 in
theorem law_tail {w : World} {av : List Addr} {p : Program} {loose : List PySem.Str} {mean : ExcName → Option Value} {mg mb : PySem.Str → Option Value} {dp un : Nat} {gd : Option (List Code)} {cn : PySem.Str} {cs : Scope} {fa : Addr} {ccd : Value} {cl : List (PySem.Str × Addr)} {A₀ : Around} {base h₀ : Heap} {L : Addr} {m : PySem.Str → Option Value} {news : List (Addr × Obj)} {s : Shared} {Q : Flow → Shared → Prop} {E : Value → Shared → Prop}
    {a : LawA} {st std fn sg ex lim limd am le its kp it d C nm : Addr} {tk1 tk2 tk3 tk4 t7 t8 t9 t10 t11 t12 t13 : Tok} {A M x : Int} {key : PySem.Str} {wh tot fst now : Int} {twh ttot tfst tA tL : Tok} {vs : List Value} {cap n i : Nat} {kept : List (Int × Int × Int)} {D : PySem.Str → List (Int × Int)} {who : Int} {amv lev : List Value} {amc lec : Nat} {P0 : Addr} {oI : Obj}
    (hcs : cs = sScope lawSt)
    (B : Below A₀ base [] h₀) (F : Fr h₀ L s.heap m) (X : (HeapK w.params).In h₀) (N : News h₀ L s.heap news) (T : Top p loose mean mg mb h₀) (hk : cs.kind = .function)
    (ok : a.Ok) (l : Led w a news now kp vs cap kept n D)
    (hm : ∀ p ∈ [(PySem.Str.ofString "store", Value.ref st), (PySem.Str.ofString "limiter", .ref lim), (PySem.Str.ofString "amounts", .ref am), (PySem.Str.ofString "lengths", .ref le), (PySem.Str.ofString "items", .ref its), (PySem.Str.ofString "kept", .ref kp), (PySem.Str.ofString "right", .bool true), (PySem.Str.ofString "item", .ref it), (PySem.Str.ofString "names", .ref nm), (PySem.Str.ofString "which", .int wh twh), (PySem.Str.ofString "total", .int tot ttot), (PySem.Str.ofString "first", .int fst tfst)], m p.1 = some p.2)
    (hst0 : (st, instObj 597 std) ∈ a.S) (hstd0 : (std, storeD w fn sg ex a.ev tk1 tk2 tk3 tk4) ∈ a.S) (hfn0 : ∃ oc od fd sl, (fn, (⟨oc, od, .func fd, sl⟩ : Obj)) ∈ a.S)
    (CK0 : ∀ now t, Call1 w p loose mean mg mb ((a.mo, W.listOf #[.int now t] 0) :: a.S) fn 20 200 [] (fun r => ∃ t, r = .int now t)) (hlo : (a.ev == sysModules) = false) (hn : n ≤ 900)
    (hl10 : (lim, instObj 202 limd) ∈ a.S) (hl20 : (limd, dictOf [⟨PyData.keyHash w.params (PySem.Str.ofString "storage"), .str (PySem.Str.ofString "storage") t7, .ref st⟩] 1) ∈ a.S)
    (hi10 : (it, instObj C d) ∈ a.S) (hi20 : (d, itemD w A M (.str (PySem.Str.ofString "LIMITER") t8) t9 t10 t11 t12 t13) ∈ a.S)
    (hc7 : findIn (HeapK w.params) (.ref C) (PySem.Str.ofString "amount") = some none) (hc8 : plainGet (HeapK w.params) C (PySem.Str.ofString "amount") = true) (hm1 : plainGet (HeapK w.params) C (PySem.Str.ofString "key_for") = true) (hm2 : plainGet (HeapK w.params) C (PySem.Str.ofString "get_expiry") = true) (hm3 : findIn (HeapK w.params) (.ref C) (PySem.Str.ofString "key_for") = some (some (.ref 364))) (hm4 : findIn (HeapK w.params) (.ref C) (PySem.Str.ofString "get_expiry") = some (some (.ref 357)))
    (hc11 : hasDictIn (HeapK w.params) C = true) (hc12 : isClsIn (HeapK w.params) C = true)
    (KF0 : Call1 w p loose mean mg mb a.S 364 20 200 [.ref it, .ref nm] (fun r => ∃ t, r = .str key t)) (GE0 : Call1 w p loose mean mg mb a.S 357 10 60 [.ref it] (fun r => ∃ t, r = .int x t))
    (hwh0 : 0 ≤ wh) (hwh1 : wh < 3) (ham0 : (am, W.listOf amv.toArray amc) ∈ a.S) (hamv : amv[wh.toNat]? = some (.int A tA)) (hle0 : (le, W.listOf lev.toArray lec) ∈ a.S) (hlev : lev[wh.toNat]? = some (.int x tL))
    (R : Rel now who x kept (D key)) (okr : RowsOk now kept) (hpw : kept.Pairwise (fun a b => a.2.1 ≤ b.2.1)) (hDl : (D key).length ≤ 1000) (htot : tot = (cnt who (now - x) kept).1) (hfst : 0 < tot → fst = (cnt who (now - x) kept).2) (hA0 : 0 ≤ A) (hA1 : A ≤ 10)
    (hdp : dp + 200 < recursionLimit) (hun : un + 2000 < cLine)
    (ret : ∀ m' nx h' tk', (∀ p ∈ psL st lim am le its kp, m' p.1 = some p.2) → Led w a nx now kp vs cap kept n D → Fr h₀ L h' m' → News h₀ L h' nx → Q .next { s with heap := h', toks := tk' }) :
    wpAny (model PG w) (ktrTop dp un gd cn cs L fa ccd cl []) (execs (loopB.drop 9) (envX cn cs L fa ccd cl)) Q E s := by
  have hfr : m = kstB m ([(PySem.Str.ofString "store", .ref st), (PySem.Str.ofString "limiter", .ref lim), (PySem.Str.ofString "amounts", .ref am), (PySem.Str.ofString "lengths", .ref le), (PySem.Str.ofString "items", .ref its), (PySem.Str.ofString "kept", .ref kp), (PySem.Str.ofString "right", .bool true), (PySem.Str.ofString "item", .ref it), (PySem.Str.ofString "names", .ref nm), (PySem.Str.ofString "which", .int wh twh), (PySem.Str.ofString "total", .int tot ttot), (PySem.Str.ofString "first", .int fst tfst)]) := funext fun z => (kstB_eq hm (fun _ => rfl)).symm
  rw [hfr] at F
  subst hcs
  have kT : ∀ nx, (∀ q ∈ news, q.1 ≠ 546 → q ∈ nx) → TabOk nx 546 mwPos mwQual → Led w a nx now kp vs cap kept n D := fun nx hk t => l.tab1 ok N hk t
  obtain ⟨tmo, hmo⟩ := l.mo
  have hmo6 : a.mo ≠ 546 := ne_tab N hmo l.t1 (by nofun)
  have hmoe : a.mo ≠ a.ev := by obtain ⟨oe, kvs, he, hd, _⟩ := l.evs.at'; exact ne_cls N hmo he (by rw [dict_cls hd]; exact list_dict)
  have hSe : ∀ q ∈ (kp, W.listOf vs.toArray cap) :: (a.mo, W.listOf #[.int now tmo] 0) :: a.S, q.1 ≠ a.ev := List.forall_mem_cons.mpr ⟨l.kev, List.forall_mem_cons.mpr ⟨hmoe, ok.ev⟩⟩
  have hSt : ∀ q ∈ (kp, W.listOf vs.toArray cap) :: (a.mo, W.listOf #[.int now tmo] 0) :: a.S, q.1 ≠ 546 := List.forall_mem_cons.mpr ⟨l.kt1, List.forall_mem_cons.mpr ⟨hmo6, ok.t1⟩⟩
  have hS : (kp, W.listOf vs.toArray cap) :: (a.mo, W.listOf #[.int now tmo] 0) :: a.S ⊆ news := fun q hq => by
    rcases List.mem_cons.mp hq with rfl | hq
    · exact l.kpm
    rcases List.mem_cons.mp hq with rfl | hq
    · exact hmo
    · exact l.s0 q hq
  generalize hSS : (kp, W.listOf vs.toArray cap) :: (a.mo, W.listOf #[.int now tmo] 0) :: a.S = S at hS hSe hSt
  have up : a.S ⊆ S := fun q hq => hSS ▸ .tail _ (.tail _ hq)
  have CK := (CK0 now tmo).more (S' := S) (fun q hq => hSS ▸ .tail _ hq)
  have KF := KF0.more up
  have GE := GE0.more up
  have hav : ∀ b ∈ [kp, a.mo], ∃ o, (b, o) ∈ S := by rw [← hSS]; exact List.forall_mem_cons.mpr ⟨⟨_, .head _⟩, List.forall_mem_cons.mpr ⟨⟨_, .tail _ (.head _)⟩, fun _ h => nomatch h⟩⟩
  have hst := up hst0
  have hstd := up hstd0
  have hfn : ∃ oc od fd sl, (fn, (⟨oc, od, .func fd, sl⟩ : Obj)) ∈ S := let ⟨oc, od, fd, sl, h⟩ := hfn0; ⟨oc, od, fd, sl, up h⟩
  have hl1 := up hl10
  have hl2 := up hl20
  have hi1 := up hi10
  have hi2 := up hi20
  have hsrt : ∀ (i j : Nat) a c, i ≤ j → (D key)[i]? = some a → (D key)[j]? = some c → c.1 ≤ a.1 := fun i j a c hij ha hc => (R.srt hpw hij ha hc).1
  conv => pattern (execs _ _); arg 1; whnf
  have ham := l.s0 _ ham0
  have hle := l.s0 _ hle0
  have hl1n := hS hl1
  have hl2n := hS hl2
  have EV := l.evs
  have tab := l.t1
  k_steps
  unfold Stop
  k_dflt (refine item_lst (by k_asm) ham hwh0 (by omega) hamv ?_)
  k_steps
  unfold Stop
  k_dflt (refine' lstats (A := A) (M := M) (key := key) (x := x) ?k1 ?k2 ?k3 ?k4 ?k5 ?kK hS hst hstd hfn CK EV hlo hav ?hn hSe hl1 hl2 hi1 hi2 hc7 hc8 hm1 hm2 hm3 hm4 hc11 hc12 KF GE hDl hsrt hSt tab ?hdp ?hun ?_; (case k1 => k_asm); (case k2 => k_asm); (case k3 => k_asm); (case k4 => k_asm); (case k5 => k_asm); (case kK => rfl); (case hn => omega))
  case hdp => ktr_room
  case hun => ktr_units
  intro r fs Dt dx ta tb news1 h1 tk1 hr hlo1 hhi1 hfs F1 N1 keep1 tab1 hDt hdx
  have l1 := kT _ keep1 tab1
  have nDt := ne_tab N1 hDt tab1 (by nofun)
  have ndx := ne_tab N1 hdx tab1 (by nofun)
  obtain ⟨hrt, hrf⟩ := R.count okr hr hlo1 hhi1
  rw [hrt, ← htot] at hDt
  have hfx : 0 < tot → fs = fst := fun h => by
    have h0 : 0 < r := by omega
    have e := List.getElem?_eq_getElem (show r - 1 < (D key).length by omega)
    rw [hfs _ h0 e, hrf _ h0 e, hfst h]
  have kT1 : ∀ nx, (∀ q ∈ news1, q.1 ≠ 546 → q ∈ nx) → TabOk nx 546 mwPos mwQual → Led w a nx now kp vs cap kept n D := fun nx hk t => l1.tab1 ok N1 hk t
  (try dsimp only)
  (try k_fold)
  have hS1 : S ⊆ news1 := fun q hq => keep1 q (hS hq) (hSt q hq)
  have hl1n1 := hS1 hl1
  have hl2n1 := hS1 hl2
  k_steps
  unfold Stop
  k_dflt (refine' ltest (A := A) (M := M) (key := key) (x := x) ?j1 ?j2 ?j3 ?j4 ?j5 ?jK hS1 hst hstd hfn CK l1.evs hlo hav ?tn hSe hl1 hl2 hi1 hi2 hc7 hc8 hm1 hm2 hm3 hm4 hc11 hc12 KF GE hDl hsrt hSt tab1 ?tdp ?tun ?_; (case j1 => k_asm); (case j2 => k_asm); (case j3 => k_asm); (case j4 => k_asm); (case j5 => k_asm); (case jK => rfl); (case tn => omega))
  case tdp => ktr_room
  case tun => ktr_units
  intro r2 news2 h2 tk2 hr2 hlo2 hhi2 F2 N2 keep2 tab2
  have l2 := kT1 _ keep2 tab2
  obtain ⟨hrt2, _⟩ := R.count okr hr2 hlo2 hhi2
  have e2 : decide ((r2 : Int) ≤ A - (A - tot + 1)) = false := by rw [decide_eq_false_iff_not]; omega
  rw [e2]
  have kT2 : ∀ nx, (∀ q ∈ news2, q.1 ≠ 546 → q ∈ nx) → TabOk nx 546 mwPos mwQual → Led w a nx now kp vs cap kept n D := fun nx hk t => l2.tab1 ok N2 hk t
  (try dsimp only)
  (try k_fold)
  have hS2 : S ⊆ news2 := fun q hq => keep2 q (hS1 hq) (hSt q hq)
  have hl1n2 := hS2 hl1
  have hl2n2 := hS2 hl2
  have hDt2 := keep2 _ hDt nDt
  have hdx2 := keep2 _ hdx ndx
  have hle2 := l2.s0 _ hle0
  k_steps
  rotate_left
  · unfold Stop
    rw [hfx (by omega)]
    k_dflt (refine item_lst (by k_asm) hle2 hwh0 (by omega) hlev ?_)
    k_steps
    (refine ret _ news2 _ _ ?_ l2 (by k_asm) (by k_asm)); exact (by unfold psL; exact List.forall_mem_cons.mpr ⟨by rfl, List.forall_mem_cons.mpr ⟨by rfl, List.forall_mem_cons.mpr ⟨by rfl, List.forall_mem_cons.mpr ⟨by rfl, List.forall_mem_cons.mpr ⟨by rfl, List.forall_mem_cons.mpr ⟨by rfl, List.forall_mem_cons.mpr ⟨by rfl, List.forall_mem_nil _⟩⟩⟩⟩⟩⟩⟩)
  · (refine ret _ news2 _ _ ?_ l2 (by k_asm) (by k_asm)); exact (by unfold psL; exact List.forall_mem_cons.mpr ⟨by rfl, List.forall_mem_cons.mpr ⟨by rfl, List.forall_mem_cons.mpr ⟨by rfl, List.forall_mem_cons.mpr ⟨by rfl, List.forall_mem_cons.mpr ⟨by rfl, List.forall_mem_cons.mpr ⟨by rfl, List.forall_mem_cons.mpr ⟨by rfl, List.forall_mem_nil _⟩⟩⟩⟩⟩⟩⟩)
  unfold Stop
  k_dflt (refine' ltest (A := A) (M := M) (key := key) (x := x) ?i1 ?i2 ?i3 ?i4 ?i5 ?iK hS2 hst hstd hfn CK l2.evs hlo hav ?sn hSe hl1 hl2 hi1 hi2 hc7 hc8 hm1 hm2 hm3 hm4 hc11 hc12 KF GE hDl hsrt hSt tab2 ?sdp ?sun ?_; (case i1 => k_asm); (case i2 => k_asm); (case i3 => k_asm); (case i4 => k_asm); (case i5 => k_asm); (case iK => rfl); (case sn => omega))
  case sdp => ktr_room
  case sun => ktr_units
  intro r3 news3 h3 tk3 hr3 hlo3 hhi3 F3 N3 keep3 tab3
  have l3 := kT2 _ keep3 tab3
  obtain ⟨hrt3, _⟩ := R.count okr hr3 hlo3 hhi3
  have e3 : decide ((r3 : Int) ≤ A - (A - tot)) = true := by rw [decide_eq_true_iff]; omega
  rw [e3]
  (try dsimp only)
  (try k_fold)
  have hDt3 := keep3 _ hDt2 nDt
  have hdx3 := keep3 _ hdx2 ndx
  have hle3 := l3.s0 _ hle0
  k_steps
  · unfold Stop
    rw [hfx (by omega)]
    k_dflt (refine item_lst (by k_asm) hle3 hwh0 (by omega) hlev ?_)
    k_steps
    (refine ret _ news3 _ _ ?_ l3 (by k_asm) (by k_asm)); exact (by unfold psL; exact List.forall_mem_cons.mpr ⟨by rfl, List.forall_mem_cons.mpr ⟨by rfl, List.forall_mem_cons.mpr ⟨by rfl, List.forall_mem_cons.mpr ⟨by rfl, List.forall_mem_cons.mpr ⟨by rfl, List.forall_mem_cons.mpr ⟨by rfl, List.forall_mem_cons.mpr ⟨by rfl, List.forall_mem_nil _⟩⟩⟩⟩⟩⟩⟩)
  · (refine ret _ news3 _ _ ?_ l3 (by k_asm) (by k_asm)); exact (by unfold psL; exact List.forall_mem_cons.mpr ⟨by rfl, List.forall_mem_cons.mpr ⟨by rfl, List.forall_mem_cons.mpr ⟨by rfl, List.forall_mem_cons.mpr ⟨by rfl, List.forall_mem_cons.mpr ⟨by rfl, List.forall_mem_cons.mpr ⟨by rfl, List.forall_mem_cons.mpr ⟨by rfl, List.forall_mem_nil _⟩⟩⟩⟩⟩⟩⟩)



end

section
theorem fill_JT2 : PySem.Challenge.rw_jb0022_01.prog = PySem.Challenge.rw_jb0022_01.prog ∧ HeapK = HeapK := by { k_fill; exact ⟨rfl, rfl⟩ }

section
variable {prog : Program} {w : World} {A : Around} {E : Value → Shared → Prop} {s : Shared} {h₀ : Heap} {L D : Addr} {m : PySem.Str → Option Value} {news : List (Addr × Obj)} {K : Frag}
theorem topTup_any {value slice : PySem.Expr} {c : Addr} {l : List Value} {nn : Nat} {dd : Option Addr} {sl : Array (Option Value)} {k : Int} {u : Tok} {Q : Value → Shared → Prop} (F : Fr h₀ L s.heap m) (X₀ : K.In h₀) (hl : K.lookup c = some ⟨.type "tuple", dd, .seq l.toArray nn, sl⟩)
    (h0 : 0 ≤ k) (hk : k < l.length) (hz : l.length ≤ 1000) (h : ∀ v, l[k.toNat]? = some v → Q v s)
    (hs : subscripted slice false (.ref c) (.int k u) = operate [.ref c, .int k u] (getItem (.ref c) (.int k u)) := by with_unfolding_all rfl) :
    wpAny (model prog w) A (subscriptTail value slice (.ref c) (.int k u)) Q E s := by
  have hlt : k.toNat < l.length := by omega
  have e : seqIndex? k l.length = some k.toNat := by rw [seqIndex_of h0 hk]
  exact topTup_K F X₀ hl (by omega) (by omega) e (List.getElem?_eq_getElem hlt) (h _ (List.getElem?_eq_getElem hlt)) hs
/-- the one int of a one-int list is stored -/
theorem set_one {x y : Int} {t u v : Tok} {Q : Unit → Shared → Prop} (F : Fr h₀ L s.heap m) (N : News h₀ L s.heap news) (hm : (D, W.listOf #[.int x t] 0) ∈ news)
    (h : ∀ news' h', Fr h₀ L h' m → News h₀ L h' news' → (∀ q ∈ news, q.1 ≠ D → q ∈ news') → (D, W.listOf #[.int y v] 0) ∈ news' → Q () { s with heap := h' }) :
    wpAny (model prog w) A (setItem (.ref D) (.int 0 u) (.int y v)) Q E s :=
  ksa_set (vs := [.int x t]) (ns := [x]) (n := 0) F (news_front N hm) (Upd.head off_ne) (.cons _ _ .nil) (by decide) (by simp) (by decide) fun h' F' N' _ _ _ => h _ h' F' N' (fun q hq hn => .tail _ (mem_off hq hn)) (.head _)
theorem store_cell {cn : PySem.Str} {cs : Scope} {a c : Addr} {ccd : Value} {cl : List (PySem.Str × Addr)} {x : PySem.Str} {v : Value} {v₀ : Option Value} {o : Obj} {Q : Unit → Shared → Prop} (F : Fr h₀ L s.heap m) (N : News h₀ L s.heap news) (hc : cl.lookup x = some c) (hm : (c, o) ∈ news) (hd : o.data = .cell v₀)
    (h : ∀ news' h' o', Fr h₀ L h' m → News h₀ L h' news' → (∀ q ∈ news, q.1 ≠ c → q ∈ news') → (c, o') ∈ news' → o'.data = .cell (some v) → Q () { s with heap := h' })
    (hk : cs.kind = .function) (hx : (envX cn cs L a ccd cl).kindOf x = some .cell) : wpAny (model prog w) A (storeName (envX cn cs L a ccd cl) x v) Q E s :=
  storeX_C F (news_front N hm) hc (UpdF.head off_ne) hd (fun h' o' F' N' hd' => h _ h' o' F' N' (fun q hq hn => .tail _ (mem_off hq hn)) (.head _) hd') hk hx
end

/-- what the walk asks of one item of the law: its objects, its class, its amount and window, and its keys for the callers -/
structure ItemR (w : World) (p : Program) (loose : List PySem.Str) (mean : ExcName → Option Value) (mg mb : PySem.Str → Option Value) (a : LawA) (amv lev nms : List Value) (AA XX : Nat → Int) (KK : Nat → PySem.Str) (i : Nat) (it d C : Addr) (M : Int) (t8 t9 t10 t11 t12 t13 tA tL : Tok) : Prop where
  amv : amv[i]? = some (.int (AA i) tA)
  lev : lev[i]? = some (.int (XX i) tL)
  i1 : (it, instObj C d) ∈ a.S
  i2 : (d, itemD w (AA i) M (.str (PySem.Str.ofString "LIMITER") t8) t9 t10 t11 t12 t13) ∈ a.S
  c7 : findIn (HeapK w.params) (.ref C) (PySem.Str.ofString "amount") = some none
  c8 : plainGet (HeapK w.params) C (PySem.Str.ofString "amount") = true
  m1 : plainGet (HeapK w.params) C (PySem.Str.ofString "key_for") = true
  m2 : plainGet (HeapK w.params) C (PySem.Str.ofString "get_expiry") = true
  m3 : findIn (HeapK w.params) (.ref C) (PySem.Str.ofString "key_for") = some (some (.ref 364))
  m4 : findIn (HeapK w.params) (.ref C) (PySem.Str.ofString "get_expiry") = some (some (.ref 357))
  c11 : hasDictIn (HeapK w.params) C = true
  c12 : isClsIn (HeapK w.params) C = true
  ge : Call1 w p loose mean mg mb a.S 357 10 60 [.ref it] (fun r => ∃ t, r = .int (XX i) t)
  kf : ∀ j nm, j < 3 → nms[j]? = some nm → ∃ c, nm = .ref c ∧ Call1 w p loose mean mg mb a.S 364 20 200 [.ref it, .ref c] (fun r => ∃ t, r = .str (KK (3 * j + i)) t)
  a0 : 1 ≤ AA i
  a1 : AA i ≤ 9
  x0 : 0 < XX i
def ItemAt (w : World) (p : Program) (loose : List PySem.Str) (mean : ExcName → Option Value) (mg mb : PySem.Str → Option Value) (a : LawA) (itv amv lev nms : List Value) (AA XX : Nat → Int) (KK : Nat → PySem.Str) (i : Nat) : Prop :=
  ∃ it d C M t8 t9 t10 t11 t12 t13 tA tL, itv[i]? = some (.ref it) ∧ ItemR w p loose mean mg mb a amv lev nms AA XX KK i it d C M t8 t9 t10 t11 t12 t13 tA tL
local macro_rules | `(tactic| walk_at "setItem ref int") => `(tactic| (refine Stop.mk ?_))
local macro_rules | `(tactic| walk_at "storeName") => `(tactic| ((with_reducible show wpAny _ _ (storeName _ (PySem.Str.ofString "who") _) _ _ _); refine Stop.mk ?_))
local macro_rules | `(tactic| walk_at "execs cons") => `(tactic| ((with_reducible show wpAny _ _ (execs [_, _, _, _, _, _] _) _ _ _); refine Stop.mk ?_))
set_option maxHeartbeats 8000000 in
theorem law_head {w : World} {p : Program} {loose : List PySem.Str} {mean : ExcName → Option Value} {mg mb : PySem.Str → Option Value} {dp un : Nat} {gd : Option (List Code)} {cn : PySem.Str} {cs : Scope} {fa : Addr} {ccd : Value} {cl : List (PySem.Str × Addr)} {A₀ : Around} {base h₀ : Heap} {L : Addr} {m : PySem.Str → Option Value} {news : List (Addr × Obj)} {s : Shared} {Q : Flow → Shared → Prop} {E : Value → Shared → Prop}
    {a : LawA} {st lim am le its kp cm : Addr} {now nv : Int} {tn : Tok} {vs : List Value} {cap n : Nat} {kept : List (Int × Int × Int)} {D : PySem.Str → List (Int × Int)} {ocm : Obj} {itv amv lev nms : List Value} {itc amc lec nnn : Nat} {ddn : Option Addr} {sln : Array (Option Value)} {AA XX : Nat → Int} {KK : Nat → PySem.Str}
    (hcs : cs = sScope lawSt) (hcl : cl = [(PySem.Str.ofString "moment", cm), (PySem.Str.ofString "who", a.cw)])
    (B : Below A₀ base [] h₀) (F : Fr h₀ L s.heap m) (X : (HeapK w.params).In h₀) (N : News h₀ L s.heap news) (T : Top p loose mean mg mb h₀) (hk : cs.kind = .function)
    (ok : a.Ok) (l : Led w a news now kp vs cap kept n D)
    (hm : ∀ p ∈ [(PySem.Str.ofString "n", Value.int nv tn), (PySem.Str.ofString "store", .ref st), (PySem.Str.ofString "limiter", .ref lim), (PySem.Str.ofString "amounts", .ref am), (PySem.Str.ofString "lengths", .ref le), (PySem.Str.ofString "items", .ref its), (PySem.Str.ofString "kept", .ref kp), (PySem.Str.ofString "right", .bool true)], m p.1 = some p.2) (hn0 : 0 ≤ nv)
    (hcm0 : (cm, ocm) ∈ a.S) (hcmd : ocm.data = .cell (some (.ref a.mo)))
    (hvl : vs.length ≤ 1000) (hnms : (HeapK w.params).lookup 604 = some ⟨.type "tuple", ddn, .seq nms.toArray nnn, sln⟩) (hnl : nms.length = 3) (hits0 : (its, W.listOf itv.toArray itc) ∈ a.S) (ham0 : (am, W.listOf amv.toArray amc) ∈ a.S) (hle0 : (le, W.listOf lev.toArray lec) ∈ a.S) (HI : ∀ i, i < 3 → ItemAt w p loose mean mg mb a itv amv lev nms AA XX KK i)
    (hdp : dp + 200 < recursionLimit) (hun : un + 2000 < cLine)
    (ret : ∀ (i j : Nat) (z deed cost : Int) it d C M c t8 t9 t10 t11 t12 t13 tA tL twh ttot tfst td tc tw ow m' nx h' tk', i < 3 → j < 3 → 0 ≤ z → 1 ≤ cost → cost ≤ 6 → ItemR w p loose mean mg mb a amv lev nms AA XX KK i it d C M t8 t9 t10 t11 t12 t13 tA tL →
      Call1 w p loose mean mg mb a.S 364 20 200 [.ref it, .ref c] (fun r => ∃ t, r = .str (KK (3 * j + i)) t) → (∀ p ∈ [(PySem.Str.ofString "item", Value.ref it), (PySem.Str.ofString "names", .ref c), (PySem.Str.ofString "which", .int ((i : Nat) : Int) twh), (PySem.Str.ofString "total", .int (cnt ((3 * j + i : Nat) : Int) (now + z - XX i) kept).1 ttot), (PySem.Str.ofString "first", .int (cnt ((3 * j + i : Nat) : Int) (now + z - XX i) kept).2 tfst), (PySem.Str.ofString "deed", .int deed td), (PySem.Str.ofString "cost", .int cost tc), (PySem.Str.ofString "store", .ref st), (PySem.Str.ofString "limiter", .ref lim), (PySem.Str.ofString "amounts", .ref am), (PySem.Str.ofString "lengths", .ref le), (PySem.Str.ofString "items", .ref its), (PySem.Str.ofString "kept", .ref kp), (PySem.Str.ofString "right", .bool true)], m' p.1 = some p.2) → Led w a nx (now + z) kp vs cap kept n D → (a.cw, ow) ∈ nx → ow.data = .cell (some (.int ((3 * j + i : Nat) : Int) tw)) →
      Fr h₀ L h' m' → News h₀ L h' nx → wpAny (model PG w) (ktrTop dp un gd cn cs L fa ccd cl []) (execs (loopB.drop 8) (envX cn cs L fa ccd cl)) Q E { s with heap := h', toks := tk' }) :
    wpAny (model PG w) (ktrTop dp un gd cn cs L fa ccd cl []) (execs loopB (envX cn cs L fa ccd cl)) Q E s := by
  have hfr : m = kstB m ([(PySem.Str.ofString "n", Value.int nv tn), (PySem.Str.ofString "store", .ref st), (PySem.Str.ofString "limiter", .ref lim), (PySem.Str.ofString "amounts", .ref am), (PySem.Str.ofString "lengths", .ref le), (PySem.Str.ofString "items", .ref its), (PySem.Str.ofString "kept", .ref kp), (PySem.Str.ofString "right", .bool true)]) := funext fun z => (kstB_eq hm (fun _ => rfl)).symm
  rw [hfr] at F
  subst hcs
  subst hcl
  conv => pattern (execs _ _); arg 1; whnf
  obtain ⟨tmo, hmo⟩ := l.mo
  obtain ⟨ow, vw, hcw, hcwd⟩ := l.cw
  have hcm := l.s0 _ hcm0
  have kC : ∀ {nx : List (Addr × Obj)} {now' : Int} {t' : Tok}, (∀ x ∈ news, x.1 ≠ a.mo → x ∈ nx) → (a.mo, W.listOf #[.int now' t'] 0) ∈ nx → Led w a nx now' kp vs cap kept n D := fun h1 h2 => l.clock ok N h1 h2
  k_steps
  unfold Stop
  k_dflt (refine item_lst (vs := [.int now tmo]) (by k_asm) hmo (by decide) (by decide) rfl ?_)
  k_steps
  unfold Stop
  have e8 : nv.fmod 8 = nv % 8 := Int.fmod_eq_emod_of_nonneg _ (by decide)
  k_dflt (refine' topTup_any (K := HeapK w.params) ?f1 ?x1 ?l1 ?a1 ?b1 ?c1 ?_; (case l1 => k_is); (case f1 => k_asm); (case x1 => k_asm); (case a1 => rw [e8]; omega); (case b1 => rw [e8]; simp only [List.length_cons, List.length_nil]; omega); (case c1 => decide))
  intro v hv
  obtain ⟨z, tz, rfl, hz⟩ : ∃ z t, v = .int z t ∧ 0 ≤ z := by
    have hv := List.mem_of_getElem? hv
    simp only [List.mem_cons, List.not_mem_nil, or_false] at hv
    rcases hv with rfl | rfl | rfl | rfl | rfl | rfl | rfl | rfl <;> exact ⟨_, _, rfl, by decide⟩
  clear hv
  k_steps
  unfold Stop
  k_dflt (refine set_one (by k_asm) (by k_asm) hmo ?_)
  intro nx1 h1 F1 N1 keep1 hmo1
  have l1 := kC keep1 hmo1
  obtain ⟨ow1, vw1, hcw1, hcwd1⟩ := l1.cw
  have hits1 := l1.s0 _ hits0
  have hcm1 := l1.s0 _ hcm0
  have kW : ∀ {nx : List (Addr × Obj)} {o' : Obj} {v' : Option Value}, (∀ x ∈ nx1, x.1 ≠ a.cw → x ∈ nx) → (a.cw, o') ∈ nx → o'.data = .cell v' → Led w a nx (now + z) kp vs cap kept n D := fun h1 h2 e => l1.who ok N1 h1 h2 e
  (try dsimp only)
  (try k_fold)
  k_steps
  unfold Stop
  k_dflt (refine' store_cell ?f2 ?n2 ?c2 hcw1 hcwd1 ?_ ?hk2 ?hx2; (case f2 => k_asm); (case n2 => k_asm); (case c2 => rfl); (case hk2 => rfl); (case hx2 => rfl))
  intro nx2 h2 ow2 F2 N2 keep2 hcw2 hwd2
  have l2 := kW keep2 hcw2 hwd2
  have hits2 := l2.s0 _ hits0
  have hcm2 := l2.s0 _ hcm0
  have hle2 := l2.s0 _ hle0
  (try dsimp only)
  (try k_fold)
  k_steps
  unfold Stop
  have f8 : nv.fdiv 8 = nv / 8 := Int.fdiv_eq_ediv_of_nonneg _ (by decide)
  have f3 : (nv.fdiv 8).fmod 3 = nv / 8 % 3 := by rw [f8]; exact Int.fmod_eq_emod_of_nonneg _ (by decide)
  have f9 : (nv.fdiv 8).fmod 9 = nv / 8 % 9 := by rw [f8]; exact Int.fmod_eq_emod_of_nonneg _ (by decide)
  have f93 : ((nv.fdiv 8).fmod 9).fdiv 3 = nv / 8 % 9 / 3 := by rw [f9]; exact Int.fdiv_eq_ediv_of_nonneg _ (by decide)
  obtain ⟨it, d, C, M, t8, t9, t10, t11, t12, t13, tA, tL, hitv, HR⟩ := HI ((nv.fdiv 8).fmod 3).toNat (by omega)
  have hw0 : 0 ≤ (nv.fdiv 8).fmod 3 := by omega
  have hw1 : (nv.fdiv 8).fmod 3 < 3 := by omega
  k_dflt (refine item_lst (by k_asm) hits2 hw0 (by omega) hitv ?_)
  k_steps
  unfold Stop
  have hj0 : 0 ≤ ((nv.fdiv 8).fmod 9).fdiv 3 := by omega
  have hj1 : ((nv.fdiv 8).fmod 9).fdiv 3 < 3 := by omega
  have hwho : (nv.fdiv 8).fmod 9 = ((3 * (((nv.fdiv 8).fmod 9).fdiv 3).toNat + ((nv.fdiv 8).fmod 3).toNat : Nat) : Int) := by omega
  k_dflt (refine' topTup_any ?f3 ?x3 hnms hj0 (by omega) (by omega) ?_; (case f3 => k_asm); (case x3 => k_asm))
  intro v hv
  obtain ⟨c, rfl, KF⟩ := HR.kf _ _ (by omega) hv
  k_steps
  unfold Stop
  have hmo2 := l2.mo
  obtain ⟨tm2, hmo2⟩ := hmo2
  k_dflt (refine item_lst (vs := [.int (now + z) tm2]) (by k_asm) hmo2 (by decide) (by decide) rfl ?_)
  k_steps
  unfold Stop
  k_dflt (refine item_lst (by k_asm) hle2 hw0 (by omega) HR.lev ?_)
  k_steps
  unfold Stop
  k_dflt (refine' counted ?k1 ?k2 ?k3 ?k4 ?k5 ?kK l2.kpm l2.rows hvl ?hdp ?hun ?_; (case k1 => k_asm); (case k2 => k_asm); (case k3 => k_asm); (case k4 => k_asm); (case k5 => k_asm); (case kK => rfl))
  case hdp => ktr_room
  case hun => ktr_units
  intro Dc ta tb h3 tk3 F3 N3
  (try dsimp only)
  (try k_fold)
  rw [hwho] at N3 hwd2
  have hi3 : ((nv.fdiv 8).fmod 3) = ((((nv.fdiv 8).fmod 3).toNat : Nat) : Int) := by omega
  have l3 := l2.mono (nx' := (Dc, ({ cls := .type "tuple", data := .seq #[.int (cnt ((3 * (((nv.fdiv 8).fmod 9).fdiv 3).toNat + ((nv.fdiv 8).fmod 3).toNat : Nat) : Int) (now + z - XX ((nv.fdiv 8).fmod 3).toNat) kept).1 ta, .int (cnt ((3 * (((nv.fdiv 8).fmod 9).fdiv 3).toNat + ((nv.fdiv 8).fmod 3).toNat : Nat) : Int) (now + z - XX ((nv.fdiv 8).fmod 3).toNat) kept).2 tb] } : Obj)) :: nx2) fun x hx => .tail _ hx
  have hcw3 : (a.cw, ow2) ∈ _ :: nx2 := .tail (Dc, ({ cls := .type "tuple", data := .seq #[.int (cnt ((3 * (((nv.fdiv 8).fmod 9).fdiv 3).toNat + ((nv.fdiv 8).fmod 3).toNat : Nat) : Int) (now + z - XX ((nv.fdiv 8).fmod 3).toNat) kept).1 ta, .int (cnt ((3 * (((nv.fdiv 8).fmod 9).fdiv 3).toNat + ((nv.fdiv 8).fmod 3).toNat : Nat) : Int) (now + z - XX ((nv.fdiv 8).fmod 3).toNat) kept).2 tb] } : Obj)) hcw2
  k_steps
  unfold Stop
  have fc : (nv.fdiv 576).fmod 6 = nv / 576 % 6 := by rw [Int.fdiv_eq_ediv_of_nonneg _ (by decide : (0:Int) ≤ 576)]; exact Int.fmod_eq_emod_of_nonneg _ (by decide)
  refine' ret ((nv.fdiv 8).fmod 3).toNat (((nv.fdiv 8).fmod 9).fdiv 3).toNat z ((nv.fdiv 72).fmod 8) (1 + (nv.fdiv 576).fmod 6) it d C M c _ _ _ _ _ _ _ _ _ _ _ _ _ _ ow2 _ _ _ _ (by omega) (by omega) hz (by omega) (by omega) HR KF ?fm l3 hcw3 hwd2 (by k_asm) (by k_asm)
  case fm => exact List.forall_mem_cons.mpr ⟨by first | rfl | (rw [← hi3]; rfl), List.forall_mem_cons.mpr ⟨by first | rfl | (rw [← hi3]; rfl), List.forall_mem_cons.mpr ⟨by first | rfl | (rw [← hi3]; rfl), List.forall_mem_cons.mpr ⟨by first | rfl | (rw [← hi3]; rfl), List.forall_mem_cons.mpr ⟨by first | rfl | (rw [← hi3]; rfl), List.forall_mem_cons.mpr ⟨by first | rfl | (rw [← hi3]; rfl), List.forall_mem_cons.mpr ⟨by first | rfl | (rw [← hi3]; rfl), List.forall_mem_cons.mpr ⟨by first | rfl | (rw [← hi3]; rfl), List.forall_mem_cons.mpr ⟨by first | rfl | (rw [← hi3]; rfl), List.forall_mem_cons.mpr ⟨by first | rfl | (rw [← hi3]; rfl), List.forall_mem_cons.mpr ⟨by first | rfl | (rw [← hi3]; rfl), List.forall_mem_cons.mpr ⟨by first | rfl | (rw [← hi3]; rfl), List.forall_mem_cons.mpr ⟨by first | rfl | (rw [← hi3]; rfl), List.forall_mem_cons.mpr ⟨by first | rfl | (rw [← hi3]; rfl), List.forall_mem_nil _⟩⟩⟩⟩⟩⟩⟩⟩⟩⟩⟩⟩⟩⟩



end

section
theorem fill_JT4 : PySem.Challenge.rw_jb0022_01.prog = PySem.Challenge.rw_jb0022_01.prog ∧ HeapK = HeapK := by { k_fill; exact ⟨rfl, rfl⟩ }

namespace LCx
open LCt LCg
section
variable {prog : Program} {w : World} {A : Around} {E : Value → Shared → Prop} {s : Shared} {h₀ : Heap} {L : Addr} {m : PySem.Str → Option Value} {env : Env} {ct elt : PySem.Expr} {x : PySem.Str} {scope : Scope} {cl : List (PySem.Str × Addr)} {S : List (Addr × Obj) → Prop} {P : Nat → Value → Prop} {Fin : List Value → List (Addr × Obj) → Prop}
/-- a comprehension with a test, over any number of turns, the ledger unchanged -/
theorem rest_ind {n : Nat} {news : List (Addr × Obj)} (Inv : Nat → List Value → Prop) (h0 : Inv 0 []) (hfin : ∀ ys, Inv n ys → Fin ys news)
    (step : ∀ i ys (RestY : List Value → List (Addr × Obj) → Prop), i < n → Inv i ys → (∀ ys', Inv (i + 1) ys' → RestY ys' news) → ∀ v I oI C oC D m₂ h tk (E' : Value → Shared → Prop), P i v → NsObj oC m₂ → m₂ x = some v → Fr h₀ L h m → News h₀ L h ((I, oI) :: (C, oC) :: (D, lst ys) :: news) → Off3 I C D news →
      wpAny (model prog w) A (isTrue ct (compEnvC scope cl C env) (eval ct (compEnvC scope cl C env))) (fun ok s' => if ok = true then
        wpAny (model prog w) A (eval elt (compEnvC scope cl C env)) (CompEnd h₀ L m { s with heap := h, toks := tk } I oI C oC D (lst ys) S (fun y news' => RestY (ys ++ [y]) news')) E' s'
        else CompEnd h₀ L m { s with heap := h, toks := tk } I oI C oC D (lst ys) S (fun _ news' => RestY ys news') Value.none s') E' { s with heap := h, toks := tk }) :
    CompRestT prog w A h₀ L m env ct elt x scope cl s S P Fin n 0 [] news := by
  have key : ∀ k i ys, i + k = n → Inv i ys → CompRestT prog w A h₀ L m env ct elt x scope cl s S P Fin k i ys news := by
    intro k
    induction k with
    | zero => intro i ys e hi; rw [Nat.add_zero] at e; exact CompRestT.zero (hfin ys (e ▸ hi))
    | succ k ih =>
      intro i ys e hi
      refine CompRestT.succ fun v I oI C oC D m₂ h tk E' hv hC hx F N off _ => ?_
      exact step i ys (fun ys' news' => CompRestT prog w A h₀ L m env ct elt x scope cl s S P Fin k (i + 1) ys' news') (by omega) hi (fun ys' hy => ih (i + 1) ys' (by omega) hy) v I oI C oC D m₂ h tk E' hv hC hx F N off
  exact key n 0 [] (by omega) h0
theorem Off1.mem {D : Addr} : ∀ {l : List (Addr × Obj)}, Off1 D l → ∀ p ∈ l, p.1 ≠ D
  | [], _, _, h => nomatch h
  | _ :: _, x, p, h => by
    rcases List.mem_cons.mp h with rfl | h
    · exact x.1
    · exact Off1.mem x.2 p h
end
end LCx
/-- what holds of the law's rows and of the store's entries between two turns -/
structure PInv (XX : Nat → Int) (KK : Nat → PySem.Str) (now : Int) (kept : List (Int × Int × Int)) (D : PySem.Str → List (Int × Int)) : Prop where
  ok : RowsOk now kept
  pw : kept.Pairwise fun a b => a.2.1 ≤ b.2.1
  rel : ∀ who : Nat, who < 9 → Rel now who (XX (who % 3)) kept (D (KK who))
  oth : ∀ k, (∀ who : Nat, who < 9 → k ≠ KK who) → D k = []
theorem PInv.len {XX : Nat → Int} {KK : Nat → PySem.Str} {now : Int} {kept : List (Int × Int × Int)} {D : PySem.Str → List (Int × Int)} (P : PInv XX KK now kept D) (k : PySem.Str) : (D k).length ≤ 10 * kept.length := by
  by_cases h : ∃ who : Nat, who < 9 ∧ k = KK who
  · obtain ⟨who, h1, rfl⟩ := h
    exact (P.rel who h1).len P.ok
  · rw [P.oth k fun who h1 h2 => h ⟨who, h1, h2⟩]; exact Nat.zero_le _
theorem PInv.srt {XX : Nat → Int} {KK : Nat → PySem.Str} {now : Int} {kept : List (Int × Int × Int)} {D : PySem.Str → List (Int × Int)} (P : PInv XX KK now kept D) (k : PySem.Str) (i j : Nat) (a c : Int × Int) (hij : i ≤ j) (ha : (D k)[i]? = some a) (hc : (D k)[j]? = some c) : c.2 ≤ a.2 := by
  by_cases h : ∃ who : Nat, who < 9 ∧ k = KK who
  · obtain ⟨who, h1, rfl⟩ := h
    exact ((P.rel who h1).srt P.pw hij ha hc).2
  · rw [P.oth k fun who h1 h2 => h ⟨who, h1, h2⟩] at ha; simp at ha
theorem PInv.later {XX : Nat → Int} {KK : Nat → PySem.Str} {now now' : Int} {kept : List (Int × Int × Int)} {D : PySem.Str → List (Int × Int)} (P : PInv XX KK now kept D) (h : now ≤ now') : PInv XX KK now' kept D :=
  ⟨fun r hr => ⟨(P.ok r hr).1, (P.ok r hr).2.1, Int.le_trans (P.ok r hr).2.2 h⟩, P.pw, fun who hw => (P.rel who hw).later h, P.oth⟩
theorem PInv.swp {XX : Nat → Int} {KK : Nat → PySem.Str} {now : Int} {kept : List (Int × Int × Int)} {D D' : PySem.Str → List (Int × Int)} (P : PInv XX KK now kept D) (h : Shrunk now D D') : PInv XX KK now kept D' :=
  ⟨P.ok, P.pw, fun who hw => by obtain ⟨r, e, hr⟩ := h (KK who); exact (P.rel who hw).cut e hr, fun k hk => by
    obtain ⟨r, e, _⟩ := h k
    rw [P.oth k hk] at e
    exact (List.append_eq_nil_iff.mp e.symm).1⟩
theorem PInv.clear {XX : Nat → Int} {KK : Nat → PySem.Str} {now : Int} {kept : List (Int × Int × Int)} {D : PySem.Str → List (Int × Int)} (P : PInv XX KK now kept D) (hK : ∀ i j : Nat, i < 9 → j < 9 → KK i = KK j → i = j) {who : Nat} (hw : who < 9) :
    PInv XX KK now (kept.filter fun r => decide (r.1 ≠ (who : Int))) (fun k => if k = KK who then [] else D k) :=
  ⟨fun r hr => P.ok r (List.mem_filter.mp hr).1, P.pw.filter _, fun who' hw' => by
    by_cases e : who' = who
    · subst e; simp only [if_true]; exact Rel.gone
    · rw [if_neg (fun q => e (hK _ _ hw' hw q))]
      exact (P.rel who' hw').left (by omega), fun k hk => by rw [if_neg (hk who hw)]; exact P.oth k hk⟩
theorem PInv.hit {XX : Nat → Int} {KK : Nat → PySem.Str} {now am : Int} {kept : List (Int × Int × Int)} {D : PySem.Str → List (Int × Int)} (P : PInv XX KK now kept D) (hK : ∀ i j : Nat, i < 9 → j < 9 → KK i = KK j → i = j) {who : Nat} (hw : who < 9) (ha0 : 1 ≤ am) (ha1 : am ≤ 10) :
    PInv XX KK now (kept ++ [((who : Int), now, am)]) (fun k => if k = KK who then List.replicate am.toNat (now, now + XX (who % 3)) ++ D (KK who) else D k) :=
  ⟨fun r hr => by
    rcases List.mem_append.mp hr with hr | hr
    · exact P.ok r hr
    · rw [List.mem_singleton.mp hr]; exact ⟨ha0, ha1, Int.le_refl _⟩,
   List.pairwise_append.mpr ⟨P.pw, List.pairwise_singleton _ _, fun a ha b hb => by rw [List.mem_singleton.mp hb]; exact (P.ok a ha).2.2⟩, fun who' hw' => by
    by_cases e : who' = who
    · subst e; simp only [if_true]; exact (P.rel who' hw').more
    · rw [if_neg (fun q => e (hK _ _ hw' hw q))]
      exact (P.rel who' hw').other (by omega), fun k hk => by rw [if_neg (hk who hw)]; exact P.oth k hk⟩

def sElse : Stmt → List Stmt
  | .If _ _ e _ => e
  | _ => []
def elseB : List Stmt := sElse (nth (sElse (nth loopB 8)) 0)
theorem eq_sameB {prog : Program} {w : World} {A : Around} {E : Value → Shared → Prop} {s : Shared} {a : Bool} {Q : Value → Shared → Prop} (h : Q (.bool true) s) : wpAny (model prog w) A (compareOp .Eq (.bool a) (.bool a)) Q E s := by
  exact eq_bool (by rw [beq_self_eq_true]; exact h)

theorem app_ledger {w : World} {a : LawA} {nx nx' : List (Addr × Obj)} {now : Int} {kp : Addr} {vs : List Value} {cap : Nat} {kept : List (Int × Int × Int)} {n : Nat} {D : PySem.Str → List (Int × Int)} {h₀ h : Heap} {L x : Addr} {r1 r2 r3 : Int} {t1 t2 t3 : Tok} {c' : Nat} (l : Led w a nx now kp vs cap kept n D)
    (N : News h₀ L h ((x, ({ cls := .type "tuple", data := .seq #[.int r1 t1, .int r2 t2, .int r3 t3] } : Obj)) :: nx)) (hk : ∀ y ∈ (x, ({ cls := .type "tuple", data := .seq #[.int r1 t1, .int r2 t2, .int r3 t3] } : Obj)) :: nx, y.1 ≠ kp → y ∈ nx') (hm : (kp, W.listOf (vs ++ [Value.ref x]).toArray c') ∈ nx') : Led w a nx' now kp (vs ++ [Value.ref x]) c' (kept ++ [(r1, r2, r3)]) n D :=
  (l.mono fun y hy => List.mem_cons_of_mem _ hy).app N (r := (r1, r2, r3)) (.head _) hk hm
section
variable {prog : Program} {w : World} {A : Around} {E : Value → Shared → Prop} {s : Shared} {h₀ : Heap} {L D : Addr} {m : PySem.Str → Option Value} {news : List (Addr × Obj)}
theorem app_lst {vs : List Value} {n : Nat} {x : Value} {Q : Value → Shared → Prop} (F : Fr h₀ L s.heap m) (N : News h₀ L s.heap news) (hm : (D, W.listOf vs.toArray n) ∈ news) (hz : vs.length ≤ 1000)
    (h : ∀ news' h', Fr h₀ L h' m → News h₀ L h' news' → (∀ q ∈ news, q.1 ≠ D → q ∈ news') → (D, W.listOf (vs ++ [x]).toArray (n + 1)) ∈ news' → Q .none { s with heap := h' }) : wpAny (model prog w) A (call (.builtin "list.append") [.ref D, x]) Q E s :=
  append_K F (news_front N hm) (Upd.head off_ne) (fun h' F' N' => h _ h' F' N' (fun q hq hn => .tail _ (mem_off hq hn)) (by rw [List.push_toArray]; exact .head _)) (by rw [List.size_toArray, sizeLine_eq]; omega)
end
local macro_rules | `(tactic| walk_at "compareOp Eq bool bool") => `(tactic| (k_here; k_dflt (refine eq_sameB ?_)))
local macro_rules | `(tactic| walk_at "call builtin:list.append") => `(tactic| (refine Stop.mk ?_))
set_option maxHeartbeats 8000000 in
theorem law_hit {w : World} {p : Program} {loose : List PySem.Str} {mean : ExcName → Option Value} {mg mb : PySem.Str → Option Value} {dp un : Nat} {gd : Option (List Code)} {cn : PySem.Str} {cs : Scope} {fa : Addr} {ccd : Value} {cl : List (PySem.Str × Addr)} {A₀ : Around} {base h₀ : Heap} {L : Addr} {m : PySem.Str → Option Value} {news : List (Addr × Obj)} {s : Shared} {Q : Flow → Shared → Prop} {E : Value → Shared → Prop}
    {a : LawA} {st std fn sg ex lim limd am le its kp cm it d C nm : Addr} {now cost M : Int} {tk1 tk2 tk3 tk4 t7 t8 t9 t10 t11 t12 t13 tA tL twh ttot tfst tc tw : Tok} {vs : List Value} {cap n i j : Nat} {kept : List (Int × Int × Int)} {D : PySem.Str → List (Int × Int)} {ocm ow : Obj} {amv lev nms : List Value} {amc lec : Nat} {AA XX : Nat → Int} {KK : Nat → PySem.Str}
    (hcs : cs = sScope lawSt) (hcl : cl = [(PySem.Str.ofString "moment", cm), (PySem.Str.ofString "who", a.cw)])
    (B : Below A₀ base [] h₀) (F : Fr h₀ L s.heap m) (X : (HeapK w.params).In h₀) (N : News h₀ L s.heap news) (T : Top p loose mean mg mb h₀) (hk : cs.kind = .function)
    (ok : a.Ok) (l : Led w a news now kp vs cap kept n D)
    (hm : ∀ p ∈ [(PySem.Str.ofString "store", Value.ref st), (PySem.Str.ofString "limiter", .ref lim), (PySem.Str.ofString "amounts", .ref am), (PySem.Str.ofString "lengths", .ref le), (PySem.Str.ofString "items", .ref its), (PySem.Str.ofString "kept", .ref kp), (PySem.Str.ofString "right", .bool true), (PySem.Str.ofString "item", .ref it), (PySem.Str.ofString "names", .ref nm), (PySem.Str.ofString "which", .int ((i : Nat) : Int) twh), (PySem.Str.ofString "total", .int (cnt ((3 * j + i : Nat) : Int) (now - XX i) kept).1 ttot), (PySem.Str.ofString "first", .int (cnt ((3 * j + i : Nat) : Int) (now - XX i) kept).2 tfst), (PySem.Str.ofString "cost", .int cost tc)], m p.1 = some p.2) (hi3 : i < 3) (hj3 : j < 3) (hc0 : 1 ≤ cost) (hc1 : cost ≤ 10)
    (HR : ItemR w p loose mean mg mb a amv lev nms AA XX KK i it d C M t8 t9 t10 t11 t12 t13 tA tL) (KF0 : Call1 w p loose mean mg mb a.S 364 20 200 [.ref it, .ref nm] (fun r => ∃ t, r = .str (KK (3 * j + i)) t))
    (hcw : (a.cw, ow) ∈ news) (hcwd : ow.data = .cell (some (.int ((3 * j + i : Nat) : Int) tw))) (P : PInv XX KK now kept D) (hK : ∀ i j : Nat, i < 9 → j < 9 → KK i = KK j → i = j) (hkl : kept.length ≤ 50) (hn : n ≤ 200)
    (hcm0 : (cm, ocm) ∈ a.S) (hcmd : ocm.data = .cell (some (.ref a.mo)))
    (hst0 : (st, instObj 597 std) ∈ a.S) (hstd0 : (std, storeD w fn sg ex a.ev tk1 tk2 tk3 tk4) ∈ a.S) (hfn0 : ∃ oc od fd sl, (fn, (⟨oc, od, .func fd, sl⟩ : Obj)) ∈ a.S)
    (CK0 : ∀ now t, Call1 w p loose mean mg mb ((a.mo, W.listOf #[.int now t] 0) :: a.S) fn 20 200 [] (fun r => ∃ t, r = .int now t)) (hlo : (a.ev == sysModules) = false)
    (hl10 : (lim, instObj 202 limd) ∈ a.S) (hl20 : (limd, dictOf [⟨PyData.keyHash w.params (PySem.Str.ofString "storage"), .str (PySem.Str.ofString "storage") t7, .ref st⟩] 1) ∈ a.S)
    (ham0 : (am, W.listOf amv.toArray amc) ∈ a.S) (hle0 : (le, W.listOf lev.toArray lec) ∈ a.S)
    (XT : (HeapK w.params).In base ∧ Top p loose mean mg mb base) (hvl : vs.length ≤ 1000)
    (hdp : dp + 200 < recursionLimit) (hun : un + 2000 < cLine)
    (ret : ∀ tot' fst' ttot' tfst' vs' cap' kept' n' D' m' nx h' tk', (∀ p ∈ [(PySem.Str.ofString "store", Value.ref st), (PySem.Str.ofString "limiter", .ref lim), (PySem.Str.ofString "amounts", .ref am), (PySem.Str.ofString "lengths", .ref le), (PySem.Str.ofString "items", .ref its), (PySem.Str.ofString "kept", .ref kp), (PySem.Str.ofString "right", .bool true), (PySem.Str.ofString "item", .ref it), (PySem.Str.ofString "names", .ref nm), (PySem.Str.ofString "which", .int ((i : Nat) : Int) twh), (PySem.Str.ofString "total", .int tot' ttot'), (PySem.Str.ofString "first", .int fst' tfst')], m' p.1 = some p.2) → Led w a nx now kp vs' cap' kept' n' D' → PInv XX KK now kept' D' → tot' = (cnt ((3 * j + i : Nat) : Int) (now - XX i) kept').1 → (0 < tot' → fst' = (cnt ((3 * j + i : Nat) : Int) (now - XX i) kept').2) → n' ≤ n + 2 → kept'.length ≤ kept.length + 1 → Fr h₀ L h' m' → News h₀ L h' nx → Q .next { s with heap := h', toks := tk' }) :
    wpAny (model PG w) (ktrTop dp un gd cn cs L fa ccd cl []) (execs (elseB.drop 1) (envX cn cs L fa ccd cl)) Q E s := by
  have hfr : m = kstB m ([(PySem.Str.ofString "store", Value.ref st), (PySem.Str.ofString "limiter", .ref lim), (PySem.Str.ofString "amounts", .ref am), (PySem.Str.ofString "lengths", .ref le), (PySem.Str.ofString "items", .ref its), (PySem.Str.ofString "kept", .ref kp), (PySem.Str.ofString "right", .bool true), (PySem.Str.ofString "item", .ref it), (PySem.Str.ofString "names", .ref nm), (PySem.Str.ofString "which", .int ((i : Nat) : Int) twh), (PySem.Str.ofString "total", .int (cnt ((3 * j + i : Nat) : Int) (now - XX i) kept).1 ttot), (PySem.Str.ofString "first", .int (cnt ((3 * j + i : Nat) : Int) (now - XX i) kept).2 tfst), (PySem.Str.ofString "cost", .int cost tc)]) := funext fun z => (kstB_eq hm (fun _ => rfl)).symm
  rw [hfr] at F
  subst hcs
  subst hcl
  conv => pattern (execs _ _); arg 1; whnf
  obtain ⟨tmo, hmo⟩ := l.mo
  have hcm := l.s0 _ hcm0
  have hcw6 : a.cw ≠ 546 := by obtain ⟨ps, hp, _⟩ := l.t1; exact ne_dat N hcw hp (by rw [hcwd]; nofun)
  have hcwe : a.cw ≠ a.ev := by obtain ⟨oe, kvs, he, hd, _⟩ := l.evs.at'; exact ne_dat N hcw he (by obtain ⟨es, ep, _, x, _⟩ := hd; rw [hcwd, x]; nofun)
  have hmo6 : a.mo ≠ 546 := ne_tab N hmo l.t1 (by nofun)
  have hmoe : a.mo ≠ a.ev := by obtain ⟨oe, kvs, he, hd, _⟩ := l.evs.at'; exact ne_cls N hmo he (by rw [dict_cls hd]; exact list_dict)
  have hSe : ∀ q ∈ (kp, W.listOf vs.toArray cap) :: (a.mo, W.listOf #[.int now tmo] 0) :: a.S, q.1 ≠ a.ev := List.forall_mem_cons.mpr ⟨l.kev, List.forall_mem_cons.mpr ⟨hmoe, ok.ev⟩⟩
  have hSt : ∀ q ∈ (kp, W.listOf vs.toArray cap) :: (a.mo, W.listOf #[.int now tmo] 0) :: a.S, q.1 ≠ 546 := List.forall_mem_cons.mpr ⟨l.kt1, List.forall_mem_cons.mpr ⟨hmo6, ok.t1⟩⟩
  have hS : (kp, W.listOf vs.toArray cap) :: (a.mo, W.listOf #[.int now tmo] 0) :: a.S ⊆ news := fun q hq => by
    rcases List.mem_cons.mp hq with rfl | hq
    · exact l.kpm
    rcases List.mem_cons.mp hq with rfl | hq
    · exact hmo
    · exact l.s0 q hq
  generalize hSS : (kp, W.listOf vs.toArray cap) :: (a.mo, W.listOf #[.int now tmo] 0) :: a.S = S at hS hSe hSt
  have up : a.S ⊆ S := fun q hq => hSS ▸ .tail _ (.tail _ hq)
  have CK := (CK0 now tmo).more (S' := S) (fun q hq => hSS ▸ .tail _ hq)
  have KF := KF0.more up
  have GE := HR.ge.more up
  have hav : ∀ b ∈ [kp, a.mo], ∃ o, (b, o) ∈ S := by rw [← hSS]; exact List.forall_mem_cons.mpr ⟨⟨_, .head _⟩, List.forall_mem_cons.mpr ⟨⟨_, .tail _ (.head _)⟩, fun _ h => nomatch h⟩⟩
  have hst := up hst0
  have hstd := up hstd0
  have hfn : ∃ oc od fd sl, (fn, (⟨oc, od, .func fd, sl⟩ : Obj)) ∈ S := let ⟨oc, od, fd, sl, h⟩ := hfn0; ⟨oc, od, fd, sl, up h⟩
  have hl1 := up hl10
  have hl2 := up hl20
  have hi1 := up HR.i1
  have hi2 := up HR.i2
  have hmod : (3 * j + i) % 3 = i := by omega
  have R := P.rel (3 * j + i) (by omega)
  rw [hmod] at R
  have hDl : (D (KK (3 * j + i))).length ≤ 1000 := by have := P.len (KK (3 * j + i)); omega
  have hsrt : ∀ (x y : Nat) a c, x ≤ y → (D (KK (3 * j + i)))[x]? = some a → (D (KK (3 * j + i)))[y]? = some c → c.1 ≤ a.1 := fun x y a c hij ha hc => (R.srt P.pw hij ha hc).1
  have hl11 := l.s0 _ hl10
  have hl21 := l.s0 _ hl20
  have ham := l.s0 _ ham0
  have hle := l.s0 _ hle0
  have hiN : amv[((i : Nat) : Int).toNat]? = some (.int (AA i) tA) := HR.amv
  have hiL : lev[((i : Nat) : Int).toNat]? = some (.int (XX i) tL) := HR.lev
  have hi0 : 0 ≤ ((i : Nat) : Int) := by omega
  k_steps
  unfold Stop
  k_dflt (refine item_lst (by k_asm) ham hi0 (by omega) hiN ?_)
  k_steps
  unfold Stop
  k_dflt (refine item_lst (vs := [.int now tmo]) (by k_asm) hmo (by decide) (by decide) rfl ?_)
  k_steps
  unfold Stop
  k_dflt (refine item_lst (by k_asm) hle hi0 (by omega) hiL ?_)
  k_steps
  unfold Stop
  k_dflt (refine' counted ?k1 ?k2 ?k3 ?k4 ?k5 ?kK l.kpm l.rows hvl ?hdp ?hun ?_; (case k1 => k_asm); (case k2 => k_asm); (case k3 => k_asm); (case k4 => k_asm); (case k5 => k_asm); (case kK => rfl))
  case hdp => ktr_room
  case hun => ktr_units
  intro Dc ta tb h3 tk3 F3 N3
  obtain ⟨nx1, N3', hup, hDc⟩ : ∃ nx1, News h₀ L h3 nx1 ∧ (∀ q ∈ news, q ∈ nx1) ∧ (Dc, ({ cls := .type "tuple", data := .seq #[.int (cnt ((3 * j + i : Nat) : Int) (now - XX i - 1) kept).1 ta, .int (cnt ((3 * j + i : Nat) : Int) (now - XX i - 1) kept).2 tb] } : Obj)) ∈ nx1 := ⟨_, N3, fun q h => .tail _ h, .head _⟩
  clear N3
  have l1 := l.mono hup
  have hS1 : S ⊆ nx1 := fun q hq => hup q (hS hq)
  have kT : ∀ nx, (∀ q ∈ nx1, q.1 ≠ 546 → q ∈ nx) → TabOk nx 546 mwPos mwQual → Led w a nx now kp vs cap kept n D := fun nx hk t => l1.tab1 ok N3' hk t
  (try dsimp only)
  (try k_fold)
  k_steps
  unfold Stop
  (k_dflt (refine' item_tupleT ?qt ?qa ?qb ?qc ?qd ?_; (case qt => exact News.isTup (by k_asm) hDc); (case qa => decide); (case qb => decide); (case qc => rfl); (case qd => rfl)))
  k_steps
  unfold Stop
  k_dflt (refine item_lst (by k_asm) (l1.s0 _ ham0) hi0 (by omega) hiN ?_)
  have hl12 := l1.s0 _ hl10
  have hl22 := l1.s0 _ hl20
  k_steps
  unfold Stop
  k_dflt (refine' ltest (A := AA i) (M := M) (key := KK (3 * j + i)) (x := XX i) ?j1 ?j2 ?j3 ?j4 ?j5 ?jK hS1 hst hstd hfn CK l1.evs hlo hav ?tn hSe hl1 hl2 hi1 hi2 HR.c7 HR.c8 HR.m1 HR.m2 HR.m3 HR.m4 HR.c11 HR.c12 KF GE hDl hsrt hSt l1.t1 ?tdp ?tun ?_; (case j1 => k_asm); (case j2 => k_asm); (case j3 => k_asm); (case j4 => k_asm); (case j5 => k_asm); (case jK => rfl); (case tn => omega))
  case tdp => ktr_room
  case tun => ktr_units
  intro r news2 h2 tk2 hr hlo1 hhi1 F2 N2 keep2 tab2
  have l2 := kT _ keep2 tab2
  obtain ⟨hrt, _⟩ := R.count P.ok hr hlo1 hhi1
  have e2 : decide ((r : Int) ≤ AA i - cost) = decide ((cnt ((3 * j + i : Nat) : Int) (now - XX i) kept).1 + cost ≤ AA i) := by rw [decide_eq_decide]; omega
  rw [e2]
  have kE : ∀ nx n' D', (∀ q ∈ news2, q.1 ≠ a.ev → q ∈ nx) → EvAt w [kp, a.mo] a.ev nx n' D' → Led w a nx now kp vs cap kept n' D' := fun nx n' D' hk V => l2.ev' ok N2 hk V
  (try dsimp only)
  (try k_fold)
  have hS2 : S ⊆ news2 := fun q hq => keep2 q (hS1 hq) (hSt q hq)
  have hl13 := hS2 hl1
  have hl23 := hS2 hl2
  k_steps
  unfold Stop
  k_dflt (refine' hit (outer := []) (A := AA i) (M := M) (key := KK (3 * j + i)) (x := XX i) ?h1 ?h2 ?h3 ?h4 ?h5 ?hK hS2 hst hstd hfn CK l2.evs hlo hav ?hn9 hSe hl1 hl2 hi1 hi2 HR.c7 HR.c8 HR.m1 HR.m2 HR.m3 HR.m4 HR.c11 HR.c12 KF GE XT hDl hc0 hc1 ?hA0 ?hA1 ?hdp9 ?hun9 ?_; (case h1 => k_asm); (case h2 => k_asm); (case h3 => k_asm); (case h4 => k_asm); (case h5 => k_asm); (case hK => rfl); (case hn9 => omega); (case hA0 => have := HR.a0; omega); (case hA1 => have := HR.a1; omega))
  case hdp9 => ktr_room
  case hun9 => ktr_units
  intro b ds' news3 h4 tk4 F4 N4 keep4 EV4 htt hff
  have l3 := kE _ _ _ keep4 EV4
  (rename Fr _ _ _ _ => lF5)
  (try dsimp only)
  (try k_fold)
  cases b with
  | false =>
    obtain ⟨rfl, hwhy⟩ := hff rfl
    have e3 : decide ((cnt ((3 * j + i : Nat) : Int) (now - XX i - 1) kept).1 + cost ≤ AA i) = false := decide_eq_false (R.cause P.ok P.pw hc0 hwhy)
    have eD : (fun k' => if k' = KK (3 * j + i) then D (KK (3 * j + i)) else D k') = D := by
      funext k'
      by_cases h : k' = KK (3 * j + i)
      · rw [if_pos h, h]
      · rw [if_neg h]
    rw [eD] at l3
    rw [e3] at lF5
    by_cases hroom : (cnt ((3 * j + i : Nat) : Int) (now - XX i) kept).1 + cost ≤ AA i
    · rw [decide_eq_true hroom] at lF5
      k_steps
      refine' ret _ _ _ _ vs cap kept _ D _ _ _ _ ?fm1 l3 P rfl (fun _ => rfl) (by omega) (by omega) (by k_asm) (by k_asm)
      case fm1 => exact List.forall_mem_cons.mpr ⟨by rfl, List.forall_mem_cons.mpr ⟨by rfl, List.forall_mem_cons.mpr ⟨by rfl, List.forall_mem_cons.mpr ⟨by rfl, List.forall_mem_cons.mpr ⟨by rfl, List.forall_mem_cons.mpr ⟨by rfl, List.forall_mem_cons.mpr ⟨by rfl, List.forall_mem_cons.mpr ⟨by rfl, List.forall_mem_cons.mpr ⟨by rfl, List.forall_mem_cons.mpr ⟨by rfl, List.forall_mem_cons.mpr ⟨by rfl, List.forall_mem_cons.mpr ⟨by rfl, List.forall_mem_nil _⟩⟩⟩⟩⟩⟩⟩⟩⟩⟩⟩⟩
    · rw [decide_eq_false hroom] at lF5
      k_steps
      refine' ret _ _ _ _ vs cap kept _ D _ _ _ _ ?fm2 l3 P rfl (fun _ => rfl) (by omega) (by omega) (by k_asm) (by k_asm)
      case fm2 => exact List.forall_mem_cons.mpr ⟨by rfl, List.forall_mem_cons.mpr ⟨by rfl, List.forall_mem_cons.mpr ⟨by rfl, List.forall_mem_cons.mpr ⟨by rfl, List.forall_mem_cons.mpr ⟨by rfl, List.forall_mem_cons.mpr ⟨by rfl, List.forall_mem_cons.mpr ⟨by rfl, List.forall_mem_cons.mpr ⟨by rfl, List.forall_mem_cons.mpr ⟨by rfl, List.forall_mem_cons.mpr ⟨by rfl, List.forall_mem_cons.mpr ⟨by rfl, List.forall_mem_cons.mpr ⟨by rfl, List.forall_mem_nil _⟩⟩⟩⟩⟩⟩⟩⟩⟩⟩⟩⟩
  | true =>
    obtain ⟨hds, haA, hlt⟩ := htt rfl
    have hroom : (cnt ((3 * j + i : Nat) : Int) (now - XX i) kept).1 + cost ≤ AA i := by have := let_room hr hlo1 haA hlt; omega
    rw [decide_eq_true hroom] at lF5
    obtain ⟨tm3, hmo3⟩ := l3.mo
    have hcm3 := l3.s0 _ hcm0
    have hcw3 := keep4 _ (keep2 _ (hup _ hcw) hcw6) hcwe
    have P5 := P.hit hK (who := 3 * j + i) (by omega) hc0 hc1
    rw [hmod] at P5
    have hkp3 := l3.kpm
    k_steps
    · unfold Stop
      k_dflt (refine item_lst (vs := [.int now tm3]) (by k_asm) hmo3 (by decide) (by decide) rfl ?_)
      k_steps
      unfold Stop
      k_dflt (refine item_lst (vs := [.int now tm3]) (by k_asm) hmo3 (by decide) (by decide) rfl ?_)
      k_steps
      unfold Stop
      (rename News _ _ _ _ => lN6)
      have kA := fun {nx' c'} => app_ledger (nx' := nx') (c' := c') l3 lN6
      k_dflt (refine app_lst (by k_asm) (by k_asm) (.tail _ hkp3) hvl ?_)
      intro news5 h5 F5 N5 keep5 hk5
      have l5 := kA keep5 hk5
      rw [hds] at l5
      (try dsimp only)
      (try k_fold)
      k_steps
      refine' ret ((cnt ((3 * j + i : Nat) : Int) (now - XX i) kept).1 + cost) now _ _ _ _ _ _ _ _ _ _ _ ?fm3 l5 P5 (by rw [cnt_snoc, if_pos ⟨rfl, by have := HR.x0; dsimp only; omega⟩]) (fun _ => by rw [cnt_snoc, if_pos ⟨rfl, by have := HR.x0; dsimp only; omega⟩]; dsimp only; rw [if_pos (by assumption)]) (by omega) (by rw [List.length_append]; exact Nat.le_refl _) (by k_asm) (by k_asm)
      case fm3 => exact List.forall_mem_cons.mpr ⟨by rfl, List.forall_mem_cons.mpr ⟨by rfl, List.forall_mem_cons.mpr ⟨by rfl, List.forall_mem_cons.mpr ⟨by rfl, List.forall_mem_cons.mpr ⟨by rfl, List.forall_mem_cons.mpr ⟨by rfl, List.forall_mem_cons.mpr ⟨by rfl, List.forall_mem_cons.mpr ⟨by rfl, List.forall_mem_cons.mpr ⟨by rfl, List.forall_mem_cons.mpr ⟨by rfl, List.forall_mem_cons.mpr ⟨by rfl, List.forall_mem_cons.mpr ⟨by rfl, List.forall_mem_nil _⟩⟩⟩⟩⟩⟩⟩⟩⟩⟩⟩⟩
    · unfold Stop
      k_dflt (refine item_lst (vs := [.int now tm3]) (by k_asm) hmo3 (by decide) (by decide) rfl ?_)
      k_steps
      unfold Stop
      (rename News _ _ _ _ => lN6)
      have kA := fun {nx' c'} => app_ledger (nx' := nx') (c' := c') l3 lN6
      k_dflt (refine app_lst (by k_asm) (by k_asm) (.tail _ hkp3) hvl ?_)
      intro news5 h5 F5 N5 keep5 hk5
      have l5 := kA keep5 hk5
      rw [hds] at l5
      (try dsimp only)
      (try k_fold)
      k_steps
      refine' ret ((cnt ((3 * j + i : Nat) : Int) (now - XX i) kept).1 + cost) (cnt ((3 * j + i : Nat) : Int) (now - XX i) kept).2 _ _ _ _ _ _ _ _ _ _ _ ?fm4 l5 P5 (by rw [cnt_snoc, if_pos ⟨rfl, by have := HR.x0; dsimp only; omega⟩]) (fun _ => by rw [cnt_snoc, if_pos ⟨rfl, by have := HR.x0; dsimp only; omega⟩]; dsimp only; rw [if_neg (by assumption)]) (by omega) (by rw [List.length_append]; exact Nat.le_refl _) (by k_asm) (by k_asm)
      case fm4 => exact List.forall_mem_cons.mpr ⟨by rfl, List.forall_mem_cons.mpr ⟨by rfl, List.forall_mem_cons.mpr ⟨by rfl, List.forall_mem_cons.mpr ⟨by rfl, List.forall_mem_cons.mpr ⟨by rfl, List.forall_mem_cons.mpr ⟨by rfl, List.forall_mem_cons.mpr ⟨by rfl, List.forall_mem_cons.mpr ⟨by rfl, List.forall_mem_cons.mpr ⟨by rfl, List.forall_mem_cons.mpr ⟨by rfl, List.forall_mem_cons.mpr ⟨by rfl, List.forall_mem_cons.mpr ⟨by rfl, List.forall_mem_nil _⟩⟩⟩⟩⟩⟩⟩⟩⟩⟩⟩⟩



end

section
theorem fill_JT3 : PySem.Challenge.rw_jb0022_01.prog = PySem.Challenge.rw_jb0022_01.prog ∧ HeapK = HeapK := by { k_fill; exact ⟨rfl, rfl⟩ }

theorem RowsAt.snoc {nx : List (Addr × Obj)} {ys : List Value} {rows : List (Int × Int × Int)} {x : Addr} {r : Int × Int × Int} {t1 t2 t3 : Tok} (R : RowsAt nx ys rows) (hx : (x, ({ cls := .type "tuple", data := .seq #[.int r.1 t1, .int r.2.1 t2, .int r.2.2 t3] } : Obj)) ∈ nx) : RowsAt nx (ys ++ [Value.ref x]) (rows ++ [r]) :=
  ⟨by rw [List.length_append, List.length_append, R.1]; rfl, fun i v r' e1 e2 => by
    rw [List.getElem?_append] at e1 e2
    rw [← R.1] at e2
    by_cases hi : i < ys.length
    · rw [if_pos hi] at e1 e2
      exact R.2 i v r' e1 e2
    · rw [if_neg hi] at e1 e2
      rcases hj : i - ys.length with _ | k
      · rw [hj] at e1 e2
        cases e1; cases e2
        exact ⟨x, t1, t2, t3, rfl, hx⟩
      · rw [hj] at e1; cases e1⟩
theorem cnt_gone {who since : Int} (rows : List (Int × Int × Int)) : cnt who since (rows.filter fun r => decide (r.1 ≠ who)) = (0, 0) := by
  refine rows_ind (P := fun rows => cnt who since (rows.filter fun r => decide (r.1 ≠ who)) = (0, 0)) rfl ?_ rows
  intro l r ih
  rw [List.filter_append]
  by_cases h : r.1 = who
  · have e : [r].filter (fun r => decide (r.1 ≠ who)) = [] := by simp [h]
    rw [e, List.append_nil, ih]
  · have e : [r].filter (fun r => decide (r.1 ≠ who)) = [r] := by simp [h]
    rw [e, cnt_snoc, if_neg (fun z => h z.1), ih]
local macro_rules | `(tactic| walk_at "execs cons") => `(tactic| ((with_reducible show wpAny _ _ (execs [PySem.Stmt.Assign _ _ _, PySem.Stmt.Assign _ _ _, PySem.Stmt.Assign _ _ _, PySem.Stmt.Assign _ _ _, PySem.Stmt.Assign _ _ _, PySem.Stmt.If _ _ _ _] _) _ _ _); refine Stop.mk ?_))
local macro_rules | `(tactic| walk_at "exec Assign cons ListComp") => `(tactic| (refine Stop.mk ?_))
local macro_rules | `(tactic| walk_at "CompSrcT") => `(tactic| (refine Stop.mk ?_))
local macro_rules | `(tactic| walk_at "CompEnd") => `(tactic| (refine Stop.mk ?_))
local macro_rules | `(tactic| walk_at "execs cons") => `(tactic| ((with_reducible show wpAny _ _ (execs [PySem.Stmt.Assign _ _ _, PySem.Stmt.Assign _ _ _, PySem.Stmt.Assign _ _ _, PySem.Stmt.If _ _ _ _, PySem.Stmt.If _ _ _ _] _) _ _ _); refine Stop.mk ?_))
set_option maxHeartbeats 8000000 in
theorem law_if {w : World} {p : Program} {loose : List PySem.Str} {mean : ExcName → Option Value} {mg mb : PySem.Str → Option Value} {dp un : Nat} {gd : Option (List Code)} {cn : PySem.Str} {cs : Scope} {fa : Addr} {ccd : Value} {cl : List (PySem.Str × Addr)} {A₀ : Around} {base h₀ : Heap} {L : Addr} {m : PySem.Str → Option Value} {news : List (Addr × Obj)} {s : Shared} {Q : Flow → Shared → Prop} {E : Value → Shared → Prop}
    {a : LawA} {st std fn sg ex lim limd am le its kp cm it d C nm : Addr} {now deed cost M : Int} {tk1 tk2 tk3 tk4 t7 t8 t9 t10 t11 t12 t13 tA tL twh ttot tfst td tc tw : Tok} {vs : List Value} {cap n i j : Nat} {kept : List (Int × Int × Int)} {D : PySem.Str → List (Int × Int)} {ocm ow osg oex : Obj} {itv amv lev nms : List Value} {itc amc lec : Nat} {AA XX : Nat → Int} {KK : Nat → PySem.Str}
    (hcs : cs = sScope lawSt) (hcl : cl = [(PySem.Str.ofString "moment", cm), (PySem.Str.ofString "who", a.cw)])
    (B : Below A₀ base [] h₀) (F : Fr h₀ L s.heap m) (X : (HeapK w.params).In h₀) (N : News h₀ L s.heap news) (T : Top p loose mean mg mb h₀) (hk : cs.kind = .function)
    (ok : a.Ok) (l : Led w a news now kp vs cap kept n D)
    (hm : ∀ p ∈ [(PySem.Str.ofString "item", Value.ref it), (PySem.Str.ofString "names", .ref nm), (PySem.Str.ofString "which", .int ((i : Nat) : Int) twh), (PySem.Str.ofString "total", .int (cnt ((3 * j + i : Nat) : Int) (now - XX i) kept).1 ttot), (PySem.Str.ofString "first", .int (cnt ((3 * j + i : Nat) : Int) (now - XX i) kept).2 tfst), (PySem.Str.ofString "deed", .int deed td), (PySem.Str.ofString "cost", .int cost tc), (PySem.Str.ofString "store", .ref st), (PySem.Str.ofString "limiter", .ref lim), (PySem.Str.ofString "amounts", .ref am), (PySem.Str.ofString "lengths", .ref le), (PySem.Str.ofString "items", .ref its), (PySem.Str.ofString "kept", .ref kp), (PySem.Str.ofString "right", .bool true)], m p.1 = some p.2) (hi3 : i < 3) (hj3 : j < 3) (hc0 : 1 ≤ cost) (hc1 : cost ≤ 6)
    (HR : ItemR w p loose mean mg mb a amv lev nms AA XX KK i it d C M t8 t9 t10 t11 t12 t13 tA tL) (KF0 : Call1 w p loose mean mg mb a.S 364 20 200 [.ref it, .ref nm] (fun r => ∃ t, r = .str (KK (3 * j + i)) t))
    (hcw : (a.cw, ow) ∈ news) (hcwd : ow.data = .cell (some (.int ((3 * j + i : Nat) : Int) tw))) (P : PInv XX KK now kept D) (hK : ∀ i j : Nat, i < 9 → j < 9 → KK i = KK j → i = j) (hkl : kept.length ≤ 50) (hn : n ≤ 200)
    (hcm0 : (cm, ocm) ∈ a.S) (hcmd : ocm.data = .cell (some (.ref a.mo)))
    (hst0 : (st, instObj 597 std) ∈ a.S) (hstd0 : (std, storeD w fn sg ex a.ev tk1 tk2 tk3 tk4) ∈ a.S) (hfn0 : ∃ oc od fd sl, (fn, (⟨oc, od, .func fd, sl⟩ : Obj)) ∈ a.S)
    (hsg : (sg, osg) ∈ a.S) (hsgd : osg.IsDictOf (PySem.strKind PG w) []) (hsgl : (sg == sysModules) = false) (hex : (ex, oex) ∈ a.S) (hexd : oex.IsDictOf (PySem.strKind PG w) []) (hexl : (ex == sysModules) = false)
    (CK0 : ∀ now t, Call1 w p loose mean mg mb ((a.mo, W.listOf #[.int now t] 0) :: a.S) fn 20 200 [] (fun r => ∃ t, r = .int now t)) (hlo : (a.ev == sysModules) = false)
    (hl10 : (lim, instObj 202 limd) ∈ a.S) (hl20 : (limd, dictOf [⟨PyData.keyHash w.params (PySem.Str.ofString "storage"), .str (PySem.Str.ofString "storage") t7, .ref st⟩] 1) ∈ a.S)
    (hits0 : (its, W.listOf itv.toArray itc) ∈ a.S) (ham0 : (am, W.listOf amv.toArray amc) ∈ a.S) (hle0 : (le, W.listOf lev.toArray lec) ∈ a.S)
    (XT : (HeapK w.params).In base ∧ Top p loose mean mg mb base)
    (hdp : dp + 200 < recursionLimit) (hun : un + 2000 < cLine)
    (ret : ∀ kp' vs' cap' kept' n' D' m' nx h' tk', (∀ p ∈ psL st lim am le its kp', m' p.1 = some p.2) → Led w a nx now kp' vs' cap' kept' n' D' → PInv XX KK now kept' D' → n' ≤ n + 2 → kept'.length ≤ kept.length + 1 → Fr h₀ L h' m' → News h₀ L h' nx → Q .next { s with heap := h', toks := tk' }) :
    wpAny (model PG w) (ktrTop dp un gd cn cs L fa ccd cl []) (execs (loopB.drop 8) (envX cn cs L fa ccd cl)) Q E s := by
  have hfr : m = kstB m ([(PySem.Str.ofString "item", Value.ref it), (PySem.Str.ofString "names", .ref nm), (PySem.Str.ofString "which", .int ((i : Nat) : Int) twh), (PySem.Str.ofString "total", .int (cnt ((3 * j + i : Nat) : Int) (now - XX i) kept).1 ttot), (PySem.Str.ofString "first", .int (cnt ((3 * j + i : Nat) : Int) (now - XX i) kept).2 tfst), (PySem.Str.ofString "deed", .int deed td), (PySem.Str.ofString "cost", .int cost tc), (PySem.Str.ofString "store", .ref st), (PySem.Str.ofString "limiter", .ref lim), (PySem.Str.ofString "amounts", .ref am), (PySem.Str.ofString "lengths", .ref le), (PySem.Str.ofString "items", .ref its), (PySem.Str.ofString "kept", .ref kp), (PySem.Str.ofString "right", .bool true)]) := funext fun z => (kstB_eq hm (fun _ => rfl)).symm
  rw [hfr] at F
  subst hcs
  subst hcl
  conv => pattern (execs _ _); arg 1; whnf
  obtain ⟨tmo, hmo⟩ := l.mo
  have hcm := l.s0 _ hcm0
  have hst1 := l.s0 _ hst0
  have hstd1 := l.s0 _ hstd0
  have hcwe : a.cw ≠ a.ev := by obtain ⟨oe, kvs, he, hd, _⟩ := l.evs.at'; exact ne_dat N hcw he (by obtain ⟨es, ep, _, x, _⟩ := hd; rw [hcwd, x]; nofun)
  have hmo6 : a.mo ≠ 546 := ne_tab N hmo l.t1 (by nofun)
  have hmoe : a.mo ≠ a.ev := by obtain ⟨oe, kvs, he, hd, _⟩ := l.evs.at'; exact ne_cls N hmo he (by rw [dict_cls hd]; exact list_dict)
  have hSe : ∀ q ∈ (kp, W.listOf vs.toArray cap) :: (a.mo, W.listOf #[.int now tmo] 0) :: a.S, q.1 ≠ a.ev := List.forall_mem_cons.mpr ⟨l.kev, List.forall_mem_cons.mpr ⟨hmoe, ok.ev⟩⟩
  have hSt : ∀ q ∈ (kp, W.listOf vs.toArray cap) :: (a.mo, W.listOf #[.int now tmo] 0) :: a.S, q.1 ≠ 546 := List.forall_mem_cons.mpr ⟨l.kt1, List.forall_mem_cons.mpr ⟨hmo6, ok.t1⟩⟩
  have hS : (kp, W.listOf vs.toArray cap) :: (a.mo, W.listOf #[.int now tmo] 0) :: a.S ⊆ news := fun q hq => by
    rcases List.mem_cons.mp hq with rfl | hq
    · exact l.kpm
    rcases List.mem_cons.mp hq with rfl | hq
    · exact hmo
    · exact l.s0 q hq
  have hmo4 : a.mo ≠ 494 := ne_tab N hmo l.t2 (by nofun)
  have hS4 : ∀ q ∈ (kp, W.listOf vs.toArray cap) :: (a.mo, W.listOf #[.int now tmo] 0) :: a.S, q.1 ≠ 494 := List.forall_mem_cons.mpr ⟨l.kt2, List.forall_mem_cons.mpr ⟨hmo4, ok.t2⟩⟩
  generalize hSS : (kp, W.listOf vs.toArray cap) :: (a.mo, W.listOf #[.int now tmo] 0) :: a.S = S at hS hSe hSt hS4
  have up : a.S ⊆ S := fun q hq => hSS ▸ .tail _ (.tail _ hq)
  have CK := (CK0 now tmo).more (S' := S) (fun q hq => hSS ▸ .tail _ hq)
  have KF := KF0.more up
  have GE := HR.ge.more up
  have hav : ∀ b ∈ [kp, a.mo], ∃ o, (b, o) ∈ S := by rw [← hSS]; exact List.forall_mem_cons.mpr ⟨⟨_, .head _⟩, List.forall_mem_cons.mpr ⟨⟨_, .tail _ (.head _)⟩, fun _ h => nomatch h⟩⟩
  have hst := up hst0
  have hstd := up hstd0
  have hfn : ∃ oc od fd sl, (fn, (⟨oc, od, .func fd, sl⟩ : Obj)) ∈ S := let ⟨oc, od, fd, sl, h⟩ := hfn0; ⟨oc, od, fd, sl, up h⟩
  have hl1 := up hl10
  have hl2 := up hl20
  have hi1 := up HR.i1
  have hi2 := up HR.i2
  have hl11 := l.s0 _ hl10
  have hl21 := l.s0 _ hl20
  have ham := l.s0 _ ham0
  have hiN : amv[((i : Nat) : Int).toNat]? = some (.int (AA i) tA) := HR.amv
  have hi0 : 0 ≤ ((i : Nat) : Int) := by omega
  have hmod : (3 * j + i) % 3 = i := by omega
  have hvl : vs.length ≤ 1000 := by have := l.rows.1; omega
  have hh := HR.a0
  have hh1 := HR.a1
  have TAIL : ∀ (s' : Shared) (tot' fst' : Int) ttot' tfst' kp' vs' cap' kept' n' D' m' nx h' tk', (∀ p ∈ [(PySem.Str.ofString "store", Value.ref st), (PySem.Str.ofString "limiter", .ref lim), (PySem.Str.ofString "amounts", .ref am), (PySem.Str.ofString "lengths", .ref le), (PySem.Str.ofString "items", .ref its), (PySem.Str.ofString "kept", .ref kp'), (PySem.Str.ofString "right", .bool true), (PySem.Str.ofString "item", .ref it), (PySem.Str.ofString "names", .ref nm), (PySem.Str.ofString "which", .int ((i : Nat) : Int) twh), (PySem.Str.ofString "total", .int tot' ttot'), (PySem.Str.ofString "first", .int fst' tfst')], m' p.1 = some p.2) → Led w a nx now kp' vs' cap' kept' n' D' → PInv XX KK now kept' D' → tot' = (cnt ((3 * j + i : Nat) : Int) (now - XX i) kept').1 → (0 < tot' → fst' = (cnt ((3 * j + i : Nat) : Int) (now - XX i) kept').2) → n' ≤ n + 2 → kept'.length ≤ kept.length + 1 → Fr h₀ L h' m' → News h₀ L h' nx →
      s' = { s with heap := h', toks := tk' } → wpAny (model PG w) (ktrTop dp un gd cn (sScope lawSt) L fa ccd [(PySem.Str.ofString "moment", cm), (PySem.Str.ofString "who", a.cw)] []) (execs (loopB.drop 9) (envX cn (sScope lawSt) L fa ccd [(PySem.Str.ofString "moment", cm), (PySem.Str.ofString "who", a.cw)])) Q E s' := by
    intro s' tot' fst' ttot' tfst' kp' vs' cap' kept' n' D' m' nx h' tk' hm' l' P' ht hf hn' hk' F' N' es
    subst es
    have R' := P'.rel (3 * j + i) (by omega)
    rw [hmod] at R'
    have hD' := P'.len (KK (3 * j + i))
    refine' law_tail (av := []) (i := 0) (P0 := 0) (oI := ocm) rfl B F' X N' T hk ok l' hm' hst0 hstd0 hfn0 CK0 hlo (by omega) hl10 hl20 HR.i1 HR.i2 HR.c7 HR.c8 HR.m1 HR.m2 HR.m3 HR.m4 HR.c11 HR.c12 KF0 HR.ge hi0 (by omega) ham0 hiN hle0 HR.lev R' P'.ok P'.pw (by omega) ht hf (by omega) (by omega) hdp hun ?_
    intro m2 nx2 h2 tk2 hm2 l2 F2 N2
    exact ret kp' vs' cap' kept' n' D' m2 nx2 h2 tk2 hm2 l2 P' hn' hk' F2 N2
  have kX : ∀ nx D', (∀ q ∈ news, q.1 ≠ a.ev → q.1 ≠ 494 → q ∈ nx) → EvAt w [kp, a.mo] a.ev nx n D' → TabOk nx 494 exPos exQual → Led w a nx now kp vs cap kept n D' := fun nx D' hk V t => l.swp ok N hk V t
  have kE : ∀ nx n' D', (∀ q ∈ news, q.1 ≠ a.ev → q ∈ nx) → EvAt w [kp, a.mo] a.ev nx n' D' → Led w a nx now kp vs cap kept n' D' := fun nx n' D' hk V => l.ev' ok N hk V
  k_steps
  · unfold Stop
    (try dsimp only [List.cons_append, List.nil_append, List.append_nil])
    k_dflt (refine' expire (outer := []) ?x1 ?x2 ?x3 ?x4 ?x5 ?xK hS hst hstd hfn (up hex) hexd hexl CK l.evs hlo hav ?xn hSe hS4 ?xl ?xo l.t2 ?xd ?xu ?_; (case x1 => k_asm); (case x2 => k_asm); (case x3 => k_asm); (case x4 => k_asm); (case x5 => k_asm); (case xK => rfl); (case xn => omega))
    case xl => intro k; have := P.len k; omega
    case xo => exact P.srt
    case xd => ktr_room
    case xu => ktr_units
    intro D' nx h' tk' F' N' keep EV' hshr tab'
    have l2 := kX nx D' keep EV' tab'
    (try dsimp only)
    (try k_fold)
    k_steps
    unfold Stop
    refine' TAIL _ _ _ _ _ kp vs cap kept n D' _ nx _ _ ?xm l2 (P.swp hshr) rfl (fun _ => rfl) (by omega) (by omega) ?xF ?xN ?xE
    case xF => k_asm
    case xN => k_asm
    case xm => exact List.forall_mem_cons.mpr ⟨by rfl, List.forall_mem_cons.mpr ⟨by rfl, List.forall_mem_cons.mpr ⟨by rfl, List.forall_mem_cons.mpr ⟨by rfl, List.forall_mem_cons.mpr ⟨by rfl, List.forall_mem_cons.mpr ⟨by rfl, List.forall_mem_cons.mpr ⟨by rfl, List.forall_mem_cons.mpr ⟨by rfl, List.forall_mem_cons.mpr ⟨by rfl, List.forall_mem_cons.mpr ⟨by rfl, List.forall_mem_cons.mpr ⟨by rfl, List.forall_mem_cons.mpr ⟨by rfl, List.forall_mem_nil _⟩⟩⟩⟩⟩⟩⟩⟩⟩⟩⟩⟩
    case xE => rfl
  · unfold Stop
    k_dflt (refine' lclear (outer := []) (now := now) (A := AA i) (M := M) (key := KK (3 * j + i)) (x := XX i) ?y1 ?y2 ?y3 ?y4 ?y5 ?yK hS hst hstd hfn CK l.evs hlo hav ?yn hSe hl1 hl2 hi1 hi2 HR.c7 HR.c8 HR.m1 HR.m2 HR.m3 HR.m4 HR.c11 HR.c12 KF GE (up hsg) hsgd hsgl (up hex) hexd hexl ?yd ?yu ?_; (case y1 => k_asm); (case y2 => k_asm); (case y3 => k_asm); (case y4 => k_asm); (case y5 => k_asm); (case yK => rfl); (case yn => omega))
    case yd => ktr_room
    case yu => ktr_units
    intro nx h' tk' F' N' keep EV'
    have l2 := kE nx n _ keep EV'
    have hcw2 : (a.cw, ow) ∈ nx := keep _ hcw hcwe
    have hkp2 := l2.kpm
    (try dsimp only)
    (try k_fold)
    k_steps
    unfold Stop
    k_dflt (refine LCt.Assign_ListComp_T (F₀ := by k_asm) (by rfl) (by with_unfolding_all rfl) (by with_unfolding_all rfl) (by decide) (by rfl) (by decide) (by rfl) (by rfl) (by rfl) ?_)
    k_steps
    unfold Stop
    refine LCt.CompSrcT.ledger (by rfl) (by k_asm) (by k_asm) hkp2 (by rw [List.size_toArray, sizeLine_eq]; omega) ?_
    intro g'
    refine LCx.rest_ind (fun i' ys => RowsAt nx ys ((kept.take i').filter fun r => decide (r.1 ≠ ((3 * j + i : Nat) : Int)))) ⟨rfl, fun x v r e => by cases e⟩ ?_ ?_
    · intro ys hys
      rw [List.size_toArray, l.rows.1, List.take_length] at hys
      intro D5 h5 tk5 F5 N5 o5
      have l3 := l2.new (kp' := D5) (vs' := ys) (cap' := ys.length) (fun q hq => LCx.Off1.mem o5 q hq) (fun x hx => List.mem_cons_of_mem _ hx) (.head _) (hys.mono fun x hx => List.mem_cons_of_mem _ hx)
      (try dsimp only)
      (try k_fold)
      k_steps
      unfold Stop
      refine' TAIL _ 0 _ _ _ D5 ys ys.length _ n _ _ _ _ _ ?cm l3 (P.clear hK (by omega)) ?ct ?cf (by omega) ?ck ?cF ?cN ?cE
      case cF => k_asm
      case cN => k_asm
      case cm => exact List.forall_mem_cons.mpr ⟨by rfl, List.forall_mem_cons.mpr ⟨by rfl, List.forall_mem_cons.mpr ⟨by rfl, List.forall_mem_cons.mpr ⟨by rfl, List.forall_mem_cons.mpr ⟨by rfl, List.forall_mem_cons.mpr ⟨by rfl, List.forall_mem_cons.mpr ⟨by rfl, List.forall_mem_cons.mpr ⟨by rfl, List.forall_mem_cons.mpr ⟨by rfl, List.forall_mem_cons.mpr ⟨by rfl, List.forall_mem_cons.mpr ⟨by rfl, List.forall_mem_cons.mpr ⟨by rfl, List.forall_mem_nil _⟩⟩⟩⟩⟩⟩⟩⟩⟩⟩⟩⟩
      case ct => rw [cnt_gone]
      case cf => exact fun h => absurd h (by decide)
      case ck => exact Nat.le_succ_of_le (List.length_filter_le _ _)
      case cE => rfl
    · intro i' ys RestY hi' hI hR v I oI C oC D' m₂ h tk E' hv hC hx F6 N6 off
      rw [List.size_toArray, l.rows.1] at hi'
      have hv' : vs[i']? = some v := by simpa using hv
      have hr := List.getElem?_eq_getElem hi'
      obtain ⟨x, y1, y2, y3, rfl, hxt⟩ := l2.rows.2 i' v _ hv' hr
      generalize kept[i'] = r at hr hxt
      have htk := take_snoc hr
      have hS6 : LCg.SrcAt h₀ kp vs.toArray nx := .inr ⟨_, hkp2, rfl, _, rfl⟩
      k_steps
      unfold Stop
      (k_dflt (refine' item_tupleT ?rt ?ra ?rb ?rc ?rd ?_; (case rt => exact News.isTup (by k_asm) (.tail _ (.tail _ (.tail _ hxt)))); (case ra => decide); (case rb => decide); (case rc => rfl); (case rd => rfl)))
      k_steps
      · unfold Stop
        refine LCg.CompEnd.intro (by k_asm) (by k_asm) nx (fun p hp => hp) off hS6 (hR _ ?_)
        have e : [r].filter (fun r => decide (r.1 ≠ ((3 * j + i : Nat) : Int))) = [r] := by simp; assumption
        rw [htk, List.filter_append, e]
        exact hI.snoc hxt
      · unfold Stop
        refine LCg.CompEnd.intro (by k_asm) (by k_asm) nx (fun p hp => hp) off hS6 (hR _ ?_)
        have e : [r].filter (fun r => decide (r.1 ≠ ((3 * j + i : Nat) : Int))) = [] := by simp; assumption
        rw [htk, List.filter_append, e, List.append_nil]
        exact hI
  · unfold Stop
    k_dflt (refine item_lst (by k_asm) ham hi0 (by omega) hiN ?_)
    k_steps
    · unfold Stop
      have hnn := cnt_nonneg (who := ((3 * j + i : Nat) : Int)) (since := now - XX i) P.ok
      k_dflt (refine item_lst (by k_asm) ham hi0 (by omega) hiN ?_)
      k_steps
      unfold Stop
      refine' law_hit rfl rfl B ?F5 X ?N5 T hk ok l (cost := AA i - (cnt ((3 * j + i : Nat) : Int) (now - XX i) kept).1) ?hm5 hi3 hj3 ?c05 ?c15 HR KF0 hcw hcwd P hK hkl hn hcm0 hcmd hst0 hstd0 hfn0 CK0 hlo hl10 hl20 ham0 hle0 XT hvl hdp hun ?_
      case F5 => k_asm
      case N5 => k_asm
      case hm5 => exact List.forall_mem_cons.mpr ⟨by rfl, List.forall_mem_cons.mpr ⟨by rfl, List.forall_mem_cons.mpr ⟨by rfl, List.forall_mem_cons.mpr ⟨by rfl, List.forall_mem_cons.mpr ⟨by rfl, List.forall_mem_cons.mpr ⟨by rfl, List.forall_mem_cons.mpr ⟨by rfl, List.forall_mem_cons.mpr ⟨by rfl, List.forall_mem_cons.mpr ⟨by rfl, List.forall_mem_cons.mpr ⟨by rfl, List.forall_mem_cons.mpr ⟨by rfl, List.forall_mem_cons.mpr ⟨by rfl, List.forall_mem_cons.mpr ⟨by rfl, List.forall_mem_nil _⟩⟩⟩⟩⟩⟩⟩⟩⟩⟩⟩⟩⟩
      case c05 => omega
      case c15 => omega
      intro tot' fst' ttot' tfst' vs' cap' kept' n' D' m' nx h' tk' hm' l' P' ht hf hn' hk' F' N'
      (try dsimp only)
      k_steps
      unfold Stop
      refine' TAIL _ tot' fst' _ _ kp vs' cap' kept' n' D' m' nx h' _ hm' l' P' ht hf hn' hk' F' N' rfl
    · unfold Stop
      refine' law_hit rfl rfl B ?F6 X ?N6 T hk ok l (cost := cost) ?hm6 hi3 hj3 ?c06 ?c16 HR KF0 hcw hcwd P hK hkl hn hcm0 hcmd hst0 hstd0 hfn0 CK0 hlo hl10 hl20 ham0 hle0 XT hvl hdp hun ?_
      case F6 => k_asm
      case N6 => k_asm
      case hm6 => exact List.forall_mem_cons.mpr ⟨by rfl, List.forall_mem_cons.mpr ⟨by rfl, List.forall_mem_cons.mpr ⟨by rfl, List.forall_mem_cons.mpr ⟨by rfl, List.forall_mem_cons.mpr ⟨by rfl, List.forall_mem_cons.mpr ⟨by rfl, List.forall_mem_cons.mpr ⟨by rfl, List.forall_mem_cons.mpr ⟨by rfl, List.forall_mem_cons.mpr ⟨by rfl, List.forall_mem_cons.mpr ⟨by rfl, List.forall_mem_cons.mpr ⟨by rfl, List.forall_mem_cons.mpr ⟨by rfl, List.forall_mem_cons.mpr ⟨by rfl, List.forall_mem_nil _⟩⟩⟩⟩⟩⟩⟩⟩⟩⟩⟩⟩⟩
      case c06 => omega
      case c16 => omega
      intro tot' fst' ttot' tfst' vs' cap' kept' n' D' m' nx h' tk' hm' l' P' ht hf hn' hk' F' N'
      (try dsimp only)
      k_steps
      unfold Stop
      refine' TAIL _ tot' fst' _ _ kp vs' cap' kept' n' D' m' nx h' _ hm' l' P' ht hf hn' hk' F' N' rfl
  · unfold Stop
    refine' law_hit rfl rfl B ?F4 X ?N4 T hk ok l (cost := cost) ?hm4 hi3 hj3 ?c04 ?c14 HR KF0 hcw hcwd P hK hkl hn hcm0 hcmd hst0 hstd0 hfn0 CK0 hlo hl10 hl20 ham0 hle0 XT hvl hdp hun ?_
    case F4 => k_asm
    case N4 => k_asm
    case hm4 => exact List.forall_mem_cons.mpr ⟨by rfl, List.forall_mem_cons.mpr ⟨by rfl, List.forall_mem_cons.mpr ⟨by rfl, List.forall_mem_cons.mpr ⟨by rfl, List.forall_mem_cons.mpr ⟨by rfl, List.forall_mem_cons.mpr ⟨by rfl, List.forall_mem_cons.mpr ⟨by rfl, List.forall_mem_cons.mpr ⟨by rfl, List.forall_mem_cons.mpr ⟨by rfl, List.forall_mem_cons.mpr ⟨by rfl, List.forall_mem_cons.mpr ⟨by rfl, List.forall_mem_cons.mpr ⟨by rfl, List.forall_mem_cons.mpr ⟨by rfl, List.forall_mem_nil _⟩⟩⟩⟩⟩⟩⟩⟩⟩⟩⟩⟩⟩
    case c04 => omega
    case c14 => omega
    intro tot' fst' ttot' tfst' vs' cap' kept' n' D' m' nx h' tk' hm' l' P' ht hf hn' hk' F' N'
    (try dsimp only)
    k_steps
    unfold Stop
    refine' TAIL _ tot' fst' _ _ kp vs' cap' kept' n' D' m' nx h' _ hm' l' P' ht hf hn' hk' F' N' rfl



end

end

section
theorem fill_JT5 : PySem.Challenge.rw_jb0022_01.prog = PySem.Challenge.rw_jb0022_01.prog ∧ HeapK = HeapK := by { k_fill; exact ⟨rfl, rfl⟩ }

theorem ItemR.more {w : World} {p : Program} {loose : List PySem.Str} {mean : ExcName → Option Value} {mg mb : PySem.Str → Option Value} {a b : LawA} {amv lev nms : List Value} {AA XX : Nat → Int} {KK : Nat → PySem.Str} {i : Nat} {it d C : Addr} {M : Int} {t8 t9 t10 t11 t12 t13 tA tL : Tok} (R : ItemR w p loose mean mg mb a amv lev nms AA XX KK i it d C M t8 t9 t10 t11 t12 t13 tA tL) (h : a.S ⊆ b.S) : ItemR w p loose mean mg mb b amv lev nms AA XX KK i it d C M t8 t9 t10 t11 t12 t13 tA tL :=
  ⟨R.amv, R.lev, h R.i1, h R.i2, R.c7, R.c8, R.m1, R.m2, R.m3, R.m4, R.c11, R.c12, R.ge.more h, fun j nm hj hn => let ⟨c, e, k⟩ := R.kf j nm hj hn; ⟨c, e, k.more h⟩, R.a0, R.a1, R.x0⟩
def LawA.plus (a : LawA) (q : Addr × Obj) : LawA := { a with S := q :: a.S }
section
variable {w : World} {a : LawA} {nx : List (Addr × Obj)} {now : Int} {kp : Addr} {vs : List Value} {cap : Nat} {kept : List (Int × Int × Int)} {n : Nat} {D : PySem.Str → List (Int × Int)} {h₀ h : Heap} {L P0 : Addr} {oI : Obj}
theorem Led.plus (l : Led w a nx now kp vs cap kept n D) (hoff : OwnOff [(P0, oI)] (nx.map (·.1))) : Led w (a.plus (P0, oI)) (nx ++ [(P0, oI)]) now kp vs cap kept n D := by
  have l' := l.mono (nx' := nx ++ [(P0, oI)]) fun x hx => List.mem_append_left _ hx
  have hne : ∀ q ∈ nx, q.1 ≠ P0 := fun q hq e => hoff (P0, oI) (List.mem_singleton.mpr rfl) q.1 (List.mem_map_of_mem hq) e.symm
  refine ⟨fun q hq => ?_, l'.mo, l'.cw, l'.kpm, fun hk => ?_, l'.rows, l'.evs, l'.t1, l'.t2⟩
  · rcases List.mem_cons.mp hq with rfl | hq
    · exact List.mem_append_right _ (.head _)
    · exact l'.s0 q hq
  · have hk' : kp ∈ a.mo :: a.cw :: a.ev :: 546 :: 494 :: P0 :: a.S.map (·.1) := hk
    have hnk := l.nk
    unfold LawA.fixed at hnk
    have hp := hne _ l.kpm
    dsimp only at hp
    simp only [List.mem_cons] at hk' hnk
    rcases hk' with h | h | h | h | h | h | h
    · exact hnk (.inl h)
    · exact hnk (.inr (.inl h))
    · exact hnk (.inr (.inr (.inl h)))
    · exact hnk (.inr (.inr (.inr (.inl h))))
    · exact hnk (.inr (.inr (.inr (.inr (.inl h)))))
    · exact hp h
    · exact hnk (.inr (.inr (.inr (.inr (.inr h)))))
theorem LawA.Ok.plus (ok : a.Ok) (l : Led w a nx now kp vs cap kept n D) (hoff : OwnOff [(P0, oI)] (nx.map (·.1))) : (a.plus (P0, oI)).Ok := by
  have hne : ∀ q ∈ nx, P0 ≠ q.1 := fun q hq e => hoff (P0, oI) (List.mem_singleton.mpr rfl) q.1 (List.mem_map_of_mem hq) e
  obtain ⟨t0, h1⟩ := l.mo
  obtain ⟨o, v, h2, _⟩ := l.cw
  obtain ⟨oe, kvs, he, _⟩ := l.evs.at'
  obtain ⟨p1, q1, _⟩ := l.t1
  obtain ⟨p2, q2, _⟩ := l.t2
  exact ⟨List.forall_mem_cons.mpr ⟨hne _ h1, ok.mo⟩, List.forall_mem_cons.mpr ⟨hne _ h2, ok.cw⟩, List.forall_mem_cons.mpr ⟨hne _ he, ok.ev⟩, List.forall_mem_cons.mpr ⟨hne _ q1, ok.t1⟩, List.forall_mem_cons.mpr ⟨hne _ q2, ok.t2⟩⟩
theorem Led.minus (l : Led w (a.plus (P0, oI)) nx now kp vs cap kept n D) (ok : (a.plus (P0, oI)).Ok) (N : News h₀ L h nx) (hS : ∀ q ∈ a.S, q.1 ≠ P0) (hcI : oI.cls = .type "list_iterator") (hdI : ∃ u v, oI.data = .fields #[u, .int v 0]) : Led w a (Mine.off P0 nx) now kp vs cap kept n D := by
  have hP : (P0, oI) ∈ nx := l.s0 _ (.head _)
  obtain ⟨t0, h1⟩ := l.mo
  obtain ⟨o, v, h2, e⟩ := l.cw
  have nm : a.mo ≠ P0 := fun e => ok.mo (P0, oI) (.head _) e.symm
  have nc : a.cw ≠ P0 := fun e => ok.cw (P0, oI) (.head _) e.symm
  have hk0 := l.nk
  have hk1 : kp ∉ a.mo :: a.cw :: a.ev :: 546 :: 494 :: P0 :: a.S.map (·.1) := hk0
  simp only [List.mem_cons, not_or] at hk1
  obtain ⟨k1, k2, k3, k4, k5, k6, k7⟩ := hk1
  refine ⟨fun q hq => mem_off (l.s0 q (.tail _ hq)) (hS q hq), ⟨t0, mem_off h1 nm⟩, ⟨o, v, mem_off h2 nc, e⟩, mem_off l.kpm k6, ?_, ⟨l.rows.1, fun i v r e1 e2 => ?_⟩, l.evs.offI N hP hcI, l.t1.offI N hP hcI hdI, l.t2.offI N hP hcI hdI⟩
  · unfold LawA.fixed
    simp only [List.mem_cons, not_or]
    exact ⟨k1, k2, k3, k4, k5, k7⟩
  · obtain ⟨x, b, c, d, e, hx⟩ := l.rows.2 i v r e1 e2
    exact ⟨x, b, c, d, e, mem_off hx (ne_it N hx hP hcI (li_ne _ (by decide)))⟩
end
/-- the law's loop between two turns -/
def LawJ (w : World) (a : LawA) (XX : Nat → Int) (KK : Nat → PySem.Str) (st lim am le its : Addr) (i : Nat) (m' : PySem.Str → Option Value) (nx : List (Addr × Obj)) : Prop :=
  ∃ now kept D kp vs cap n, (∀ p ∈ psL st lim am le its kp, m' p.1 = some p.2) ∧ Led w a nx now kp vs cap kept n D ∧ PInv XX KK now kept D ∧ kept.length ≤ i ∧ n ≤ 2 * i
set_option maxHeartbeats 8000000 in
theorem law_loop {w : World} {p : Program} {loose : List PySem.Str} {mean : ExcName → Option Value} {mg mb : PySem.Str → Option Value} {dp un : Nat} {gd : Option (List Code)} {cn : PySem.Str} {cs : Scope} {fa : Addr} {ccd : Value} {cl : List (PySem.Str × Addr)} {A₀ : Around} {base h₀ : Heap} {L : Addr} {m : PySem.Str → Option Value} {news : List (Addr × Obj)} {s : Shared} {Q : Flow → Shared → Prop} {E : Value → Shared → Prop}
    {a : LawA} {st std fn sg ex lim limd am le its cm : Addr} {tk1 tk2 tk3 tk4 t7 : Tok} {ocm osg oex : Obj} {itv amv lev nms rvs : List Value} {itc amc lec nnn rcap : Nat} {ddn : Option Addr} {sln : Array (Option Value)} {AA XX : Nat → Int} {KK : Nat → PySem.Str}
    (hcs : cs = sScope lawSt) (hcl : cl = [(PySem.Str.ofString "moment", cm), (PySem.Str.ofString "who", a.cw)])
    (B : Below A₀ base [] h₀) (F : Fr h₀ L s.heap m) (X : (HeapK w.params).In h₀) (N : News h₀ L s.heap news) (T : Top p loose mean mg mb h₀) (hk : cs.kind = .function)
    (ok : a.Ok) (hj : LawJ w a XX KK st lim am le its 0 m news) (hK : ∀ i j : Nat, i < 9 → j < 9 → KK i = KK j → i = j)
    (hrl : (a.rl, W.listOf rvs.toArray rcap) ∈ a.S) (hrv : ∀ (i : Nat) v, rvs[i]? = some v → ∃ n t, v = .int n t ∧ 0 ≤ n) (hr19 : rvs.length ≤ 19)
    (hnms : (HeapK w.params).lookup 604 = some ⟨.type "tuple", ddn, .seq nms.toArray nnn, sln⟩) (hnl : nms.length = 3)
    (HI : ∀ i, i < 3 → ItemAt w p loose mean mg mb a itv amv lev nms AA XX KK i)
    (hcm0 : (cm, ocm) ∈ a.S) (hcmd : ocm.data = .cell (some (.ref a.mo)))
    (hst0 : (st, instObj 597 std) ∈ a.S) (hstd0 : (std, storeD w fn sg ex a.ev tk1 tk2 tk3 tk4) ∈ a.S) (hfn0 : ∃ oc od fd sl, (fn, (⟨oc, od, .func fd, sl⟩ : Obj)) ∈ a.S)
    (hsg : (sg, osg) ∈ a.S) (hsgd : osg.IsDictOf (PySem.strKind PG w) []) (hsgl : (sg == sysModules) = false) (hex : (ex, oex) ∈ a.S) (hexd : oex.IsDictOf (PySem.strKind PG w) []) (hexl : (ex == sysModules) = false)
    (CK0 : ∀ now t, Call1 w p loose mean mg mb ((a.mo, W.listOf #[.int now t] 0) :: a.S) fn 20 200 [] (fun r => ∃ t, r = .int now t)) (hlo : (a.ev == sysModules) = false)
    (hl10 : (lim, instObj 202 limd) ∈ a.S) (hl20 : (limd, dictOf [⟨PyData.keyHash w.params (PySem.Str.ofString "storage"), .str (PySem.Str.ofString "storage") t7, .ref st⟩] 1) ∈ a.S)
    (hits0 : (its, W.listOf itv.toArray itc) ∈ a.S) (ham0 : (am, W.listOf amv.toArray amc) ∈ a.S) (hle0 : (le, W.listOf lev.toArray lec) ∈ a.S)
    (XT : (HeapK w.params).In base ∧ Top p loose mean mg mb base)
    (hdp : dp + 200 < recursionLimit) (hun : un + 2000 < cLine)
    (done : ∀ m₁ nx h tk, LawJ w a XX KK st lim am le its rvs.length m₁ nx → Fr h₀ L h m₁ → News h₀ L h nx → Q .next { s with heap := h, toks := tk }) :
    wpAny (model PG w) (ktrTop dp un gd cn cs L fa ccd cl []) (pyIter (.ref a.rl)) (fun it s₂ => LoopAtV PG w (ktrTop dp un gd cn cs L fa ccd cl []) h₀ (envX cn cs L fa ccd cl) (PySem.Str.ofString "n") loopB Q E it s₂) E s := by
  refine iter_any (vs := rvs) (nn := rcap) (fun i m' nx => LawJ w a XX KK st lim am le its i m' nx) rfl (fun i m' nx hJ => let ⟨_, _, _, _, _, _, _, _, l, _⟩ := hJ; l.s0 _ hrl) F N hj ?_ (fun m₁ nx h tk hJ F1 N1 => done m₁ nx h tk hJ F1 N1)
  rintro i v m₁ news₁ hh tk own hv hoff ⟨P0, oI, rfl, hcI, hdI⟩ ⟨now, kept, D, kp, vs, cap, n, hm, l, P, hkl, hn⟩ F1 N1
  obtain ⟨nv, tn, rfl, hn0⟩ := hrv i v hv
  have hi19 : i < rvs.length := (List.getElem?_eq_some_iff.mp hv).1
  have ok' := ok.plus l hoff
  have l' := l.plus hoff
  have hS : ∀ q ∈ a.S, q.1 ≠ P0 := fun q hq e => hoff (P0, oI) (List.mem_singleton.mpr rfl) q.1 (List.mem_map_of_mem (l.s0 q hq)) e.symm
  have up : a.S ⊆ (a.plus (P0, oI)).S := fun q hq => .tail _ hq
  have hm' : ∀ p ∈ [(PySem.Str.ofString "n", Value.int nv tn), (PySem.Str.ofString "store", .ref st), (PySem.Str.ofString "limiter", .ref lim), (PySem.Str.ofString "amounts", .ref am), (PySem.Str.ofString "lengths", .ref le), (PySem.Str.ofString "items", .ref its), (PySem.Str.ofString "kept", .ref kp), (PySem.Str.ofString "right", .bool true)], (fun y => if y = PySem.Str.ofString "n" then some (Value.int nv tn) else m₁ y) p.1 = some p.2 := by
    refine List.forall_mem_cons.mpr ⟨by rfl, fun p hp => ?_⟩
    have hne : p.1 ≠ PySem.Str.ofString "n" := by
      simp only [List.mem_cons, List.not_mem_nil, or_false] at hp
      rcases hp with rfl | rfl | rfl | rfl | rfl | rfl | rfl <;> (dsimp only; decide)
    dsimp only
    rw [if_neg hne]
    exact hm p hp
  have hvl := l.rows.1
  refine law_head (a := a.plus (P0, oI)) hcs hcl B F1 X N1 T hk ok' l' hm' hn0 (up hcm0) hcmd (by omega) hnms hnl (up hits0) (up ham0) (up hle0) (fun i hi => let ⟨it, d, C, M, t8, t9, t10, t11, t12, t13, tA, tL, h1, h2⟩ := HI i hi; ⟨it, d, C, M, t8, t9, t10, t11, t12, t13, tA, tL, h1, h2.more up⟩) hdp hun ?_
  intro i2 j z deed cost it d C M c t8 t9 t10 t11 t12 t13 tA tL twh ttot tfst td tc tw ow m2 nx2 h2 tk2 hi3 hj3 hz hc0 hc1 HR KF hm2 l2 hcw hcwd F2 N2
  refine law_if (a := a.plus (P0, oI)) hcs hcl B F2 X N2 T hk ok' l2 hm2 hi3 hj3 hc0 hc1 HR KF hcw hcwd (P.later (by omega)) hK (by omega) (by omega) (up hcm0) hcmd (up hst0) (up hstd0) (let ⟨oc, od, fd, sl, h⟩ := hfn0; ⟨oc, od, fd, sl, up h⟩) (up hsg) hsgd hsgl (up hex) hexd hexl (fun now t => (CK0 now t).more (List.cons_subset_cons _ up)) hlo (up hl10) (up hl20) (up hits0) (up ham0) (up hle0) XT hdp hun ?_
  intro kp' vs' cap' kept' n' D' m3 nx3 h3 tk3 hm3 l3 P3 hn3 hk3 F3 N3
  exact InvEndG.off F3 N3 (l3.s0 _ (.head _)) ⟨_, kept', D', kp', vs', cap', n', hm3, l3.minus ok' N3 hS hcI hdI, P3, by omega, by omega⟩



end

section
theorem fill_JT6 : PySem.Challenge.rw_jb0022_01.prog = PySem.Challenge.rw_jb0022_01.prog ∧ HeapK = HeapK := by { k_fill; exact ⟨rfl, rfl⟩ }

def sVal : Stmt → PySem.Expr
  | .Assign _ v _ => v
  | _ => .Constant .none 0 ⟨0, 0, 0, 0⟩
def eArg0 : PySem.Expr → PySem.Expr
  | .Call _ (a :: _) _ _ => a
  | e => e
def lamBody : PySem.Expr → PySem.Expr
  | .Lambda _ b _ _ => b
  | e => e
def lamScope : PySem.Expr → Scope
  | .Lambda _ _ s _ => s
  | _ => { kind := .module, names := [], isGenerator := false, isCoroutine := false }
def lamArgs : PySem.Expr → Arguments
  | .Lambda a _ _ _ => a
  | _ => { posonlyargs := [], args := [], vararg := none, kwonlyargs := [], kw_defaults := [], kwarg := none, defaults := [] }
def clkE : PySem.Expr := eArg0 (sVal (nth (sBody lawSt) 2))
local macro_rules | `(tactic| walk_at "eval Name") => `(tactic| (refine Stop.mk ?_))
local macro_rules | `(tactic| walk_at "subscriptTail") => `(tactic| (refine Stop.mk ?_))
set_option maxHeartbeats 8000000 in
theorem clock_c {w : World} {p : Program} {loose : List PySem.Str} {mean : ExcName → Option Value} {mg mb : PySem.Str → Option Value} {S : List (Addr × Obj)} {fn c' cm mo : Addr} {oc' ocm : Obj} {vs' : Array Value} {q nm2 : PySem.Str} {tq : Tok} {md ct : Value} {now : Int} {t : Tok} {cl : List (PySem.Str × Addr)} {par : Arguments} {bod : PySem.Expr} {sco : Scope}
    (e1 : par = lamArgs clkE) (e2 : bod = lamBody clkE) (e3 : sco = lamScope clkE) (e4 : cl = [(PySem.Str.ofString "moment", cm)])
    (hf : (fn, kla_obj nm2 q par bod sco cl md c' ct) ∈ S) (hc : (c', oc') ∈ S) (hd : oc'.data = .fields vs') (hv : vs'[1]? = some (.str q tq)) (hm : (cm, ocm) ∈ S) (hmd : ocm.data = .cell (some (.ref mo))) (hmo : (mo, W.listOf #[.int now t] 0) ∈ S) :
    Call1 w p loose mean mg mb S fn 20 200 [] (fun r => ∃ t, r = .int now t) := by
  conv at e1 => rhs; whnf
  conv at e2 => rhs; whnf
  conv at e3 => rhs; whnf
  subst e1 e2 e3 e4
  unfold Call1
  intro dp un gd cn cs a ccd cl outer A₀ base h₀ L m news s Q E B F X N T hk hS hdp hun ret
  have hf1 := hS hf
  have hc1 := hS hc
  have hm1 := hS hm
  have hmo1 := hS hmo
  refine wpAny_call ?_
  k_dflt kla_enter
  k_steps
  unfold Stop
  k_dflt (refine nameX_F (by k_asm) (by rfl) hm1 hmd ?_)
  k_steps
  unfold Stop
  k_dflt (refine item_lst (vs := [.int now t]) (by k_asm) hmo1 (by decide) (by decide) rfl ?_)
  k_steps
  all_goals exact ret _ _ _ ⟨_, rfl⟩ (by k_asm) (by k_asm)
/-- the key of one item for one of the three callers -/
def keyOf (A M : Int) (nm : PySem.Str) (j : Nat) : PySem.Str :=
  keyT ((match j with | 0 => [PySem.Str.ofString "a"] | 1 => [PySem.Str.ofString "b"] | _ => [PySem.Str.ofString "a", PySem.Str.ofString "b"]) ++ [PySem.Str.ofString (toString A), PySem.Str.ofString (toString M), nm])
def keyI (A0 A1 A2 : Int) (who : Nat) : PySem.Str :=
  match who % 3 with
  | 0 => keyOf A0 10 (PySem.Str.ofString "second") (who / 3)
  | 1 => keyOf A1 1 (PySem.Str.ofString "minute") (who / 3)
  | _ => keyOf A2 33 (PySem.Str.ofString "second") (who / 3)
def digs : List PySem.Str := [PySem.Str.ofString "1", PySem.Str.ofString "2", PySem.Str.ofString "3", PySem.Str.ofString "4", PySem.Str.ofString "5", PySem.Str.ofString "6"]
theorem dig_mem {A : Int} (h0 : 1 ≤ A) (h1 : A ≤ 6) : PySem.Str.ofString (toString A) ∈ digs := by
  have : A = 1 ∨ A = 2 ∨ A = 3 ∨ A = 4 ∨ A = 5 ∨ A = 6 := by omega
  rcases this with rfl | rfl | rfl | rfl | rfl | rfl <;> decide +kernel
def keyS (x y : PySem.Str) (nm : PySem.Str) (j : Nat) : PySem.Str :=
  keyT ((match j with | 0 => [PySem.Str.ofString "a"] | 1 => [PySem.Str.ofString "b"] | _ => [PySem.Str.ofString "a", PySem.Str.ofString "b"]) ++ [x, y, nm])
def keyW (x : PySem.Str) (who : Nat) : PySem.Str :=
  match who % 3 with
  | 0 => keyS x (PySem.Str.ofString "10") (PySem.Str.ofString "second") (who / 3)
  | 1 => keyS x (PySem.Str.ofString "1") (PySem.Str.ofString "minute") (who / 3)
  | _ => keyS x (PySem.Str.ofString "33") (PySem.Str.ofString "second") (who / 3)
theorem keyW_inj : ∀ x ∈ digs, ∀ y ∈ digs, ∀ i ∈ List.range 9, ∀ j ∈ List.range 9, keyW x i = keyW y j → i = j := by decide +kernel
theorem s10 : PySem.Str.ofString (toString (10 : Int)) = PySem.Str.ofString "10" := by decide +kernel
theorem s1 : PySem.Str.ofString (toString (1 : Int)) = PySem.Str.ofString "1" := by decide +kernel
theorem s33 : PySem.Str.ofString (toString (33 : Int)) = PySem.Str.ofString "33" := by decide +kernel
theorem keyI_W {A0 A1 A2 : Int} {i : Nat} : keyI A0 A1 A2 i = keyW (PySem.Str.ofString (toString (match i % 3 with | 0 => A0 | 1 => A1 | _ => A2))) i := by
  unfold keyI keyW
  split <;> rename_i h <;> simp only [keyOf, keyS, s10, s1, s33]
theorem keyI_inj {A0 A1 A2 : Int} (h0 : 1 ≤ A0 ∧ A0 ≤ 6) (h1 : 1 ≤ A1 ∧ A1 ≤ 6) (h2 : 1 ≤ A2 ∧ A2 ≤ 6) (i j : Nat) (hi : i < 9) (hj : j < 9) (e : keyI A0 A1 A2 i = keyI A0 A1 A2 j) : i = j := by
  rw [keyI_W, keyI_W] at e
  refine keyW_inj _ ?_ _ ?_ i (List.mem_range.mpr hi) j (List.mem_range.mpr hj) e
  · split
    · exact dig_mem h0.1 h0.2
    · exact dig_mem h1.1 h1.2
    · exact dig_mem h2.1 h2.2
  · split
    · exact dig_mem h0.1 h0.2
    · exact dig_mem h1.1 h1.2
    · exact dig_mem h2.1 h2.2


end

end

section
theorem fill_JT7 : PySem.Challenge.rw_jb0022_01.prog = PySem.Challenge.rw_jb0022_01.prog ∧ HeapK = HeapK := by { k_fill; exact ⟨rfl, rfl⟩ }

theorem ne_obj {h₀ h : Heap} {L a b : Addr} {x y : Obj} {news : List (Addr × Obj)} (N : News h₀ L h news) (h1 : (a, x) ∈ news) (h2 : (b, y) ∈ news) (hd : x ≠ y) : a ≠ b := by
  intro e
  subst e
  have e1 := (N _ h1).1
  rw [(N _ h2).1] at e1
  cases e1
  exact hd rfl
section
variable {w : World} {p : Program} {loose : List PySem.Str} {mean : ExcName → Option Value} {mg mb : PySem.Str → Option Value} {S : List (Addr × Obj)}
theorem ge_call {it d C G dG : Addr} {A M W : Int} {nm : PySem.Str} {sl : Array (Option Value)} {odG : Obj} {u v n : Nat} {t1 t2 t3 t4 t5 t6 : Tok} (hc1 : findIn (HeapK w.params) (.ref C) (PySem.Str.ofString "GRANULARITY") = some (some (.ref G))) (hc2 : plainGet (HeapK w.params) C (PySem.Str.ofString "GRANULARITY") = true)
    (hc3 : (HeapK w.params).lookup G = some ⟨.ref 322, some dG, .seq [.int W u, .str nm v].toArray n, sl⟩) (hc4 : (HeapK w.params).lookup dG = some odG)
    (hc5 : findIn (HeapK w.params) (.ref C) (PySem.Str.ofString "multiples") = some none) (hc6 : plainGet (HeapK w.params) C (PySem.Str.ofString "multiples") = true)
    (hc7 : findIn (HeapK w.params) (.ref C) (PySem.Str.ofString "amount") = some none) (hc8 : plainGet (HeapK w.params) C (PySem.Str.ofString "amount") = true)
    (hc9 : findIn (HeapK w.params) (.ref C) (PySem.Str.ofString "namespace") = some none) (hc10 : plainGet (HeapK w.params) C (PySem.Str.ofString "namespace") = true) (hc11 : hasDictIn (HeapK w.params) C = true) (hc12 : isClsIn (HeapK w.params) C = true) (hc13 : noGet (HeapK w.params) (some (.ref G)) = true) (hc14 : specialIn (HeapK w.params) (.ref G) (PySem.Str.ofString "__get__") = some none)
    (h1 : (it, instObj C d) ∈ S) (h2 : (d, itemD w A M (.str (PySem.Str.ofString "LIMITER") t6) t1 t2 t3 t4 t5) ∈ S) (hM0 : 0 ≤ M) (hM1 : M ≤ 60) (hW0 : 0 ≤ W) (hW1 : W ≤ 60) {x : Int} (hx : W * M = x) :
    Call1 w p loose mean mg mb S 357 10 60 [.ref it] (fun r => ∃ t, r = .int x t) := by
  subst hx
  intro dp un gd cn cs a ccd cl outer A₀ base h₀ L m news s Q E B F X N T hk hS hdp hun ret
  exact get_expiry B F X N T hk hc1 hc2 hc3 hc4 hc5 hc6 hc7 hc8 hc9 hc10 hc11 hc12 hc13 hc14 (hS h1) (hS h2) hM0 (by omega) hW0 (by omega) hdp hun fun t h' tk' F' N' => ret _ h' tk' ⟨t, rfl⟩ F' N'
theorem kf1_call {it d C G dG : Addr} {A M W : Int} {nm : PySem.Str} {sl : Array (Option Value)} {odG : Obj} {u v n : Nat} {t1 t2 t3 t4 t5 t6 : Tok} {I : Addr} {nI : Nat} {slI : Array (Option Value)} {c1 : PySem.Str} {u1 : Tok} {dxI : Option Addr} (hc1 : findIn (HeapK w.params) (.ref C) (PySem.Str.ofString "GRANULARITY") = some (some (.ref G))) (hc2 : plainGet (HeapK w.params) C (PySem.Str.ofString "GRANULARITY") = true)
    (hc3 : (HeapK w.params).lookup G = some ⟨.ref 322, some dG, .seq [.int W u, .str nm v].toArray n, sl⟩) (hc4 : (HeapK w.params).lookup dG = some odG)
    (hc5 : findIn (HeapK w.params) (.ref C) (PySem.Str.ofString "multiples") = some none) (hc6 : plainGet (HeapK w.params) C (PySem.Str.ofString "multiples") = true)
    (hc7 : findIn (HeapK w.params) (.ref C) (PySem.Str.ofString "amount") = some none) (hc8 : plainGet (HeapK w.params) C (PySem.Str.ofString "amount") = true)
    (hc9 : findIn (HeapK w.params) (.ref C) (PySem.Str.ofString "namespace") = some none) (hc10 : plainGet (HeapK w.params) C (PySem.Str.ofString "namespace") = true) (hc11 : hasDictIn (HeapK w.params) C = true) (hc12 : isClsIn (HeapK w.params) C = true) (hc13 : noGet (HeapK w.params) (some (.ref G)) = true) (hc14 : specialIn (HeapK w.params) (.ref G) (PySem.Str.ofString "__get__") = some none)
    (hI : (HeapK w.params).lookup I = some ⟨.type "tuple", dxI, .seq [.str c1 u1].toArray nI, slI⟩) (hc1l : c1.length ≤ 11) (hgl : nm.length ≤ 11)
    (h1 : (it, instObj C d) ∈ S) (h2 : (d, itemD w A M (.str (PySem.Str.ofString "LIMITER") t6) t1 t2 t3 t4 t5) ∈ S) (hA0 : 1 ≤ A) (hA1 : A ≤ 9) (hM0 : 0 ≤ M) (hM1 : M ≤ 60) {key : PySem.Str} (hx : keyT [c1, PySem.Str.ofString (toString A), PySem.Str.ofString (toString M), nm] = key) :
    Call1 w p loose mean mg mb S 364 20 200 [.ref it, .ref I] (fun r => ∃ t, r = .str key t) := by
  subst hx
  intro dp un gd cn cs a ccd cl outer A₀ base h₀ L m news s Q E B F X N T hk hS hdp hun ret
  exact key_for1 (dI := 0) B F X N T hk hc1 hc2 hc3 hc4 hc5 hc6 hc7 hc8 hc9 hc10 hc11 hc12 hc13 hc14 hI hc1l hgl (hS h1) (hS h2) hA0 hA1 hM0 hM1 hdp hun fun t h' tk' F' N' => ret _ h' tk' ⟨t, rfl⟩ F' N'
theorem kf2_call {it d C G dG : Addr} {A M W : Int} {nm : PySem.Str} {sl : Array (Option Value)} {odG : Obj} {u v n : Nat} {t1 t2 t3 t4 t5 t6 : Tok} {I : Addr} {nI : Nat} {slI : Array (Option Value)} {c1 c2 : PySem.Str} {u1 u2 : Tok} {dxI : Option Addr} (hc1 : findIn (HeapK w.params) (.ref C) (PySem.Str.ofString "GRANULARITY") = some (some (.ref G))) (hc2 : plainGet (HeapK w.params) C (PySem.Str.ofString "GRANULARITY") = true)
    (hc3 : (HeapK w.params).lookup G = some ⟨.ref 322, some dG, .seq [.int W u, .str nm v].toArray n, sl⟩) (hc4 : (HeapK w.params).lookup dG = some odG)
    (hc5 : findIn (HeapK w.params) (.ref C) (PySem.Str.ofString "multiples") = some none) (hc6 : plainGet (HeapK w.params) C (PySem.Str.ofString "multiples") = true)
    (hc7 : findIn (HeapK w.params) (.ref C) (PySem.Str.ofString "amount") = some none) (hc8 : plainGet (HeapK w.params) C (PySem.Str.ofString "amount") = true)
    (hc9 : findIn (HeapK w.params) (.ref C) (PySem.Str.ofString "namespace") = some none) (hc10 : plainGet (HeapK w.params) C (PySem.Str.ofString "namespace") = true) (hc11 : hasDictIn (HeapK w.params) C = true) (hc12 : isClsIn (HeapK w.params) C = true) (hc13 : noGet (HeapK w.params) (some (.ref G)) = true) (hc14 : specialIn (HeapK w.params) (.ref G) (PySem.Str.ofString "__get__") = some none)
    (hI : (HeapK w.params).lookup I = some ⟨.type "tuple", dxI, .seq [.str c1 u1, .str c2 u2].toArray nI, slI⟩) (hc1l : c1.length ≤ 11) (hc2l : c2.length ≤ 11) (hgl : nm.length ≤ 11)
    (h1 : (it, instObj C d) ∈ S) (h2 : (d, itemD w A M (.str (PySem.Str.ofString "LIMITER") t6) t1 t2 t3 t4 t5) ∈ S) (hA0 : 1 ≤ A) (hA1 : A ≤ 9) (hM0 : 0 ≤ M) (hM1 : M ≤ 60) {key : PySem.Str} (hx : keyT [c1, c2, PySem.Str.ofString (toString A), PySem.Str.ofString (toString M), nm] = key) :
    Call1 w p loose mean mg mb S 364 20 200 [.ref it, .ref I] (fun r => ∃ t, r = .str key t) := by
  subst hx
  intro dp un gd cn cs a ccd cl outer A₀ base h₀ L m news s Q E B F X N T hk hS hdp hun ret
  exact key_for2 (dI := 0) B F X N T hk hc1 hc2 hc3 hc4 hc5 hc6 hc7 hc8 hc9 hc10 hc11 hc12 hc13 hc14 hI hc1l hc2l hgl (hS h1) (hS h2) hA0 hA1 hM0 hM1 hdp hun fun t h' tk' F' N' => ret _ h' tk' ⟨t, rfl⟩ F' N'
end
def xx (i : Nat) : Int := match i with | 0 => 10 | 1 => 60 | _ => 33
def aa (A0 A1 A2 : Int) (i : Nat) : Int := match i with | 0 => A0 | 1 => A1 | _ => A2
set_option maxHeartbeats 8000000 in
theorem law_start {w : World} {p : Program} {loose : List PySem.Str} {mean : ExcName → Option Value} {mg mb : PySem.Str → Option Value} {dp un : Nat} {gd : Option (List Code)} {cn : PySem.Str} {cs : Scope} {fa : Addr} {ccd : Value} {cl0 : List (PySem.Str × Addr)} {A₀ : Around} {base h₀ : Heap} {L : Addr} {m : PySem.Str → Option Value} {news : List (Addr × Obj)} {s : Shared} {Q : Flow → Shared → Prop} {E : Value → Shared → Prop}
    {its i0 d0 i1 d1 i2 d2 le am lim limd ev ex sg st std fn c' mo rl cm cw kp : Addr} {osg oex oev oc' ocm ocw : Obj} {A0 A1 A2 : Int} {b00 b01 b02 b03 b04 b05 b10 b11 b12 b13 b14 b15 b20 b21 b22 b23 b24 b25 u0 u1 u2 v0 v1 v2 t7 tk1 tk2 tk3 tk4 tm tq : Tok} {vw : Option Value} {rvs : List Value} {rcap : Nat} {nm2 qn : PySem.Str} {pt : Array Value} {par : Arguments} {bod : PySem.Expr} {sco : Scope} {cl : List (PySem.Str × Addr)} {md ct : Value} {vs' : Array Value}
    (hcs : cs = sScope lawSt) (hcl : cl0 = [(PySem.Str.ofString "moment", cm), (PySem.Str.ofString "who", cw)])
    (B : Below A₀ base [] h₀) (F : Fr h₀ L s.heap m) (X : (HeapK w.params).In h₀) (N : News h₀ L s.heap news) (T : Top p loose mean mg mb h₀) (hk : cs.kind = .function) (XT : (HeapK w.params).In base ∧ Top p loose mean mg mb base)
    (hn : ∀ q ∈ [(its, W.listOf #[Value.ref i0, .ref i1, .ref i2] 0), (i0, instObj 424 d0), (d0, itemD w A0 10 (.str (PySem.Str.ofString "LIMITER") b00) b01 b02 b03 b04 b05), (i1, instObj 407 d1), (d1, itemD w A1 1 (.str (PySem.Str.ofString "LIMITER") b10) b11 b12 b13 b14 b15), (i2, instObj 424 d2), (d2, itemD w A2 33 (.str (PySem.Str.ofString "LIMITER") b20) b21 b22 b23 b24 b25), (le, W.listOf #[Value.int 10 u0, .int 60 u1, .int 33 u2] 0), (am, W.listOf #[Value.int A0 v0, .int A1 v1, .int A2 v2] 0), (lim, instObj 202 limd), (limd, dictOf [⟨PyData.keyHash w.params (PySem.Str.ofString "storage"), .str (PySem.Str.ofString "storage") t7, .ref st⟩] 1), (st, instObj 597 std), (std, storeD w fn sg ex ev tk1 tk2 tk3 tk4), (ex, oex), (sg, osg), (fn, kla_obj nm2 qn par bod sco cl md c' ct), (c', oc'), (rl, W.listOf rvs.toArray rcap), (cm, ocm), (613, tabObj pt)], q ∈ news) (hmo : (mo, W.listOf #[.int 700000 tm] 0) ∈ news) (hcw : (cw, ocw) ∈ news) (hcwd : ocw.data = .cell vw) (hkp : (kp, W.listOf #[] 0) ∈ news) (hev : (ev, oev) ∈ news) (hevd : oev.IsDictOf (PySem.strKind PG w) []) (h546 : (546, tabObj #[]) ∈ news) (h494 : (494, tabObj #[]) ∈ news)
    (hm : ∀ p ∈ [(PySem.Str.ofString "store", Value.ref st), (PySem.Str.ofString "limiter", .ref lim), (PySem.Str.ofString "amounts", .ref am), (PySem.Str.ofString "lengths", .ref le), (PySem.Str.ofString "items", .ref its), (PySem.Str.ofString "kept", .ref kp), (PySem.Str.ofString "right", .bool true)], m p.1 = some p.2)
    (hA0 : 1 ≤ A0 ∧ A0 ≤ 6) (hA1 : 1 ≤ A1 ∧ A1 ≤ 6) (hA2 : 1 ≤ A2 ∧ A2 ≤ 6)
    (hcc : cm ≠ cw) (hne_d0 : d0 ≠ ev) (hne_d1 : d1 ≠ ev) (hne_d2 : d2 ≠ ev) (hne_limd : limd ≠ ev) (hne_ex : ex ≠ ev) (hne_sg : sg ≠ ev) (hne_std : std ≠ ev)
    (hrv : ∀ (i : Nat) v, rvs[i]? = some v → ∃ n t, v = .int n t ∧ 0 ≤ n) (hr19 : rvs.length ≤ 19) (hr3 : 3 ≤ rvs.length)
    (hcmd : ocm.data = .cell (some (.ref mo))) (hsgd : osg.IsDictOf (PySem.strKind PG w) []) (hsgl : (sg == sysModules) = false) (hexd : oex.IsDictOf (PySem.strKind PG w) []) (hexl : (ex == sysModules) = false) (hlo : (ev == sysModules) = false)
    (hcqd : oc'.data = .fields vs') (hcqv : vs'[1]? = some (.str qn tq)) (e1 : par = lamArgs clkE) (e2 : bod = lamBody clkE) (e3 : sco = lamScope clkE) (e4 : cl = [(PySem.Str.ofString "moment", cm)])
    (hdp : dp + 200 < recursionLimit) (hun : un + 2000 < cLine)
    (done : ∀ m₁ nx h tk, LawJ w (LawA.mk [(its, W.listOf #[Value.ref i0, .ref i1, .ref i2] 0), (i0, instObj 424 d0), (d0, itemD w A0 10 (.str (PySem.Str.ofString "LIMITER") b00) b01 b02 b03 b04 b05), (i1, instObj 407 d1), (d1, itemD w A1 1 (.str (PySem.Str.ofString "LIMITER") b10) b11 b12 b13 b14 b15), (i2, instObj 424 d2), (d2, itemD w A2 33 (.str (PySem.Str.ofString "LIMITER") b20) b21 b22 b23 b24 b25), (le, W.listOf #[Value.int 10 u0, .int 60 u1, .int 33 u2] 0), (am, W.listOf #[Value.int A0 v0, .int A1 v1, .int A2 v2] 0), (lim, instObj 202 limd), (limd, dictOf [⟨PyData.keyHash w.params (PySem.Str.ofString "storage"), .str (PySem.Str.ofString "storage") t7, .ref st⟩] 1), (st, instObj 597 std), (std, storeD w fn sg ex ev tk1 tk2 tk3 tk4), (ex, oex), (sg, osg), (fn, kla_obj nm2 qn par bod sco cl md c' ct), (c', oc'), (rl, W.listOf rvs.toArray rcap), (cm, ocm), (613, tabObj pt)] ev mo cw rl) xx (keyI A0 A1 A2) st lim am le its rvs.length m₁ nx → Fr h₀ L h m₁ → News h₀ L h nx → Q .next { s with heap := h, toks := tk }) :
    wpAny (model PG w) (ktrTop dp un gd cn cs L fa ccd cl0 []) (pyIter (.ref rl)) (fun it s₂ => LoopAtV PG w (ktrTop dp un gd cn cs L fa ccd cl0 []) h₀ (envX cn cs L fa ccd cl0) (PySem.Str.ofString "n") loopB Q E it s₂) E s := by
  have h_its := hn _ (.head _)
  have h_i0 := hn _ (.tail _ (.head _))
  have h_d0 := hn _ (.tail _ (.tail _ (.head _)))
  have h_i1 := hn _ (.tail _ (.tail _ (.tail _ (.head _))))
  have h_d1 := hn _ (.tail _ (.tail _ (.tail _ (.tail _ (.head _)))))
  have h_i2 := hn _ (.tail _ (.tail _ (.tail _ (.tail _ (.tail _ (.head _))))))
  have h_d2 := hn _ (.tail _ (.tail _ (.tail _ (.tail _ (.tail _ (.tail _ (.head _)))))))
  have h_le := hn _ (.tail _ (.tail _ (.tail _ (.tail _ (.tail _ (.tail _ (.tail _ (.head _))))))))
  have h_am := hn _ (.tail _ (.tail _ (.tail _ (.tail _ (.tail _ (.tail _ (.tail _ (.tail _ (.head _)))))))))
  have h_lim := hn _ (.tail _ (.tail _ (.tail _ (.tail _ (.tail _ (.tail _ (.tail _ (.tail _ (.tail _ (.head _))))))))))
  have h_limd := hn _ (.tail _ (.tail _ (.tail _ (.tail _ (.tail _ (.tail _ (.tail _ (.tail _ (.tail _ (.tail _ (.head _)))))))))))
  have h_st := hn _ (.tail _ (.tail _ (.tail _ (.tail _ (.tail _ (.tail _ (.tail _ (.tail _ (.tail _ (.tail _ (.tail _ (.head _))))))))))))
  have h_std := hn _ (.tail _ (.tail _ (.tail _ (.tail _ (.tail _ (.tail _ (.tail _ (.tail _ (.tail _ (.tail _ (.tail _ (.tail _ (.head _)))))))))))))
  have h_ex := hn _ (.tail _ (.tail _ (.tail _ (.tail _ (.tail _ (.tail _ (.tail _ (.tail _ (.tail _ (.tail _ (.tail _ (.tail _ (.tail _ (.head _))))))))))))))
  have h_sg := hn _ (.tail _ (.tail _ (.tail _ (.tail _ (.tail _ (.tail _ (.tail _ (.tail _ (.tail _ (.tail _ (.tail _ (.tail _ (.tail _ (.tail _ (.head _)))))))))))))))
  have h_fn := hn _ (.tail _ (.tail _ (.tail _ (.tail _ (.tail _ (.tail _ (.tail _ (.tail _ (.tail _ (.tail _ (.tail _ (.tail _ (.tail _ (.tail _ (.tail _ (.head _))))))))))))))))
  have h_cq := hn _ (.tail _ (.tail _ (.tail _ (.tail _ (.tail _ (.tail _ (.tail _ (.tail _ (.tail _ (.tail _ (.tail _ (.tail _ (.tail _ (.tail _ (.tail _ (.tail _ (.head _)))))))))))))))))
  have h_rl := hn _ (.tail _ (.tail _ (.tail _ (.tail _ (.tail _ (.tail _ (.tail _ (.tail _ (.tail _ (.tail _ (.tail _ (.tail _ (.tail _ (.tail _ (.tail _ (.tail _ (.tail _ (.head _))))))))))))))))))
  have h_cm := hn _ (.tail _ (.tail _ (.tail _ (.tail _ (.tail _ (.tail _ (.tail _ (.tail _ (.tail _ (.tail _ (.tail _ (.tail _ (.tail _ (.tail _ (.tail _ (.tail _ (.tail _ (.tail _ (.head _)))))))))))))))))))
  have h_t3 := hn _ (.tail _ (.tail _ (.tail _ (.tail _ (.tail _ (.tail _ (.tail _ (.tail _ (.tail _ (.tail _ (.tail _ (.tail _ (.tail _ (.tail _ (.tail _ (.tail _ (.tail _ (.tail _ (.tail _ (.head _))))))))))))))))))))
  have hevx : oev.data = .dict #[] 0 ∨ True := .inr trivial
  clear hevx
  obtain ⟨ees, eep, _, hevx, _⟩ := id hevd
  have ok : (LawA.mk [(its, W.listOf #[Value.ref i0, .ref i1, .ref i2] 0), (i0, instObj 424 d0), (d0, itemD w A0 10 (.str (PySem.Str.ofString "LIMITER") b00) b01 b02 b03 b04 b05), (i1, instObj 407 d1), (d1, itemD w A1 1 (.str (PySem.Str.ofString "LIMITER") b10) b11 b12 b13 b14 b15), (i2, instObj 424 d2), (d2, itemD w A2 33 (.str (PySem.Str.ofString "LIMITER") b20) b21 b22 b23 b24 b25), (le, W.listOf #[Value.int 10 u0, .int 60 u1, .int 33 u2] 0), (am, W.listOf #[Value.int A0 v0, .int A1 v1, .int A2 v2] 0), (lim, instObj 202 limd), (limd, dictOf [⟨PyData.keyHash w.params (PySem.Str.ofString "storage"), .str (PySem.Str.ofString "storage") t7, .ref st⟩] 1), (st, instObj 597 std), (std, storeD w fn sg ex ev tk1 tk2 tk3 tk4), (ex, oex), (sg, osg), (fn, kla_obj nm2 qn par bod sco cl md c' ct), (c', oc'), (rl, W.listOf rvs.toArray rcap), (cm, ocm), (613, tabObj pt)] ev mo cw rl).Ok := ⟨List.forall_mem_cons.mpr ⟨ne_obj N h_its hmo (by intro e; simpa [W.listOf] using e), List.forall_mem_cons.mpr ⟨ne_cls N h_i0 hmo (by nofun), List.forall_mem_cons.mpr ⟨ne_cls N h_d0 hmo (fun e => list_dict e.symm), List.forall_mem_cons.mpr ⟨ne_cls N h_i1 hmo (by nofun), List.forall_mem_cons.mpr ⟨ne_cls N h_d1 hmo (fun e => list_dict e.symm), List.forall_mem_cons.mpr ⟨ne_cls N h_i2 hmo (by nofun), List.forall_mem_cons.mpr ⟨ne_cls N h_d2 hmo (fun e => list_dict e.symm), List.forall_mem_cons.mpr ⟨ne_obj N h_le hmo (by intro e; simpa [W.listOf] using e), List.forall_mem_cons.mpr ⟨ne_obj N h_am hmo (by intro e; simpa [W.listOf] using e), List.forall_mem_cons.mpr ⟨ne_cls N h_lim hmo (by nofun), List.forall_mem_cons.mpr ⟨ne_cls N h_limd hmo (fun e => list_dict e.symm), List.forall_mem_cons.mpr ⟨ne_cls N h_st hmo (by nofun), List.forall_mem_cons.mpr ⟨ne_cls N h_std hmo (fun e => list_dict e.symm), List.forall_mem_cons.mpr ⟨ne_cls N h_ex hmo (by rw [dict_cls hexd]; exact fun e => list_dict e.symm), List.forall_mem_cons.mpr ⟨ne_cls N h_sg hmo (by rw [dict_cls hsgd]; exact fun e => list_dict e.symm), List.forall_mem_cons.mpr ⟨ne_dat N h_fn hmo (by nofun), List.forall_mem_cons.mpr ⟨ne_dat N h_cq hmo (by rw [hcqd]; nofun), List.forall_mem_cons.mpr ⟨ne_obj N h_rl hmo (by intro e; have e2 := congrArg Obj.data e; simp only [W.listOf, Data.seq.injEq] at e2; have e3 := congrArg Array.size e2.1; simp at e3; omega), List.forall_mem_cons.mpr ⟨ne_dat N h_cm hmo (by rw [hcmd]; nofun), List.forall_mem_cons.mpr ⟨ne_dat N h_t3 hmo (by nofun), fun _ h => nomatch h⟩⟩⟩⟩⟩⟩⟩⟩⟩⟩⟩⟩⟩⟩⟩⟩⟩⟩⟩⟩, List.forall_mem_cons.mpr ⟨ne_dat N h_its hcw (by rw [hcwd]; nofun), List.forall_mem_cons.mpr ⟨ne_dat N h_i0 hcw (by rw [hcwd]; nofun), List.forall_mem_cons.mpr ⟨ne_dat N h_d0 hcw (by rw [hcwd]; nofun), List.forall_mem_cons.mpr ⟨ne_dat N h_i1 hcw (by rw [hcwd]; nofun), List.forall_mem_cons.mpr ⟨ne_dat N h_d1 hcw (by rw [hcwd]; nofun), List.forall_mem_cons.mpr ⟨ne_dat N h_i2 hcw (by rw [hcwd]; nofun), List.forall_mem_cons.mpr ⟨ne_dat N h_d2 hcw (by rw [hcwd]; nofun), List.forall_mem_cons.mpr ⟨ne_dat N h_le hcw (by rw [hcwd]; nofun), List.forall_mem_cons.mpr ⟨ne_dat N h_am hcw (by rw [hcwd]; nofun), List.forall_mem_cons.mpr ⟨ne_dat N h_lim hcw (by rw [hcwd]; nofun), List.forall_mem_cons.mpr ⟨ne_dat N h_limd hcw (by rw [hcwd]; nofun), List.forall_mem_cons.mpr ⟨ne_dat N h_st hcw (by rw [hcwd]; nofun), List.forall_mem_cons.mpr ⟨ne_dat N h_std hcw (by rw [hcwd]; nofun), List.forall_mem_cons.mpr ⟨ne_dat N h_ex hcw (by obtain ⟨es, ep, _, x, _⟩ := hexd; rw [hcwd, x]; nofun), List.forall_mem_cons.mpr ⟨ne_dat N h_sg hcw (by obtain ⟨es, ep, _, x, _⟩ := hsgd; rw [hcwd, x]; nofun), List.forall_mem_cons.mpr ⟨ne_dat N h_fn hcw (by rw [hcwd]; nofun), List.forall_mem_cons.mpr ⟨ne_dat N h_cq hcw (by rw [hcqd, hcwd]; nofun), List.forall_mem_cons.mpr ⟨ne_dat N h_rl hcw (by rw [hcwd]; nofun), List.forall_mem_cons.mpr ⟨hcc, List.forall_mem_cons.mpr ⟨ne_dat N h_t3 hcw (by rw [hcwd]; nofun), fun _ h => nomatch h⟩⟩⟩⟩⟩⟩⟩⟩⟩⟩⟩⟩⟩⟩⟩⟩⟩⟩⟩⟩, List.forall_mem_cons.mpr ⟨ne_dat N h_its hev (by rw [hevx]; nofun), List.forall_mem_cons.mpr ⟨ne_dat N h_i0 hev (by rw [hevx]; nofun), List.forall_mem_cons.mpr ⟨hne_d0, List.forall_mem_cons.mpr ⟨ne_dat N h_i1 hev (by rw [hevx]; nofun), List.forall_mem_cons.mpr ⟨hne_d1, List.forall_mem_cons.mpr ⟨ne_dat N h_i2 hev (by rw [hevx]; nofun), List.forall_mem_cons.mpr ⟨hne_d2, List.forall_mem_cons.mpr ⟨ne_dat N h_le hev (by rw [hevx]; nofun), List.forall_mem_cons.mpr ⟨ne_dat N h_am hev (by rw [hevx]; nofun), List.forall_mem_cons.mpr ⟨ne_dat N h_lim hev (by rw [hevx]; nofun), List.forall_mem_cons.mpr ⟨hne_limd, List.forall_mem_cons.mpr ⟨ne_dat N h_st hev (by rw [hevx]; nofun), List.forall_mem_cons.mpr ⟨hne_std, List.forall_mem_cons.mpr ⟨hne_ex, List.forall_mem_cons.mpr ⟨hne_sg, List.forall_mem_cons.mpr ⟨ne_dat N h_fn hev (by rw [hevx]; nofun), List.forall_mem_cons.mpr ⟨ne_dat N h_cq hev (by rw [hcqd, hevx]; nofun), List.forall_mem_cons.mpr ⟨ne_dat N h_rl hev (by rw [hevx]; nofun), List.forall_mem_cons.mpr ⟨ne_dat N h_cm hev (by rw [hcmd, hevx]; nofun), List.forall_mem_cons.mpr ⟨ne_dat N h_t3 hev (by rw [hevx]; nofun), fun _ h => nomatch h⟩⟩⟩⟩⟩⟩⟩⟩⟩⟩⟩⟩⟩⟩⟩⟩⟩⟩⟩⟩, List.forall_mem_cons.mpr ⟨ne_dat N h_its h546 (by nofun), List.forall_mem_cons.mpr ⟨ne_dat N h_i0 h546 (by nofun), List.forall_mem_cons.mpr ⟨ne_dat N h_d0 h546 (by nofun), List.forall_mem_cons.mpr ⟨ne_dat N h_i1 h546 (by nofun), List.forall_mem_cons.mpr ⟨ne_dat N h_d1 h546 (by nofun), List.forall_mem_cons.mpr ⟨ne_dat N h_i2 h546 (by nofun), List.forall_mem_cons.mpr ⟨ne_dat N h_d2 h546 (by nofun), List.forall_mem_cons.mpr ⟨ne_dat N h_le h546 (by nofun), List.forall_mem_cons.mpr ⟨ne_dat N h_am h546 (by nofun), List.forall_mem_cons.mpr ⟨ne_dat N h_lim h546 (by nofun), List.forall_mem_cons.mpr ⟨ne_dat N h_limd h546 (by nofun), List.forall_mem_cons.mpr ⟨ne_dat N h_st h546 (by nofun), List.forall_mem_cons.mpr ⟨ne_dat N h_std h546 (by nofun), List.forall_mem_cons.mpr ⟨ne_cls N h_ex h546 (by rw [dict_cls hexd]; nofun), List.forall_mem_cons.mpr ⟨ne_cls N h_sg h546 (by rw [dict_cls hsgd]; nofun), List.forall_mem_cons.mpr ⟨ne_dat N h_fn h546 (by nofun), List.forall_mem_cons.mpr ⟨ne_obj N h_cq h546 (by intro e; have e2 := congrArg Obj.data e; rw [hcqd] at e2; simp only [tabObj, Data.fields.injEq] at e2; rw [e2] at hcqv; simp at hcqv), List.forall_mem_cons.mpr ⟨ne_dat N h_rl h546 (by nofun), List.forall_mem_cons.mpr ⟨ne_dat N h_cm h546 (by rw [hcmd]; nofun), List.forall_mem_cons.mpr ⟨(by show (613 : Nat) ≠ 546; decide), fun _ h => nomatch h⟩⟩⟩⟩⟩⟩⟩⟩⟩⟩⟩⟩⟩⟩⟩⟩⟩⟩⟩⟩, List.forall_mem_cons.mpr ⟨ne_dat N h_its h494 (by nofun), List.forall_mem_cons.mpr ⟨ne_dat N h_i0 h494 (by nofun), List.forall_mem_cons.mpr ⟨ne_dat N h_d0 h494 (by nofun), List.forall_mem_cons.mpr ⟨ne_dat N h_i1 h494 (by nofun), List.forall_mem_cons.mpr ⟨ne_dat N h_d1 h494 (by nofun), List.forall_mem_cons.mpr ⟨ne_dat N h_i2 h494 (by nofun), List.forall_mem_cons.mpr ⟨ne_dat N h_d2 h494 (by nofun), List.forall_mem_cons.mpr ⟨ne_dat N h_le h494 (by nofun), List.forall_mem_cons.mpr ⟨ne_dat N h_am h494 (by nofun), List.forall_mem_cons.mpr ⟨ne_dat N h_lim h494 (by nofun), List.forall_mem_cons.mpr ⟨ne_dat N h_limd h494 (by nofun), List.forall_mem_cons.mpr ⟨ne_dat N h_st h494 (by nofun), List.forall_mem_cons.mpr ⟨ne_dat N h_std h494 (by nofun), List.forall_mem_cons.mpr ⟨ne_cls N h_ex h494 (by rw [dict_cls hexd]; nofun), List.forall_mem_cons.mpr ⟨ne_cls N h_sg h494 (by rw [dict_cls hsgd]; nofun), List.forall_mem_cons.mpr ⟨ne_dat N h_fn h494 (by nofun), List.forall_mem_cons.mpr ⟨ne_obj N h_cq h494 (by intro e; have e2 := congrArg Obj.data e; rw [hcqd] at e2; simp only [tabObj, Data.fields.injEq] at e2; rw [e2] at hcqv; simp at hcqv), List.forall_mem_cons.mpr ⟨ne_dat N h_rl h494 (by nofun), List.forall_mem_cons.mpr ⟨ne_dat N h_cm h494 (by rw [hcmd]; nofun), List.forall_mem_cons.mpr ⟨(by show (613 : Nat) ≠ 494; decide), fun _ h => nomatch h⟩⟩⟩⟩⟩⟩⟩⟩⟩⟩⟩⟩⟩⟩⟩⟩⟩⟩⟩⟩⟩
  have hnk : kp ∉ (LawA.mk [(its, W.listOf #[Value.ref i0, .ref i1, .ref i2] 0), (i0, instObj 424 d0), (d0, itemD w A0 10 (.str (PySem.Str.ofString "LIMITER") b00) b01 b02 b03 b04 b05), (i1, instObj 407 d1), (d1, itemD w A1 1 (.str (PySem.Str.ofString "LIMITER") b10) b11 b12 b13 b14 b15), (i2, instObj 424 d2), (d2, itemD w A2 33 (.str (PySem.Str.ofString "LIMITER") b20) b21 b22 b23 b24 b25), (le, W.listOf #[Value.int 10 u0, .int 60 u1, .int 33 u2] 0), (am, W.listOf #[Value.int A0 v0, .int A1 v1, .int A2 v2] 0), (lim, instObj 202 limd), (limd, dictOf [⟨PyData.keyHash w.params (PySem.Str.ofString "storage"), .str (PySem.Str.ofString "storage") t7, .ref st⟩] 1), (st, instObj 597 std), (std, storeD w fn sg ex ev tk1 tk2 tk3 tk4), (ex, oex), (sg, osg), (fn, kla_obj nm2 qn par bod sco cl md c' ct), (c', oc'), (rl, W.listOf rvs.toArray rcap), (cm, ocm), (613, tabObj pt)] ev mo cw rl).fixed := by
    unfold LawA.fixed
    simp only [List.map_cons, List.map_nil, List.mem_cons, List.not_mem_nil, or_false, not_or]
    exact ⟨ne_obj N hkp hmo (by intro e; simpa [W.listOf] using e), ne_dat N hkp hcw (by rw [hcwd]; nofun), ne_dat N hkp hev (by rw [hevx]; nofun), ne_dat N hkp h546 (by nofun), ne_dat N hkp h494 (by nofun), ne_obj N hkp h_its (by intro e; simpa [W.listOf] using e), ne_dat N hkp h_i0 (by nofun), ne_cls N hkp h_d0 list_dict, ne_dat N hkp h_i1 (by nofun), ne_cls N hkp h_d1 list_dict, ne_dat N hkp h_i2 (by nofun), ne_cls N hkp h_d2 list_dict, ne_obj N hkp h_le (by intro e; simpa [W.listOf] using e), ne_obj N hkp h_am (by intro e; simpa [W.listOf] using e), ne_dat N hkp h_lim (by nofun), ne_cls N hkp h_limd list_dict, ne_dat N hkp h_st (by nofun), ne_cls N hkp h_std list_dict, ne_cls N hkp h_ex (by rw [dict_cls hexd]; exact list_dict), ne_cls N hkp h_sg (by rw [dict_cls hsgd]; exact list_dict), ne_dat N hkp h_fn (by nofun), ne_dat N hkp h_cq (by rw [hcqd]; nofun), ne_obj N hkp h_rl (by intro e; have e2 := congrArg Obj.data e; simp only [W.listOf, Data.seq.injEq] at e2; have e3 := congrArg Array.size e2.1; simp at e3; omega), ne_dat N hkp h_cm (by rw [hcmd]; nofun), ne_dat N hkp h_t3 (by nofun)⟩
  have hj : LawJ w (LawA.mk [(its, W.listOf #[Value.ref i0, .ref i1, .ref i2] 0), (i0, instObj 424 d0), (d0, itemD w A0 10 (.str (PySem.Str.ofString "LIMITER") b00) b01 b02 b03 b04 b05), (i1, instObj 407 d1), (d1, itemD w A1 1 (.str (PySem.Str.ofString "LIMITER") b10) b11 b12 b13 b14 b15), (i2, instObj 424 d2), (d2, itemD w A2 33 (.str (PySem.Str.ofString "LIMITER") b20) b21 b22 b23 b24 b25), (le, W.listOf #[Value.int 10 u0, .int 60 u1, .int 33 u2] 0), (am, W.listOf #[Value.int A0 v0, .int A1 v1, .int A2 v2] 0), (lim, instObj 202 limd), (limd, dictOf [⟨PyData.keyHash w.params (PySem.Str.ofString "storage"), .str (PySem.Str.ofString "storage") t7, .ref st⟩] 1), (st, instObj 597 std), (std, storeD w fn sg ex ev tk1 tk2 tk3 tk4), (ex, oex), (sg, osg), (fn, kla_obj nm2 qn par bod sco cl md c' ct), (c', oc'), (rl, W.listOf rvs.toArray rcap), (cm, ocm), (613, tabObj pt)] ev mo cw rl) xx (keyI A0 A1 A2) st lim am le its 0 m news :=
    ⟨700000, [], fun _ => [], kp, [], 0, 0, hm, ⟨hn, ⟨tm, hmo⟩, ⟨ocw, vw, hcw, hcwd⟩, hkp, hnk, ⟨rfl, fun i v r e => by cases e⟩, ⟨oev, [], hev, hevd, Nat.le_refl _, (fun k b e => by simp [valueAt] at e), fun k => .inl ⟨rfl, rfl⟩⟩, ⟨#[], h546, .inl rfl⟩, ⟨#[], h494, .inl rfl⟩⟩,
      ⟨fun r hr => (by cases hr), List.Pairwise.nil, fun who _ => ⟨[], rfl, fun d hd => (by cases hd)⟩, fun k _ => rfl⟩, Nat.le_refl _, Nat.le_refl _⟩
  refine law_loop (nms := [.ref 601, .ref 602, .ref 603]) hcs hcl B F X N T hk ok hj (keyI_inj ⟨by omega, by omega⟩ ⟨by omega, by omega⟩ ⟨by omega, by omega⟩) (.tail _ (.tail _ (.tail _ (.tail _ (.tail _ (.tail _ (.tail _ (.tail _ (.tail _ (.tail _ (.tail _ (.tail _ (.tail _ (.tail _ (.tail _ (.tail _ (.tail _ (.head _)))))))))))))))))) hrv hr19 (by k_dflt k_is) rfl (AA := aa A0 A1 A2) ?_ (.tail _ (.tail _ (.tail _ (.tail _ (.tail _ (.tail _ (.tail _ (.tail _ (.tail _ (.tail _ (.tail _ (.tail _ (.tail _ (.tail _ (.tail _ (.tail _ (.tail _ (.tail _ (.head _))))))))))))))))))) hcmd (.tail _ (.tail _ (.tail _ (.tail _ (.tail _ (.tail _ (.tail _ (.tail _ (.tail _ (.tail _ (.tail _ (.head _)))))))))))) (.tail _ (.tail _ (.tail _ (.tail _ (.tail _ (.tail _ (.tail _ (.tail _ (.tail _ (.tail _ (.tail _ (.tail _ (.head _))))))))))))) ⟨_, _, _, _, .tail _ (.tail _ (.tail _ (.tail _ (.tail _ (.tail _ (.tail _ (.tail _ (.tail _ (.tail _ (.tail _ (.tail _ (.tail _ (.tail _ (.tail _ (.head _)))))))))))))))⟩ (.tail _ (.tail _ (.tail _ (.tail _ (.tail _ (.tail _ (.tail _ (.tail _ (.tail _ (.tail _ (.tail _ (.tail _ (.tail _ (.tail _ (.head _))))))))))))))) hsgd hsgl (.tail _ (.tail _ (.tail _ (.tail _ (.tail _ (.tail _ (.tail _ (.tail _ (.tail _ (.tail _ (.tail _ (.tail _ (.tail _ (.head _)))))))))))))) hexd hexl ?_ hlo (.tail _ (.tail _ (.tail _ (.tail _ (.tail _ (.tail _ (.tail _ (.tail _ (.tail _ (.head _)))))))))) (.tail _ (.tail _ (.tail _ (.tail _ (.tail _ (.tail _ (.tail _ (.tail _ (.tail _ (.tail _ (.head _))))))))))) (itv := [.ref i0, .ref i1, .ref i2]) (.head _) (amv := [.int A0 v0, .int A1 v1, .int A2 v2]) (.tail _ (.tail _ (.tail _ (.tail _ (.tail _ (.tail _ (.tail _ (.tail _ (.head _))))))))) (lev := [.int 10 u0, .int 60 u1, .int 33 u2]) (.tail _ (.tail _ (.tail _ (.tail _ (.tail _ (.tail _ (.tail _ (.head _)))))))) XT hdp hun done
  · intro i hi
    have hi' : i = 0 ∨ i = 1 ∨ i = 2 := by omega
    rcases hi' with rfl | rfl | rfl
    · refine ⟨i0, d0, 424, 10, b00, b01, b02, b03, b04, b05, v0, u0, rfl, ?_⟩
      refine ItemR.mk rfl rfl (.tail _ (.head _)) (.tail _ (.tail _ (.head _))) (by k_dflt k_is) (by k_dflt k_is) (by k_dflt k_is) (by k_dflt k_is) (by k_dflt k_is) (by k_dflt k_is) (by k_dflt k_is) (by k_dflt k_is) ?_ ?_ (by show 1 ≤ A0; omega) (by show A0 ≤ 9; omega) (by decide)
      · exact ge_call (by k_dflt k_is) (by k_dflt k_is) (by k_dflt k_is) (by k_dflt k_is) (by k_dflt k_is) (by k_dflt k_is) (by k_dflt k_is) (by k_dflt k_is) (by k_dflt k_is) (by k_dflt k_is) (by k_dflt k_is) (by k_dflt k_is) (by k_dflt k_is) (by k_dflt k_is) (.tail _ (.head _)) (.tail _ (.tail _ (.head _))) (by decide) (by decide) (by decide) (by decide) (by decide)
      · intro j nm hj hn
        have hj' : j = 0 ∨ j = 1 ∨ j = 2 := by omega
        rcases hj' with rfl | rfl | rfl
        · cases hn
          exact ⟨_, rfl, kf1_call (by k_dflt k_is) (by k_dflt k_is) (by k_dflt k_is) (by k_dflt k_is) (by k_dflt k_is) (by k_dflt k_is) (by k_dflt k_is) (by k_dflt k_is) (by k_dflt k_is) (by k_dflt k_is) (by k_dflt k_is) (by k_dflt k_is) (by k_dflt k_is) (by k_dflt k_is) (by k_dflt k_is) (by decide) (by decide) (.tail _ (.head _)) (.tail _ (.tail _ (.head _))) (by omega) (by omega) (by decide) (by decide) rfl⟩
        · cases hn
          exact ⟨_, rfl, kf1_call (by k_dflt k_is) (by k_dflt k_is) (by k_dflt k_is) (by k_dflt k_is) (by k_dflt k_is) (by k_dflt k_is) (by k_dflt k_is) (by k_dflt k_is) (by k_dflt k_is) (by k_dflt k_is) (by k_dflt k_is) (by k_dflt k_is) (by k_dflt k_is) (by k_dflt k_is) (by k_dflt k_is) (by decide) (by decide) (.tail _ (.head _)) (.tail _ (.tail _ (.head _))) (by omega) (by omega) (by decide) (by decide) rfl⟩
        · cases hn
          exact ⟨_, rfl, kf2_call (by k_dflt k_is) (by k_dflt k_is) (by k_dflt k_is) (by k_dflt k_is) (by k_dflt k_is) (by k_dflt k_is) (by k_dflt k_is) (by k_dflt k_is) (by k_dflt k_is) (by k_dflt k_is) (by k_dflt k_is) (by k_dflt k_is) (by k_dflt k_is) (by k_dflt k_is) (by k_dflt k_is) (by decide) (by decide) (by decide) (.tail _ (.head _)) (.tail _ (.tail _ (.head _))) (by omega) (by omega) (by decide) (by decide) rfl⟩
    · refine ⟨i1, d1, 407, 1, b10, b11, b12, b13, b14, b15, v1, u1, rfl, ?_⟩
      refine ItemR.mk rfl rfl (.tail _ (.tail _ (.tail _ (.head _)))) (.tail _ (.tail _ (.tail _ (.tail _ (.head _))))) (by k_dflt k_is) (by k_dflt k_is) (by k_dflt k_is) (by k_dflt k_is) (by k_dflt k_is) (by k_dflt k_is) (by k_dflt k_is) (by k_dflt k_is) ?_ ?_ (by show 1 ≤ A1; omega) (by show A1 ≤ 9; omega) (by decide)
      · exact ge_call (by k_dflt k_is) (by k_dflt k_is) (by k_dflt k_is) (by k_dflt k_is) (by k_dflt k_is) (by k_dflt k_is) (by k_dflt k_is) (by k_dflt k_is) (by k_dflt k_is) (by k_dflt k_is) (by k_dflt k_is) (by k_dflt k_is) (by k_dflt k_is) (by k_dflt k_is) (.tail _ (.tail _ (.tail _ (.head _)))) (.tail _ (.tail _ (.tail _ (.tail _ (.head _))))) (by decide) (by decide) (by decide) (by decide) (by decide)
      · intro j nm hj hn
        have hj' : j = 0 ∨ j = 1 ∨ j = 2 := by omega
        rcases hj' with rfl | rfl | rfl
        · cases hn
          exact ⟨_, rfl, kf1_call (by k_dflt k_is) (by k_dflt k_is) (by k_dflt k_is) (by k_dflt k_is) (by k_dflt k_is) (by k_dflt k_is) (by k_dflt k_is) (by k_dflt k_is) (by k_dflt k_is) (by k_dflt k_is) (by k_dflt k_is) (by k_dflt k_is) (by k_dflt k_is) (by k_dflt k_is) (by k_dflt k_is) (by decide) (by decide) (.tail _ (.tail _ (.tail _ (.head _)))) (.tail _ (.tail _ (.tail _ (.tail _ (.head _))))) (by omega) (by omega) (by decide) (by decide) rfl⟩
        · cases hn
          exact ⟨_, rfl, kf1_call (by k_dflt k_is) (by k_dflt k_is) (by k_dflt k_is) (by k_dflt k_is) (by k_dflt k_is) (by k_dflt k_is) (by k_dflt k_is) (by k_dflt k_is) (by k_dflt k_is) (by k_dflt k_is) (by k_dflt k_is) (by k_dflt k_is) (by k_dflt k_is) (by k_dflt k_is) (by k_dflt k_is) (by decide) (by decide) (.tail _ (.tail _ (.tail _ (.head _)))) (.tail _ (.tail _ (.tail _ (.tail _ (.head _))))) (by omega) (by omega) (by decide) (by decide) rfl⟩
        · cases hn
          exact ⟨_, rfl, kf2_call (by k_dflt k_is) (by k_dflt k_is) (by k_dflt k_is) (by k_dflt k_is) (by k_dflt k_is) (by k_dflt k_is) (by k_dflt k_is) (by k_dflt k_is) (by k_dflt k_is) (by k_dflt k_is) (by k_dflt k_is) (by k_dflt k_is) (by k_dflt k_is) (by k_dflt k_is) (by k_dflt k_is) (by decide) (by decide) (by decide) (.tail _ (.tail _ (.tail _ (.head _)))) (.tail _ (.tail _ (.tail _ (.tail _ (.head _))))) (by omega) (by omega) (by decide) (by decide) rfl⟩
    · refine ⟨i2, d2, 424, 33, b20, b21, b22, b23, b24, b25, v2, u2, rfl, ?_⟩
      refine ItemR.mk rfl rfl (.tail _ (.tail _ (.tail _ (.tail _ (.tail _ (.head _)))))) (.tail _ (.tail _ (.tail _ (.tail _ (.tail _ (.tail _ (.head _))))))) (by k_dflt k_is) (by k_dflt k_is) (by k_dflt k_is) (by k_dflt k_is) (by k_dflt k_is) (by k_dflt k_is) (by k_dflt k_is) (by k_dflt k_is) ?_ ?_ (by show 1 ≤ A2; omega) (by show A2 ≤ 9; omega) (by decide)
      · exact ge_call (by k_dflt k_is) (by k_dflt k_is) (by k_dflt k_is) (by k_dflt k_is) (by k_dflt k_is) (by k_dflt k_is) (by k_dflt k_is) (by k_dflt k_is) (by k_dflt k_is) (by k_dflt k_is) (by k_dflt k_is) (by k_dflt k_is) (by k_dflt k_is) (by k_dflt k_is) (.tail _ (.tail _ (.tail _ (.tail _ (.tail _ (.head _)))))) (.tail _ (.tail _ (.tail _ (.tail _ (.tail _ (.tail _ (.head _))))))) (by decide) (by decide) (by decide) (by decide) (by decide)
      · intro j nm hj hn
        have hj' : j = 0 ∨ j = 1 ∨ j = 2 := by omega
        rcases hj' with rfl | rfl | rfl
        · cases hn
          exact ⟨_, rfl, kf1_call (by k_dflt k_is) (by k_dflt k_is) (by k_dflt k_is) (by k_dflt k_is) (by k_dflt k_is) (by k_dflt k_is) (by k_dflt k_is) (by k_dflt k_is) (by k_dflt k_is) (by k_dflt k_is) (by k_dflt k_is) (by k_dflt k_is) (by k_dflt k_is) (by k_dflt k_is) (by k_dflt k_is) (by decide) (by decide) (.tail _ (.tail _ (.tail _ (.tail _ (.tail _ (.head _)))))) (.tail _ (.tail _ (.tail _ (.tail _ (.tail _ (.tail _ (.head _))))))) (by omega) (by omega) (by decide) (by decide) rfl⟩
        · cases hn
          exact ⟨_, rfl, kf1_call (by k_dflt k_is) (by k_dflt k_is) (by k_dflt k_is) (by k_dflt k_is) (by k_dflt k_is) (by k_dflt k_is) (by k_dflt k_is) (by k_dflt k_is) (by k_dflt k_is) (by k_dflt k_is) (by k_dflt k_is) (by k_dflt k_is) (by k_dflt k_is) (by k_dflt k_is) (by k_dflt k_is) (by decide) (by decide) (.tail _ (.tail _ (.tail _ (.tail _ (.tail _ (.head _)))))) (.tail _ (.tail _ (.tail _ (.tail _ (.tail _ (.tail _ (.head _))))))) (by omega) (by omega) (by decide) (by decide) rfl⟩
        · cases hn
          exact ⟨_, rfl, kf2_call (by k_dflt k_is) (by k_dflt k_is) (by k_dflt k_is) (by k_dflt k_is) (by k_dflt k_is) (by k_dflt k_is) (by k_dflt k_is) (by k_dflt k_is) (by k_dflt k_is) (by k_dflt k_is) (by k_dflt k_is) (by k_dflt k_is) (by k_dflt k_is) (by k_dflt k_is) (by k_dflt k_is) (by decide) (by decide) (by decide) (.tail _ (.tail _ (.tail _ (.tail _ (.tail _ (.head _)))))) (.tail _ (.tail _ (.tail _ (.tail _ (.tail _ (.tail _ (.head _))))))) (by omega) (by omega) (by decide) (by decide) rfl⟩
  · intro now t
    exact clock_c e1 e2 e3 e4 (.tail _ (.tail _ (.tail _ (.tail _ (.tail _ (.tail _ (.tail _ (.tail _ (.tail _ (.tail _ (.tail _ (.tail _ (.tail _ (.tail _ (.tail _ (.tail _ (.head _))))))))))))))))) (.tail _ (.tail _ (.tail _ (.tail _ (.tail _ (.tail _ (.tail _ (.tail _ (.tail _ (.tail _ (.tail _ (.tail _ (.tail _ (.tail _ (.tail _ (.tail _ (.tail _ (.head _)))))))))))))))))) hcqd hcqv (.tail _ (.tail _ (.tail _ (.tail _ (.tail _ (.tail _ (.tail _ (.tail _ (.tail _ (.tail _ (.tail _ (.tail _ (.tail _ (.tail _ (.tail _ (.tail _ (.tail _ (.tail _ (.tail _ (.head _)))))))))))))))))))) hcmd (.head _)



end

end

section
local macro_rules | `(tactic| k_room) => `(tactic| ktr_room)
local macro_rules | `(tactic| k_units) => `(tactic| ktr_units)

section
theorem fill_JT8 : PySem.Challenge.rw_jb0022_01.prog = PySem.Challenge.rw_jb0022_01.prog ∧ HeapK = HeapK := by { k_fill; exact ⟨rfl, rfl⟩ }

theorem amt (x c d : Int) (hc : 1 ≤ c) (hd : 0 < d) (h6 : c + d ≤ 7) : 1 ≤ c + x.fmod d ∧ c + x.fmod d ≤ 6 := by
  have h1 := Int.fmod_nonneg_of_pos x hd
  have h2 := Int.fmod_lt_of_pos x hd
  omega
theorem ints_at {vs : List Value} {ns : List Int} (h : IntsAre vs ns) : ∀ (i : Nat) v, vs[i]? = some v → ∃ n t, v = .int n t ∧ n ∈ ns := by
  induction h with
  | nil => intro i v e; cases e
  | cons n t h ih =>
    intro i v e
    cases i with
    | zero => cases e; exact ⟨n, t, rfl, .head _⟩
    | succ i => obtain ⟨n', t', e1, e2⟩ := ih i v e; exact ⟨n', t', e1, .tail _ e2⟩
theorem ints_nn {vs : List Value} {ns : List Int} (h : IntsAre vs (List.map (fun k' => k'.fmod 1000000007) ns ++ [216, 803, 2])) (i : Nat) (v : Value) (e : vs[i]? = some v) : ∃ n t, v = .int n t ∧ 0 ≤ n := by
  obtain ⟨n, t, e1, e2⟩ := ints_at h i v e
  refine ⟨n, t, e1, ?_⟩
  rcases List.mem_append.mp e2 with e2 | e2
  · obtain ⟨k, _, rfl⟩ := List.mem_map.mp e2
    exact Int.fmod_nonneg_of_pos _ (by decide)
  · simp only [List.mem_cons, List.not_mem_nil, or_false] at e2
    rcases e2 with rfl | rfl | rfl <;> decide
theorem ints_len {vs : List Value} {ns : List Int} (h : IntsAre vs (List.map (fun k' => k'.fmod 1000000007) (List.take 16 ns) ++ [216, 803, 2])) : vs.length ≤ 19 := by
  have := h.length
  rw [List.length_append, List.length_map, List.length_take] at this
  simp only [List.length_cons, List.length_nil] at this
  omega
theorem ints_len3 {vs : List Value} {ns : List Int} (h : IntsAre vs (List.map (fun k' => k'.fmod 1000000007) (List.take 16 ns) ++ [216, 803, 2])) : 3 ≤ vs.length := by
  have := h.length
  rw [List.length_append, List.length_map, List.length_take] at this
  simp only [List.length_cons, List.length_nil] at this
  omega
local macro_rules | `(tactic| walk_at "exec For Name Name cons nil") => `(tactic| (refine Stop1.mk ?_))
local macro_rules | `(tactic| walk_at "exec For") => `(tactic| (refine Stop1.mk ?_))
local macro_rules | `(tactic| walk_at "pyIter ref") => `(tactic| (refine Stop1.mk ?_))
set_option maxHeartbeats 8000000 in
theorem law_all {w : World} {p : Program} {loose : List PySem.Str} {mean : ExcName → Option Value} {mg mb : PySem.Str → Option Value} {dp un : Nat} {gd : Option (List Code)} {cn : PySem.Str} {cs : Scope} {fa : Addr} {cl0 : List (PySem.Str × Addr)} {A₀ : Around} {base h₀ : Heap} {L : Addr} {m : PySem.Str → Option Value} {s : Shared} {Q : Flow → Shared → Prop} {E : Value → Shared → Prop}
    {sc cm cw : Addr} {om ow : Obj} {v0 v1 : Option Value} {vs : List Value} {ns : List Int}
    (hcs : cs = sScope lawSt) (hcl : cl0 = [(PySem.Str.ofString "moment", cm), (PySem.Str.ofString "who", cw)])
    (B : Below A₀ base [] h₀) (F : Fr h₀ L s.heap m) (X : (HeapK w.params).In h₀) (N : News h₀ L s.heap [(cm, om), (cw, ow), (546, tabObj #[]), (494, tabObj #[]), (613, tabObj #[])]) (T : Top p loose mean mg mb h₀) (hk : cs.kind = .function) (XT : (HeapK w.params).In base ∧ Top p loose mean mg mb base)
    (CH : CodeHd h₀ 615 613) (hom : om.data = .cell v0) (how : ow.data = .cell v1) (hsc : m (PySem.Str.ofString "script") = some (.ref sc)) (hil : h₀.IsList sc vs.toArray) (hin : IntsAre vs ns) (hlen : ns.length ≤ 63)
    (hlt : @LT.lt Nat _ 546 cw ∧ @LT.lt Nat _ 494 cw ∧ @LT.lt Nat _ 613 cw ∧ @LT.lt Nat _ cw cm)
    (hdp : dp + 300 < recursionLimit) (hun : un + 3000 < cLine)
    (hE : PassesOwn (model PG w) (ktrTop dp un gd cn cs L fa (.ref 615) cl0 []) (envX cn cs L fa (.ref 615) cl0) E)
    (ret : ∀ nx h' tk' m' p1 p2 p3, Fr h₀ L h' m' → News h₀ L h' nx → (546, tabObj p1) ∈ nx → (494, tabObj p2) ∈ nx → (613, tabObj p3) ∈ nx → Q (.ret (.bool true)) { s with heap := h', toks := tk' }) :
    wpAny (model PG w) (ktrTop dp un gd cn cs L fa (.ref 615) cl0 []) (execs (sBody lawSt) (envX cn cs L fa (.ref 615) cl0)) Q E s := by
  have hfr : m = kstB m [(PySem.Str.ofString "script", .ref sc)] := funext fun z => (kstB_eq (by intro q hq; rw [List.mem_singleton.mp hq]; exact hsc) (fun _ => rfl)).symm
  rw [hfr] at F
  subst hcs
  subst hcl
  obtain ⟨hlt1, hlt2, hlt3, hlt4⟩ := hlt
  conv => pattern (execs _ _); arg 1; whnf
  k_steps
  unfold Stop1
  (rename Fr _ _ _ _ => lF')
  (with_unfolding_all refine' For_invVF (hE := hE) lF' ?fk1 ?fk2 ?_; (case fk1 => exact rfl); (case fk2 => exact rfl))
  k_steps
  unfold Stop1
  have fm : ∀ a b : Int, 0 < b → 0 ≤ a.fmod b ∧ a.fmod b < b := fun a b hb => ⟨Int.fmod_nonneg_of_pos _ hb, Int.fmod_lt_of_pos _ hb⟩
  (rename IntsAre _ (_ ++ _) => lI)
  refine' law_start rfl rfl ?xB ?xF ?xX ?xN ?xT rfl XT ?xn ?xmo ?xcw how ?xkp ?xev ?xevd ?x546 ?x494 ?xm ?xA0 ?xA1 ?xA2 ?xcc ?y0 ?y1 ?y2 ?y3 ?y4 ?y5 ?y6 ?xrv ?xr19 ?xr3 ?xcmd ?xsg ?xsl ?xex ?xel ?xlo ?xqd ?xqv rfl rfl rfl rfl ?xdp ?xun ?xdone
  case xB => k_asm
  case xF => k_asm
  case xX => k_asm
  case xN => k_asm
  case xT => k_asm
  case xm => exact List.forall_mem_cons.mpr ⟨by rfl, List.forall_mem_cons.mpr ⟨by rfl, List.forall_mem_cons.mpr ⟨by rfl, List.forall_mem_cons.mpr ⟨by rfl, List.forall_mem_cons.mpr ⟨by rfl, List.forall_mem_cons.mpr ⟨by rfl, List.forall_mem_cons.mpr ⟨by rfl, List.forall_mem_nil _⟩⟩⟩⟩⟩⟩⟩
  case xn => exact List.forall_mem_cons.mpr ⟨by k_mem, List.forall_mem_cons.mpr ⟨by k_mem, List.forall_mem_cons.mpr ⟨by k_mem, List.forall_mem_cons.mpr ⟨by k_mem, List.forall_mem_cons.mpr ⟨by k_mem, List.forall_mem_cons.mpr ⟨by k_mem, List.forall_mem_cons.mpr ⟨by k_mem, List.forall_mem_cons.mpr ⟨by k_mem, List.forall_mem_cons.mpr ⟨by k_mem, List.forall_mem_cons.mpr ⟨by k_mem, List.forall_mem_cons.mpr ⟨by k_mem, List.forall_mem_cons.mpr ⟨by k_mem, List.forall_mem_cons.mpr ⟨by k_mem, List.forall_mem_cons.mpr ⟨by k_mem, List.forall_mem_cons.mpr ⟨by k_mem, List.forall_mem_cons.mpr ⟨by k_mem, List.forall_mem_cons.mpr ⟨by k_mem, List.forall_mem_cons.mpr ⟨by k_mem, List.forall_mem_cons.mpr ⟨by k_mem, List.forall_mem_cons.mpr ⟨by k_mem, List.forall_mem_nil _⟩⟩⟩⟩⟩⟩⟩⟩⟩⟩⟩⟩⟩⟩⟩⟩⟩⟩⟩⟩
  case xmo => k_mem
  case xcw => k_mem
  case xkp => k_mem
  case xev => k_mem
  case xevd => assumption
  case x546 => k_mem
  case x494 => k_mem
  case xA0 => exact amt _ 1 5 (by decide) (by decide) (by decide)
  case xA1 => exact amt _ 1 6 (by decide) (by decide) (by decide)
  case xA2 => exact amt _ 2 4 (by decide) (by decide) (by decide)
  case xcc => exact Nat.ne_of_gt hlt4
  case y0 => k_ne
  case y1 => k_ne
  case y2 => k_ne
  case y3 => k_ne
  case y4 => k_ne
  case y5 => k_ne
  case y6 => k_ne
  case xrv => exact ints_nn lI
  case xr19 => exact ints_len lI
  case xr3 => exact ints_len3 lI
  case xcmd => assumption
  case xsg => assumption
  case xsl => assumption
  case xex => assumption
  case xel => assumption
  case xlo => assumption
  case xqd => assumption
  case xqv => assumption
  case xdp => omega
  case xun => omega
  case xdone =>
    intro m₁ nx h tk hJ F1 N1
    obtain ⟨now, kept, D, kp2, vs2, cap2, n2, hm1, l1, _⟩ := hJ
    have hr := hm1 _ (.tail _ (.tail _ (.tail _ (.tail _ (.tail _ (.tail _ (.head _)))))))
    have em : m₁ = kstB m₁ [(PySem.Str.ofString "right", .bool true)] := funext fun z => (kstB_eq (by intro q hq; rw [List.mem_singleton.mp hq]; exact hr) (fun _ => rfl)).symm
    rw [em] at F1
    obtain ⟨p1, hp1, _⟩ := l1.t1
    obtain ⟨p2, hp2, _⟩ := l1.t2
    have hp3 := l1.s0 _ (.tail _ (.tail _ (.tail _ (.tail _ (.tail _ (.tail _ (.tail _ (.tail _ (.tail _ (.tail _ (.tail _ (.tail _ (.tail _ (.tail _ (.tail _ (.tail _ (.tail _ (.tail _ (.tail _ (.head _))))))))))))))))))))
    k_steps
    exact ret nx _ _ _ p1 p2 _ (by k_asm) (by k_asm) hp1 hp2 hp3



end

end

section
theorem fill_JF : PySem.Challenge.rw_jb0022_01.prog = PySem.Challenge.rw_jb0022_01.prog ∧ HeapK = HeapK := by { k_fill; exact ⟨rfl, rfl⟩ }
set_option maxHeartbeats 4000000 in
theorem dev1 : PySem.Challenge.rw_jb0022_01.Holds := by
  w_on
  refine holds_law said0 fun said => ?_
  refine holds_open (q := VW) (loose := lz) (Xt := XT) (XP := XL VW []) (Yf := Hook.obs HK) (Ya := Hook.val HK) (YP := Hook.says HK) (N := 11934) hl0 (Hook.of HK) (Hook.keeps HK) (fun s e => xl_of s (Bool.and_eq_true_iff.mp e).1) XL.keeps (by rfl) (by rfl) (by rfl) (fun s e => recFacts_of (Bool.and_eq_true_iff.mp e).2) (by rfl) (by assumption) (by decide +kernel) ⟨rfl, rfl, rfl, rfl, rfl, by decide +kernel⟩ ?hw ?hc
  case hw => w_witness2

  case hc =>
    k_go0
    (all_goals try k_fold)
    with_unfolding_all refine' law_all rfl rfl ?xB ?xF ?xX ?xN ?xT rfl ?xXT ?xCH ?xom ?xow ?xsc ?xil ?xin ?xlen ?xlt ?xdp ?xun ?xE ?xret
    case xB => k_asm
    case xF => k_asm
    case xX => k_asm
    case xN => k_asm
    case xT => k_asm
    case xCH => assumption
    case xom => assumption
    case xow => assumption
    case xsc => rfl
    case xil => assumption
    case xin => assumption
    case xXT => exact ⟨by assumption, by assumption⟩
    case xlen => omega
    case xlt =>
      (rename (546 < _ ∧ 494 < _ ∧ 613 < _) => l9)
      exact ⟨Nat.lt_succ_of_lt l9.1, Nat.lt_succ_of_lt l9.2.1, Nat.lt_succ_of_lt l9.2.2, Nat.lt_succ_self _⟩
    case xdp => decide
    case xun => decide
    case xE => passes_own
    case xret =>
      intro nx h' tk' m' p1 p2 p3 F9 N9 h1 h2 h3
      k_steps

end

end Mine

theorem PySem.Challenge.cw_jb0022_01_holds : PySem.Challenge.rw_jb0022_01.Holds := by
  exact Mine.dev1
