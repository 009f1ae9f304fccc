import PyProof.Rows.All
import Wide.All
import OpenK.AllK
import Wide.FinOn
import Lean
import PySem.Challenge.RW_to0043_01
set_option maxRecDepth 100000
set_option compiler.extract_closed false
section
set_option Elab.async false
section
open PySem PySem.W PyProof.Rows
namespace Mine
/-! the heap's written part, the view, the walk's statement -/
noncomputable def stAt : List Stmt → Nat → Stmt
  | s :: _, 0 => s
  | _ :: r, n + 1 => stAt r n
  | [], _ => .Pass ⟨0, 0, 0, 0⟩
noncomputable def bodOf : Stmt → List Stmt
  | .FunctionDef _ _ b _ _ _ _ _ _ _ => b
  | .ClassDef _ _ _ b _ _ _ _ _ _ _ => b
  | _ => []
noncomputable def parOf : Stmt → Arguments
  | .FunctionDef _ a _ _ _ _ _ _ _ _ => a
  | _ => ⟨[], [], none, [], [], none, []⟩
noncomputable def scoOf : Stmt → Scope
  | .FunctionDef _ _ _ _ _ _ s _ _ _ => s
  | _ => PySem.Challenge.pw_to0043_01.main.scope
noncomputable def posOf : Stmt → Pos
  | .FunctionDef _ _ _ _ _ _ _ _ _ p => p
  | _ => ⟨0, 0, 0, 0⟩
noncomputable def fd (n : Nat) : Stmt := stAt PySem.Challenge.pw_to0043_01.main.body n
noncomputable def fm (n : Nat) : Stmt := stAt (bodOf (fd 1)) n
noncomputable def kpm0 : Arguments := by
  refine' (?f : ∀ b : Arguments, parOf (fm 0) = b → Arguments) _ ?h
  case h => (conv => (lhs; whnf)); try exact rfl
  case f => exact fun b _ => b
noncomputable def kbm0 : List Stmt := by
  refine' (?f : ∀ b : List Stmt, bodOf (fm 0) = b → List Stmt) _ ?h
  case h => (conv => (lhs; whnf)); try exact rfl
  case f => exact fun b _ => b
noncomputable def ksm0 : Scope := by
  refine' (?f : ∀ b : Scope, scoOf (fm 0) = b → Scope) _ ?h
  case h => (conv => (lhs; whnf)); try exact rfl
  case f => exact fun b _ => b
noncomputable def kpm1 : Arguments := by
  refine' (?f : ∀ b : Arguments, parOf (fm 1) = b → Arguments) _ ?h
  case h => (conv => (lhs; whnf)); try exact rfl
  case f => exact fun b _ => b
noncomputable def kbm1 : List Stmt := by
  refine' (?f : ∀ b : List Stmt, bodOf (fm 1) = b → List Stmt) _ ?h
  case h => (conv => (lhs; whnf)); try exact rfl
  case f => exact fun b _ => b
noncomputable def ksm1 : Scope := by
  refine' (?f : ∀ b : Scope, scoOf (fm 1) = b → Scope) _ ?h
  case h => (conv => (lhs; whnf)); try exact rfl
  case f => exact fun b _ => b
noncomputable def kpm2 : Arguments := by
  refine' (?f : ∀ b : Arguments, parOf (fm 2) = b → Arguments) _ ?h
  case h => (conv => (lhs; whnf)); try exact rfl
  case f => exact fun b _ => b
noncomputable def kbm2 : List Stmt := by
  refine' (?f : ∀ b : List Stmt, bodOf (fm 2) = b → List Stmt) _ ?h
  case h => (conv => (lhs; whnf)); try exact rfl
  case f => exact fun b _ => b
noncomputable def ksm2 : Scope := by
  refine' (?f : ∀ b : Scope, scoOf (fm 2) = b → Scope) _ ?h
  case h => (conv => (lhs; whnf)); try exact rfl
  case f => exact fun b _ => b
noncomputable def kpm3 : Arguments := by
  refine' (?f : ∀ b : Arguments, parOf (fm 3) = b → Arguments) _ ?h
  case h => (conv => (lhs; whnf)); try exact rfl
  case f => exact fun b _ => b
noncomputable def kbm3 : List Stmt := by
  refine' (?f : ∀ b : List Stmt, bodOf (fm 3) = b → List Stmt) _ ?h
  case h => (conv => (lhs; whnf)); try exact rfl
  case f => exact fun b _ => b
noncomputable def ksm3 : Scope := by
  refine' (?f : ∀ b : Scope, scoOf (fm 3) = b → Scope) _ ?h
  case h => (conv => (lhs; whnf)); try exact rfl
  case f => exact fun b _ => b
noncomputable def kp52 : Arguments := by
  refine' (?f : ∀ b : Arguments, parOf (fd 52) = b → Arguments) _ ?h
  case h => (conv => (lhs; whnf)); try exact rfl
  case f => exact fun b _ => b
noncomputable def kb52 : List Stmt := by
  refine' (?f : ∀ b : List Stmt, bodOf (fd 52) = b → List Stmt) _ ?h
  case h => (conv => (lhs; whnf)); try exact rfl
  case f => exact fun b _ => b
noncomputable def ks52 : Scope := by
  refine' (?f : ∀ b : Scope, scoOf (fd 52) = b → Scope) _ ?h
  case h => (conv => (lhs; whnf)); try exact rfl
  case f => exact fun b _ => b
noncomputable def kp53 : Arguments := by
  refine' (?f : ∀ b : Arguments, parOf (fd 53) = b → Arguments) _ ?h
  case h => (conv => (lhs; whnf)); try exact rfl
  case f => exact fun b _ => b
noncomputable def kb53 : List Stmt := by
  refine' (?f : ∀ b : List Stmt, bodOf (fd 53) = b → List Stmt) _ ?h
  case h => (conv => (lhs; whnf)); try exact rfl
  case f => exact fun b _ => b
noncomputable def ks53 : Scope := by
  refine' (?f : ∀ b : Scope, scoOf (fd 53) = b → Scope) _ ?h
  case h => (conv => (lhs; whnf)); try exact rfl
  case f => exact fun b _ => b
noncomputable def kp54 : Arguments := by
  refine' (?f : ∀ b : Arguments, parOf (fd 54) = b → Arguments) _ ?h
  case h => (conv => (lhs; whnf)); try exact rfl
  case f => exact fun b _ => b
noncomputable def kb54 : List Stmt := by
  refine' (?f : ∀ b : List Stmt, bodOf (fd 54) = b → List Stmt) _ ?h
  case h => (conv => (lhs; whnf)); try exact rfl
  case f => exact fun b _ => b
noncomputable def ks54 : Scope := by
  refine' (?f : ∀ b : Scope, scoOf (fd 54) = b → Scope) _ ?h
  case h => (conv => (lhs; whnf)); try exact rfl
  case f => exact fun b _ => b
noncomputable def kp55 : Arguments := by
  refine' (?f : ∀ b : Arguments, parOf (fd 55) = b → Arguments) _ ?h
  case h => (conv => (lhs; whnf)); try exact rfl
  case f => exact fun b _ => b
noncomputable def kb55 : List Stmt := by
  refine' (?f : ∀ b : List Stmt, bodOf (fd 55) = b → List Stmt) _ ?h
  case h => (conv => (lhs; whnf)); try exact rfl
  case f => exact fun b _ => b
noncomputable def ks55 : Scope := by
  refine' (?f : ∀ b : Scope, scoOf (fd 55) = b → Scope) _ ?h
  case h => (conv => (lhs; whnf)); try exact rfl
  case f => exact fun b _ => b
noncomputable def kp56 : Arguments := by
  refine' (?f : ∀ b : Arguments, parOf (fd 56) = b → Arguments) _ ?h
  case h => (conv => (lhs; whnf)); try exact rfl
  case f => exact fun b _ => b
noncomputable def kb56 : List Stmt := by
  refine' (?f : ∀ b : List Stmt, bodOf (fd 56) = b → List Stmt) _ ?h
  case h => (conv => (lhs; whnf)); try exact rfl
  case f => exact fun b _ => b
noncomputable def ks56 : Scope := by
  refine' (?f : ∀ b : Scope, scoOf (fd 56) = b → Scope) _ ?h
  case h => (conv => (lhs; whnf)); try exact rfl
  case f => exact fun b _ => b
noncomputable def kp57 : Arguments := by
  refine' (?f : ∀ b : Arguments, parOf (fd 57) = b → Arguments) _ ?h
  case h => (conv => (lhs; whnf)); try exact rfl
  case f => exact fun b _ => b
noncomputable def kb57 : List Stmt := by
  refine' (?f : ∀ b : List Stmt, bodOf (fd 57) = b → List Stmt) _ ?h
  case h => (conv => (lhs; whnf)); try exact rfl
  case f => exact fun b _ => b
noncomputable def ks57 : Scope := by
  refine' (?f : ∀ b : Scope, scoOf (fd 57) = b → Scope) _ ?h
  case h => (conv => (lhs; whnf)); try exact rfl
  case f => exact fun b _ => b
noncomputable def kp59 : Arguments := by
  refine' (?f : ∀ b : Arguments, parOf (fd 59) = b → Arguments) _ ?h
  case h => (conv => (lhs; whnf)); try exact rfl
  case f => exact fun b _ => b
noncomputable def kb59 : List Stmt := by
  refine' (?f : ∀ b : List Stmt, bodOf (fd 59) = b → List Stmt) _ ?h
  case h => (conv => (lhs; whnf)); try exact rfl
  case f => exact fun b _ => b
noncomputable def ks59 : Scope := by
  refine' (?f : ∀ b : Scope, scoOf (fd 59) = b → Scope) _ ?h
  case h => (conv => (lhs; whnf)); try exact rfl
  case f => exact fun b _ => b
noncomputable def kp60 : Arguments := by
  refine' (?f : ∀ b : Arguments, parOf (fd 60) = b → Arguments) _ ?h
  case h => (conv => (lhs; whnf)); try exact rfl
  case f => exact fun b _ => b
noncomputable def kb60 : List Stmt := by
  refine' (?f : ∀ b : List Stmt, bodOf (fd 60) = b → List Stmt) _ ?h
  case h => (conv => (lhs; whnf)); try exact rfl
  case f => exact fun b _ => b
noncomputable def ks60 : Scope := by
  refine' (?f : ∀ b : Scope, scoOf (fd 60) = b → Scope) _ ?h
  case h => (conv => (lhs; whnf)); try exact rfl
  case f => exact fun b _ => b
noncomputable def kp61 : Arguments := by
  refine' (?f : ∀ b : Arguments, parOf (fd 61) = b → Arguments) _ ?h
  case h => (conv => (lhs; whnf)); try exact rfl
  case f => exact fun b _ => b
noncomputable def kb61 : List Stmt := by
  refine' (?f : ∀ b : List Stmt, bodOf (fd 61) = b → List Stmt) _ ?h
  case h => (conv => (lhs; whnf)); try exact rfl
  case f => exact fun b _ => b
noncomputable def ks61 : Scope := by
  refine' (?f : ∀ b : Scope, scoOf (fd 61) = b → Scope) _ ?h
  case h => (conv => (lhs; whnf)); try exact rfl
  case f => exact fun b _ => b
noncomputable def kp62 : Arguments := by
  refine' (?f : ∀ b : Arguments, parOf (fd 62) = b → Arguments) _ ?h
  case h => (conv => (lhs; whnf)); try exact rfl
  case f => exact fun b _ => b
noncomputable def kb62 : List Stmt := by
  refine' (?f : ∀ b : List Stmt, bodOf (fd 62) = b → List Stmt) _ ?h
  case h => (conv => (lhs; whnf)); try exact rfl
  case f => exact fun b _ => b
noncomputable def ks62 : Scope := by
  refine' (?f : ∀ b : Scope, scoOf (fd 62) = b → Scope) _ ?h
  case h => (conv => (lhs; whnf)); try exact rfl
  case f => exact fun b _ => b
noncomputable def kp63 : Arguments := by
  refine' (?f : ∀ b : Arguments, parOf (fd 63) = b → Arguments) _ ?h
  case h => (conv => (lhs; whnf)); try exact rfl
  case f => exact fun b _ => b
noncomputable def kb63 : List Stmt := by
  refine' (?f : ∀ b : List Stmt, bodOf (fd 63) = b → List Stmt) _ ?h
  case h => (conv => (lhs; whnf)); try exact rfl
  case f => exact fun b _ => b
noncomputable def ks63 : Scope := by
  refine' (?f : ∀ b : Scope, scoOf (fd 63) = b → Scope) _ ?h
  case h => (conv => (lhs; whnf)); try exact rfl
  case f => exact fun b _ => b
noncomputable def kp64 : Arguments := by
  refine' (?f : ∀ b : Arguments, parOf (fd 64) = b → Arguments) _ ?h
  case h => (conv => (lhs; whnf)); try exact rfl
  case f => exact fun b _ => b
noncomputable def kb64 : List Stmt := by
  refine' (?f : ∀ b : List Stmt, bodOf (fd 64) = b → List Stmt) _ ?h
  case h => (conv => (lhs; whnf)); try exact rfl
  case f => exact fun b _ => b
noncomputable def ks64 : Scope := by
  refine' (?f : ∀ b : Scope, scoOf (fd 64) = b → Scope) _ ?h
  case h => (conv => (lhs; whnf)); try exact rfl
  case f => exact fun b _ => b
noncomputable def hp0 (P : Params) : List (Nat × Obj) := (nat_lit 2, { cls := Value.none, data := Data.dict #[] }) ::
  (nat_lit 3, { cls := Value.type "dict", data := Data.dict (List.toArray ({ hash := PyData.keyHash P (Str.ofString "__name__"), key := Value.str (Str.ofString "__name__") (165 : Nat), val := Value.str (Str.ofString "law_to0043_01") (484 : Nat) } :: { hash := PyData.keyHash P (Str.ofString "__doc__"), key := Value.str (Str.ofString "__doc__") (166 : Nat), val := Value.none } :: { hash := PyData.keyHash P (Str.ofString "__package__"), key := Value.str (Str.ofString "__package__") (167 : Nat), val := Value.none } :: { hash := PyData.keyHash P (Str.ofString "__loader__"), key := Value.str (Str.ofString "__loader__") (168 : Nat), val := Value.builtin "__main__.__loader__#opaque" } :: { hash := PyData.keyHash P (Str.ofString "__spec__"), key := Value.str (Str.ofString "__spec__") (169 : Nat), val := Value.none } :: { hash := PyData.keyHash P (Str.ofString "__annotations__"), key := Value.str (Str.ofString "__annotations__") (170 : Nat), val := Value.ref (6 : Nat) } :: { hash := PyData.keyHash P (Str.ofString "__builtins__"), key := Value.str (Str.ofString "__builtins__") (171 : Nat), val := Value.ref (4 : Nat) } :: { hash := PyData.keyHash P (Str.ofString "__file__"), key := Value.str (Str.ofString "__file__") (173 : Nat), val := Value.str (Str.ofString "/claim/cut.py") (172 : Nat) } :: { hash := PyData.keyHash P (Str.ofString "__cached__"), key := Value.str (Str.ofString "__cached__") (174 : Nat), val := Value.none } :: { hash := PyData.keyHash P (Str.ofString "_netrclex"), key := Value.str (Str.ofString "_netrclex") (246 : Nat), val := Value.ref (52 : Nat) } :: { hash := PyData.keyHash P (Str.ofString "LPAR"), key := Value.str (Str.ofString "LPAR") (248 : Nat), val := Value.int 7 (247 : Nat) } :: { hash := PyData.keyHash P (Str.ofString "RPAR"), key := Value.str (Str.ofString "RPAR") (250 : Nat), val := Value.int 8 (249 : Nat) } :: { hash := PyData.keyHash P (Str.ofString "LSQB"), key := Value.str (Str.ofString "LSQB") (252 : Nat), val := Value.int 9 (251 : Nat) } :: { hash := PyData.keyHash P (Str.ofString "RSQB"), key := Value.str (Str.ofString "RSQB") (254 : Nat), val := Value.int 10 (253 : Nat) } :: { hash := PyData.keyHash P (Str.ofString "COLON"), key := Value.str (Str.ofString "COLON") (256 : Nat), val := Value.int 11 (255 : Nat) } :: { hash := PyData.keyHash P (Str.ofString "COMMA"), key := Value.str (Str.ofString "COMMA") (258 : Nat), val := Value.int 12 (257 : Nat) } :: { hash := PyData.keyHash P (Str.ofString "SEMI"), key := Value.str (Str.ofString "SEMI") (260 : Nat), val := Value.int 13 (259 : Nat) } :: { hash := PyData.keyHash P (Str.ofString "PLUS"), key := Value.str (Str.ofString "PLUS") (262 : Nat), val := Value.int 14 (261 : Nat) } :: { hash := PyData.keyHash P (Str.ofString "MINUS"), key := Value.str (Str.ofString "MINUS") (264 : Nat), val := Value.int 15 (263 : Nat) } :: { hash := PyData.keyHash P (Str.ofString "STAR"), key := Value.str (Str.ofString "STAR") (266 : Nat), val := Value.int 16 (265 : Nat) } :: { hash := PyData.keyHash P (Str.ofString "SLASH"), key := Value.str (Str.ofString "SLASH") (268 : Nat), val := Value.int 17 (267 : Nat) } :: { hash := PyData.keyHash P (Str.ofString "VBAR"), key := Value.str (Str.ofString "VBAR") (270 : Nat), val := Value.int 18 (269 : Nat) } :: { hash := PyData.keyHash P (Str.ofString "AMPER"), key := Value.str (Str.ofString "AMPER") (272 : Nat), val := Value.int 19 (271 : Nat) } :: { hash := PyData.keyHash P (Str.ofString "LESS"), key := Value.str (Str.ofString "LESS") (274 : Nat), val := Value.int 20 (273 : Nat) } :: { hash := PyData.keyHash P (Str.ofString "GREATER"), key := Value.str (Str.ofString "GREATER") (276 : Nat), val := Value.int 21 (275 : Nat) } :: { hash := PyData.keyHash P (Str.ofString "EQUAL"), key := Value.str (Str.ofString "EQUAL") (278 : Nat), val := Value.int 22 (277 : Nat) } :: { hash := PyData.keyHash P (Str.ofString "DOT"), key := Value.str (Str.ofString "DOT") (280 : Nat), val := Value.int 23 (279 : Nat) } :: { hash := PyData.keyHash P (Str.ofString "PERCENT"), key := Value.str (Str.ofString "PERCENT") (282 : Nat), val := Value.int 24 (281 : Nat) } :: { hash := PyData.keyHash P (Str.ofString "LBRACE"), key := Value.str (Str.ofString "LBRACE") (284 : Nat), val := Value.int 25 (283 : Nat) } :: { hash := PyData.keyHash P (Str.ofString "RBRACE"), key := Value.str (Str.ofString "RBRACE") (286 : Nat), val := Value.int 26 (285 : Nat) } :: { hash := PyData.keyHash P (Str.ofString "EQEQUAL"), key := Value.str (Str.ofString "EQEQUAL") (288 : Nat), val := Value.int 27 (287 : Nat) } :: { hash := PyData.keyHash P (Str.ofString "NOTEQUAL"), key := Value.str (Str.ofString "NOTEQUAL") (290 : Nat), val := Value.int 28 (289 : Nat) } :: { hash := PyData.keyHash P (Str.ofString "LESSEQUAL"), key := Value.str (Str.ofString "LESSEQUAL") (292 : Nat), val := Value.int 29 (291 : Nat) } :: { hash := PyData.keyHash P (Str.ofString "GREATEREQUAL"), key := Value.str (Str.ofString "GREATEREQUAL") (294 : Nat), val := Value.int 30 (293 : Nat) } :: { hash := PyData.keyHash P (Str.ofString "TILDE"), key := Value.str (Str.ofString "TILDE") (296 : Nat), val := Value.int 31 (295 : Nat) } :: { hash := PyData.keyHash P (Str.ofString "CIRCUMFLEX"), key := Value.str (Str.ofString "CIRCUMFLEX") (298 : Nat), val := Value.int 32 (297 : Nat) } :: { hash := PyData.keyHash P (Str.ofString "LEFTSHIFT"), key := Value.str (Str.ofString "LEFTSHIFT") (300 : Nat), val := Value.int 33 (299 : Nat) } :: { hash := PyData.keyHash P (Str.ofString "RIGHTSHIFT"), key := Value.str (Str.ofString "RIGHTSHIFT") (302 : Nat), val := Value.int 34 (301 : Nat) } :: { hash := PyData.keyHash P (Str.ofString "DOUBLESTAR"), key := Value.str (Str.ofString "DOUBLESTAR") (304 : Nat), val := Value.int 35 (303 : Nat) } :: { hash := PyData.keyHash P (Str.ofString "PLUSEQUAL"), key := Value.str (Str.ofString "PLUSEQUAL") (306 : Nat), val := Value.int 36 (305 : Nat) } :: { hash := PyData.keyHash P (Str.ofString "MINEQUAL"), key := Value.str (Str.ofString "MINEQUAL") (308 : Nat), val := Value.int 37 (307 : Nat) } :: { hash := PyData.keyHash P (Str.ofString "STAREQUAL"), key := Value.str (Str.ofString "STAREQUAL") (310 : Nat), val := Value.int 38 (309 : Nat) } :: { hash := PyData.keyHash P (Str.ofString "SLASHEQUAL"), key := Value.str (Str.ofString "SLASHEQUAL") (312 : Nat), val := Value.int 39 (311 : Nat) } :: { hash := PyData.keyHash P (Str.ofString "PERCENTEQUAL"), key := Value.str (Str.ofString "PERCENTEQUAL") (314 : Nat), val := Value.int 40 (313 : Nat) } :: { hash := PyData.keyHash P (Str.ofString "AMPEREQUAL"), key := Value.str (Str.ofString "AMPEREQUAL") (316 : Nat), val := Value.int 41 (315 : Nat) } :: { hash := PyData.keyHash P (Str.ofString "VBAREQUAL"), key := Value.str (Str.ofString "VBAREQUAL") (318 : Nat), val := Value.int 42 (317 : Nat) } :: { hash := PyData.keyHash P (Str.ofString "CIRCUMFLEXEQUAL"), key := Value.str (Str.ofString "CIRCUMFLEXEQUAL") (320 : Nat), val := Value.int 43 (319 : Nat) } :: { hash := PyData.keyHash P (Str.ofString "LEFTSHIFTEQUAL"), key := Value.str (Str.ofString "LEFTSHIFTEQUAL") (322 : Nat), val := Value.int 44 (321 : Nat) } :: { hash := PyData.keyHash P (Str.ofString "RIGHTSHIFTEQUAL"), key := Value.str (Str.ofString "RIGHTSHIFTEQUAL") (324 : Nat), val := Value.int 45 (323 : Nat) } :: { hash := PyData.keyHash P (Str.ofString "DOUBLESTAREQUAL"), key := Value.str (Str.ofString "DOUBLESTAREQUAL") (326 : Nat), val := Value.int 46 (325 : Nat) } :: { hash := PyData.keyHash P (Str.ofString "DOUBLESLASH"), key := Value.str (Str.ofString "DOUBLESLASH") (328 : Nat), val := Value.int 47 (327 : Nat) } :: { hash := PyData.keyHash P (Str.ofString "DOUBLESLASHEQUAL"), key := Value.str (Str.ofString "DOUBLESLASHEQUAL") (330 : Nat), val := Value.int 48 (329 : Nat) } :: { hash := PyData.keyHash P (Str.ofString "AT"), key := Value.str (Str.ofString "AT") (332 : Nat), val := Value.int 49 (331 : Nat) } :: { hash := PyData.keyHash P (Str.ofString "ATEQUAL"), key := Value.str (Str.ofString "ATEQUAL") (334 : Nat), val := Value.int 50 (333 : Nat) } :: { hash := PyData.keyHash P (Str.ofString "RARROW"), key := Value.str (Str.ofString "RARROW") (336 : Nat), val := Value.int 51 (335 : Nat) } :: { hash := PyData.keyHash P (Str.ofString "ELLIPSIS"), key := Value.str (Str.ofString "ELLIPSIS") (338 : Nat), val := Value.int 52 (337 : Nat) } :: { hash := PyData.keyHash P (Str.ofString "COLONEQUAL"), key := Value.str (Str.ofString "COLONEQUAL") (340 : Nat), val := Value.int 53 (339 : Nat) } :: { hash := PyData.keyHash P (Str.ofString "EXCLAMATION"), key := Value.str (Str.ofString "EXCLAMATION") (342 : Nat), val := Value.int 54 (341 : Nat) } :: { hash := PyData.keyHash P (Str.ofString "EXACT_TOKEN_TYPES"), key := Value.str (Str.ofString "EXACT_TOKEN_TYPES") (439 : Nat), val := Value.ref (57 : Nat) } :: { hash := PyData.keyHash P (Str.ofString "_raise_serialization_error"), key := Value.str (Str.ofString "_raise_serialization_error") (448 : Nat), val := Value.ref (66 : Nat) } :: { hash := PyData.keyHash P (Str.ofString "_escape_cdata"), key := Value.str (Str.ofString "_escape_cdata") (455 : Nat), val := Value.ref (73 : Nat) } :: { hash := PyData.keyHash P (Str.ofString "_escape_attrib"), key := Value.str (Str.ofString "_escape_attrib") (462 : Nat), val := Value.ref (80 : Nat) } :: { hash := PyData.keyHash P (Str.ofString "_escape_attrib_html"), key := Value.str (Str.ofString "_escape_attrib_html") (469 : Nat), val := Value.ref (87 : Nat) } :: { hash := PyData.keyHash P (Str.ofString "_escape_cdata_c14n"), key := Value.str (Str.ofString "_escape_cdata_c14n") (476 : Nat), val := Value.ref (94 : Nat) } :: { hash := PyData.keyHash P (Str.ofString "_escape_attrib_c14n"), key := Value.str (Str.ofString "_escape_attrib_c14n") (483 : Nat), val := Value.ref (101 : Nat) } :: { hash := PyData.keyHash P (Str.ofString "_law_lexer"), key := Value.str (Str.ofString "_law_lexer") (495 : Nat), val := Value.ref (108 : Nat) } :: { hash := PyData.keyHash P (Str.ofString "_law_hand"), key := Value.str (Str.ofString "_law_hand") (503 : Nat), val := Value.ref (115 : Nat) } :: { hash := PyData.keyHash P (Str.ofString "_law_strands"), key := Value.str (Str.ofString "_law_strands") (509 : Nat), val := Value.ref (120 : Nat) } :: { hash := PyData.keyHash P (Str.ofString "_law_left"), key := Value.str (Str.ofString "_law_left") (515 : Nat), val := Value.ref (125 : Nat) } :: { hash := PyData.keyHash P (Str.ofString "_law_square"), key := Value.str (Str.ofString "_law_square") (529 : Nat), val := Value.ref (132 : Nat) } :: { hash := PyData.keyHash P (Str.ofString "law"), key := Value.str (Str.ofString "law") (535 : Nat), val := Value.ref (137 : Nat) } :: [])) 71 }) ::
  (nat_lit 6, { cls := Value.type "dict", data := Data.dict #[] }) ::
  (nat_lit 22, { cls := Value.type "tuple", data := Data.seq #[] }) ::
  (nat_lit 24, { cls := Value.type "tuple", data := Data.seq #[Value.str (Str.ofString "self") (204 : Nat), Value.str (Str.ofString "fp") (205 : Nat)] }) ::
  (nat_lit 25, { cls := Value.type "tuple", data := Data.seq #[] }) ::
  (nat_lit 27, { cls := Value.type "code", data := Data.fields #[Value.str (Str.ofString "__init__") (201 : Nat), Value.str (Str.ofString "_netrclex.__init__") (202 : Nat), Value.str (Str.ofString "/claim/cut.py") (203 : Nat), Value.int 4 (0 : Nat), Value.int 2 (0 : Nat), Value.int 0 (0 : Nat), Value.int 0 (0 : Nat), Value.int 3 (0 : Nat), Value.ref (22 : Nat), Value.bool Bool.true, Value.int 181 (0 : Nat), Value.ref (23 : Nat), Value.none, Value.ref (24 : Nat), Value.ref (25 : Nat), Value.ref (26 : Nat), Value.int 206 (0 : Nat), Value.int 4 (0 : Nat), Value.str (Str.ofString "/claim/cut.py") (207 : Nat)] }) ::
  (nat_lit 28, { cls := Value.type "function", data := Data.func { name := Str.ofString "__init__", qualname := Str.ofString "_netrclex.__init__", params := kpm0, body := (.stmts kbm0), scope := ksm0, globals := (3 : Nat), closure := [], defaults := Value.none, kwdefaults := Value.none, pyModule := Value.str (Str.ofString "cpy313.netrc") (187 : Nat), code := Value.ref (27 : Nat) } }) ::
  (nat_lit 29, { cls := Value.type "tuple", data := Data.seq #[] }) ::
  (nat_lit 31, { cls := Value.type "tuple", data := Data.seq #[Value.str (Str.ofString "self") (212 : Nat), Value.str (Str.ofString "ch") (213 : Nat)] }) ::
  (nat_lit 32, { cls := Value.type "tuple", data := Data.seq #[] }) ::
  (nat_lit 34, { cls := Value.type "code", data := Data.fields #[Value.str (Str.ofString "_read_char") (209 : Nat), Value.str (Str.ofString "_netrclex._read_char") (210 : Nat), Value.str (Str.ofString "/claim/cut.py") (211 : Nat), Value.int 10 (0 : Nat), Value.int 1 (0 : Nat), Value.int 0 (0 : Nat), Value.int 0 (0 : Nat), Value.int 3 (0 : Nat), Value.ref (29 : Nat), Value.bool Bool.true, Value.int 181 (0 : Nat), Value.ref (30 : Nat), Value.none, Value.ref (31 : Nat), Value.ref (32 : Nat), Value.ref (33 : Nat), Value.int 214 (0 : Nat), Value.int 10 (0 : Nat), Value.str (Str.ofString "/claim/cut.py") (215 : Nat)] }) ::
  (nat_lit 35, { cls := Value.type "function", data := Data.func { name := Str.ofString "_read_char", qualname := Str.ofString "_netrclex._read_char", params := kpm1, body := (.stmts kbm1), scope := ksm1, globals := (3 : Nat), closure := [], defaults := Value.none, kwdefaults := Value.none, pyModule := Value.str (Str.ofString "cpy313.netrc") (187 : Nat), code := Value.ref (34 : Nat) } }) ::
  (nat_lit 36, { cls := Value.type "tuple", data := Data.seq #[] }) ::
  (nat_lit 38, { cls := Value.type "tuple", data := Data.seq #[Value.str (Str.ofString "self") (220 : Nat), Value.str (Str.ofString "token") (221 : Nat), Value.str (Str.ofString "fiter") (222 : Nat), Value.str (Str.ofString "ch") (223 : Nat)] }) ::
  (nat_lit 39, { cls := Value.type "tuple", data := Data.seq #[] }) ::
  (nat_lit 41, { cls := Value.type "code", data := Data.fields #[Value.str (Str.ofString "get_token") (217 : Nat), Value.str (Str.ofString "_netrclex.get_token") (218 : Nat), Value.str (Str.ofString "/claim/cut.py") (219 : Nat), Value.int 16 (0 : Nat), Value.int 1 (0 : Nat), Value.int 0 (0 : Nat), Value.int 0 (0 : Nat), Value.int 3 (0 : Nat), Value.ref (36 : Nat), Value.bool Bool.true, Value.int 181 (0 : Nat), Value.ref (37 : Nat), Value.none, Value.ref (38 : Nat), Value.ref (39 : Nat), Value.ref (40 : Nat), Value.int 224 (0 : Nat), Value.int 16 (0 : Nat), Value.str (Str.ofString "/claim/cut.py") (225 : Nat)] }) ::
  (nat_lit 42, { cls := Value.type "function", data := Data.func { name := Str.ofString "get_token", qualname := Str.ofString "_netrclex.get_token", params := kpm2, body := (.stmts kbm2), scope := ksm2, globals := (3 : Nat), closure := [], defaults := Value.none, kwdefaults := Value.none, pyModule := Value.str (Str.ofString "cpy313.netrc") (187 : Nat), code := Value.ref (41 : Nat) } }) ::
  (nat_lit 43, { cls := Value.type "tuple", data := Data.seq #[] }) ::
  (nat_lit 45, { cls := Value.type "tuple", data := Data.seq #[Value.str (Str.ofString "self") (230 : Nat), Value.str (Str.ofString "token") (231 : Nat)] }) ::
  (nat_lit 46, { cls := Value.type "tuple", data := Data.seq #[] }) ::
  (nat_lit 48, { cls := Value.type "code", data := Data.fields #[Value.str (Str.ofString "push_token") (227 : Nat), Value.str (Str.ofString "_netrclex.push_token") (228 : Nat), Value.str (Str.ofString "/claim/cut.py") (229 : Nat), Value.int 43 (0 : Nat), Value.int 2 (0 : Nat), Value.int 0 (0 : Nat), Value.int 0 (0 : Nat), Value.int 3 (0 : Nat), Value.ref (43 : Nat), Value.bool Bool.true, Value.int 181 (0 : Nat), Value.ref (44 : Nat), Value.none, Value.ref (45 : Nat), Value.ref (46 : Nat), Value.ref (47 : Nat), Value.int 232 (0 : Nat), Value.int 43 (0 : Nat), Value.str (Str.ofString "/claim/cut.py") (233 : Nat)] }) ::
  (nat_lit 49, { cls := Value.type "function", data := Data.func { name := Str.ofString "push_token", qualname := Str.ofString "_netrclex.push_token", params := kpm3, body := (.stmts kbm3), scope := ksm3, globals := (3 : Nat), closure := [], defaults := Value.none, kwdefaults := Value.none, pyModule := Value.str (Str.ofString "cpy313.netrc") (187 : Nat), code := Value.ref (48 : Nat) } }) ::
  (nat_lit 50, { cls := Value.type "tuple", data := Data.seq #[Value.str (Str.ofString "instream") (235 : Nat), Value.str (Str.ofString "lineno") (236 : Nat), Value.str (Str.ofString "pushback") (237 : Nat), Value.str (Str.ofString "whitespace") (238 : Nat)] }) ::
  (nat_lit 51, { cls := Value.type "dict", data := Data.dict (List.toArray ({ hash := PyData.keyHash P (Str.ofString "__module__"), key := Value.str (Str.ofString "__module__") (196 : Nat), val := Value.str (Str.ofString "cpy313.netrc") (187 : Nat) } :: { hash := PyData.keyHash P (Str.ofString "__firstlineno__"), key := Value.str (Str.ofString "__firstlineno__") (200 : Nat), val := Value.int 2 (199 : Nat) } :: { hash := PyData.keyHash P (Str.ofString "__init__"), key := Value.str (Str.ofString "__init__") (208 : Nat), val := Value.ref (28 : Nat) } :: { hash := PyData.keyHash P (Str.ofString "_read_char"), key := Value.str (Str.ofString "_read_char") (216 : Nat), val := Value.ref (35 : Nat) } :: { hash := PyData.keyHash P (Str.ofString "get_token"), key := Value.str (Str.ofString "get_token") (226 : Nat), val := Value.ref (42 : Nat) } :: { hash := PyData.keyHash P (Str.ofString "push_token"), key := Value.str (Str.ofString "push_token") (234 : Nat), val := Value.ref (49 : Nat) } :: { hash := PyData.keyHash P (Str.ofString "__static_attributes__"), key := Value.str (Str.ofString "__static_attributes__") (239 : Nat), val := Value.ref (50 : Nat) } :: { hash := PyData.keyHash P (Str.ofString "__dict__"), key := Value.str (Str.ofString "__dict__") (241 : Nat), val := Value.ref (53 : Nat) } :: { hash := PyData.keyHash P (Str.ofString "__weakref__"), key := Value.str (Str.ofString "__weakref__") (243 : Nat), val := Value.ref (54 : Nat) } :: { hash := PyData.keyHash P (Str.ofString "__doc__"), key := Value.str (Str.ofString "__doc__") (244 : Nat), val := Value.none } :: [])) 4 }) ::
  (nat_lit 52, { cls := Value.type "type", data := Data.cls { name := Str.ofString "_netrclex", bases := [Value.type "object"], mro := [Value.ref (52 : Nat), Value.type "object"], ns := 51, qualname := Str.ofString "_netrclex" }, slots := #[Option.none, Option.none, Option.some (Value.str (Str.ofString "_netrclex") (189 : Nat)), Option.some (Value.str (Str.ofString "_netrclex") (197 : Nat)), Option.some (Value.builtin "object.__new__"), Option.some (Value.bool Bool.true)] }) ::
  (nat_lit 53, { cls := Value.type "getset_descriptor", data := Data.fields #[Value.str (Str.ofString "__dict__") (240 : Nat), Value.ref (52 : Nat), Value.builtin "function.__dict__", Value.builtin "function.__dict__#set"] }) ::
  (nat_lit 54, { cls := Value.type "getset_descriptor", data := Data.fields #[Value.str (Str.ofString "__weakref__") (242 : Nat), Value.ref (52 : Nat), Value.builtin "ExceptionGroup.__weakref__", Value.none] }) ::
  (nat_lit 57, { cls := Value.type "dict", data := Data.dict (List.toArray ({ hash := PyData.keyHash P (Str.ofString "!"), key := Value.str (Str.ofString "!") (343 : Nat), val := Value.int 54 (341 : Nat) } :: { hash := PyData.keyHash P (Str.ofString "!="), key := Value.str (Str.ofString "!=") (345 : Nat), val := Value.int 28 (289 : Nat) } :: { hash := PyData.keyHash P (Str.ofString "%"), key := Value.str (Str.ofString "%") (347 : Nat), val := Value.int 24 (281 : Nat) } :: { hash := PyData.keyHash P (Str.ofString "%="), key := Value.str (Str.ofString "%=") (349 : Nat), val := Value.int 40 (313 : Nat) } :: { hash := PyData.keyHash P (Str.ofString "&"), key := Value.str (Str.ofString "&") (351 : Nat), val := Value.int 19 (271 : Nat) } :: { hash := PyData.keyHash P (Str.ofString "&="), key := Value.str (Str.ofString "&=") (353 : Nat), val := Value.int 41 (315 : Nat) } :: { hash := PyData.keyHash P (Str.ofString "("), key := Value.str (Str.ofString "(") (355 : Nat), val := Value.int 7 (247 : Nat) } :: { hash := PyData.keyHash P (Str.ofString ")"), key := Value.str (Str.ofString ")") (357 : Nat), val := Value.int 8 (249 : Nat) } :: { hash := PyData.keyHash P (Str.ofString "*"), key := Value.str (Str.ofString "*") (359 : Nat), val := Value.int 16 (265 : Nat) } :: { hash := PyData.keyHash P (Str.ofString "**"), key := Value.str (Str.ofString "**") (361 : Nat), val := Value.int 35 (303 : Nat) } :: { hash := PyData.keyHash P (Str.ofString "**="), key := Value.str (Str.ofString "**=") (363 : Nat), val := Value.int 46 (325 : Nat) } :: { hash := PyData.keyHash P (Str.ofString "*="), key := Value.str (Str.ofString "*=") (365 : Nat), val := Value.int 38 (309 : Nat) } :: { hash := PyData.keyHash P (Str.ofString "+"), key := Value.str (Str.ofString "+") (367 : Nat), val := Value.int 14 (261 : Nat) } :: { hash := PyData.keyHash P (Str.ofString "+="), key := Value.str (Str.ofString "+=") (369 : Nat), val := Value.int 36 (305 : Nat) } :: { hash := PyData.keyHash P (Str.ofString ","), key := Value.str (Str.ofString ",") (371 : Nat), val := Value.int 12 (257 : Nat) } :: { hash := PyData.keyHash P (Str.ofString "-"), key := Value.str (Str.ofString "-") (373 : Nat), val := Value.int 15 (263 : Nat) } :: { hash := PyData.keyHash P (Str.ofString "-="), key := Value.str (Str.ofString "-=") (375 : Nat), val := Value.int 37 (307 : Nat) } :: { hash := PyData.keyHash P (Str.ofString "->"), key := Value.str (Str.ofString "->") (377 : Nat), val := Value.int 51 (335 : Nat) } :: { hash := PyData.keyHash P (Str.ofString "."), key := Value.str (Str.ofString ".") (379 : Nat), val := Value.int 23 (279 : Nat) } :: { hash := PyData.keyHash P (Str.ofString "..."), key := Value.str (Str.ofString "...") (381 : Nat), val := Value.int 52 (337 : Nat) } :: { hash := PyData.keyHash P (Str.ofString "/"), key := Value.str (Str.ofString "/") (383 : Nat), val := Value.int 17 (267 : Nat) } :: { hash := PyData.keyHash P (Str.ofString "//"), key := Value.str (Str.ofString "//") (385 : Nat), val := Value.int 47 (327 : Nat) } :: { hash := PyData.keyHash P (Str.ofString "//="), key := Value.str (Str.ofString "//=") (387 : Nat), val := Value.int 48 (329 : Nat) } :: { hash := PyData.keyHash P (Str.ofString "/="), key := Value.str (Str.ofString "/=") (389 : Nat), val := Value.int 39 (311 : Nat) } :: { hash := PyData.keyHash P (Str.ofString ":"), key := Value.str (Str.ofString ":") (391 : Nat), val := Value.int 11 (255 : Nat) } :: { hash := PyData.keyHash P (Str.ofString ":="), key := Value.str (Str.ofString ":=") (393 : Nat), val := Value.int 53 (339 : Nat) } :: { hash := PyData.keyHash P (Str.ofString ";"), key := Value.str (Str.ofString ";") (395 : Nat), val := Value.int 13 (259 : Nat) } :: { hash := PyData.keyHash P (Str.ofString "<"), key := Value.str (Str.ofString "<") (397 : Nat), val := Value.int 20 (273 : Nat) } :: { hash := PyData.keyHash P (Str.ofString "<<"), key := Value.str (Str.ofString "<<") (399 : Nat), val := Value.int 33 (299 : Nat) } :: { hash := PyData.keyHash P (Str.ofString "<<="), key := Value.str (Str.ofString "<<=") (401 : Nat), val := Value.int 44 (321 : Nat) } :: { hash := PyData.keyHash P (Str.ofString "<="), key := Value.str (Str.ofString "<=") (403 : Nat), val := Value.int 29 (291 : Nat) } :: { hash := PyData.keyHash P (Str.ofString "="), key := Value.str (Str.ofString "=") (405 : Nat), val := Value.int 22 (277 : Nat) } :: { hash := PyData.keyHash P (Str.ofString "=="), key := Value.str (Str.ofString "==") (407 : Nat), val := Value.int 27 (287 : Nat) } :: { hash := PyData.keyHash P (Str.ofString ">"), key := Value.str (Str.ofString ">") (409 : Nat), val := Value.int 21 (275 : Nat) } :: { hash := PyData.keyHash P (Str.ofString ">="), key := Value.str (Str.ofString ">=") (411 : Nat), val := Value.int 30 (293 : Nat) } :: { hash := PyData.keyHash P (Str.ofString ">>"), key := Value.str (Str.ofString ">>") (412 : Nat), val := Value.int 34 (301 : Nat) } :: { hash := PyData.keyHash P (Str.ofString ">>="), key := Value.str (Str.ofString ">>=") (413 : Nat), val := Value.int 45 (323 : Nat) } :: { hash := PyData.keyHash P (Str.ofString "@"), key := Value.str (Str.ofString "@") (414 : Nat), val := Value.int 49 (331 : Nat) } :: { hash := PyData.keyHash P (Str.ofString "@="), key := Value.str (Str.ofString "@=") (415 : Nat), val := Value.int 50 (333 : Nat) } :: { hash := PyData.keyHash P (Str.ofString "["), key := Value.str (Str.ofString "[") (416 : Nat), val := Value.int 9 (251 : Nat) } :: { hash := PyData.keyHash P (Str.ofString "]"), key := Value.str (Str.ofString "]") (417 : Nat), val := Value.int 10 (253 : Nat) } :: { hash := PyData.keyHash P (Str.ofString "^"), key := Value.str (Str.ofString "^") (418 : Nat), val := Value.int 32 (297 : Nat) } :: { hash := PyData.keyHash P (Str.ofString "^="), key := Value.str (Str.ofString "^=") (419 : Nat), val := Value.int 43 (319 : Nat) } :: { hash := PyData.keyHash P (Str.ofString "{"), key := Value.str (Str.ofString "{") (420 : Nat), val := Value.int 25 (283 : Nat) } :: { hash := PyData.keyHash P (Str.ofString "|"), key := Value.str (Str.ofString "|") (421 : Nat), val := Value.int 18 (269 : Nat) } :: { hash := PyData.keyHash P (Str.ofString "|="), key := Value.str (Str.ofString "|=") (422 : Nat), val := Value.int 42 (317 : Nat) } :: { hash := PyData.keyHash P (Str.ofString "}"), key := Value.str (Str.ofString "}") (423 : Nat), val := Value.int 26 (285 : Nat) } :: { hash := PyData.keyHash P (Str.ofString "~"), key := Value.str (Str.ofString "~") (424 : Nat), val := Value.int 31 (295 : Nat) } :: [])) 48 }) ::
  (nat_lit 60, { cls := Value.type "tuple", data := Data.seq #[] }) ::
  (nat_lit 62, { cls := Value.type "tuple", data := Data.seq #[Value.str (Str.ofString "text") (445 : Nat)] }) ::
  (nat_lit 63, { cls := Value.type "tuple", data := Data.seq #[] }) ::
  (nat_lit 65, { cls := Value.type "code", data := Data.fields #[Value.str (Str.ofString "_raise_serialization_error") (442 : Nat), Value.str (Str.ofString "_raise_serialization_error") (443 : Nat), Value.str (Str.ofString "/claim/cut.py") (444 : Nat), Value.int 95 (0 : Nat), Value.int 1 (0 : Nat), Value.int 0 (0 : Nat), Value.int 0 (0 : Nat), Value.int 3 (0 : Nat), Value.ref (60 : Nat), Value.bool Bool.true, Value.int 181 (0 : Nat), Value.ref (61 : Nat), Value.none, Value.ref (62 : Nat), Value.ref (63 : Nat), Value.ref (64 : Nat), Value.int 446 (0 : Nat), Value.int 95 (0 : Nat), Value.str (Str.ofString "/claim/cut.py") (447 : Nat)] }) ::
  (nat_lit 66, { cls := Value.type "function", data := Data.func { name := Str.ofString "_raise_serialization_error", qualname := Str.ofString "_raise_serialization_error", params := kp52, body := (.stmts kb52), scope := ks52, globals := (3 : Nat), closure := [], defaults := Value.none, kwdefaults := Value.none, pyModule := Value.str (Str.ofString "cpy313.xml.etree.ElementTree") (440 : Nat), code := Value.ref (65 : Nat) } }) ::
  (nat_lit 67, { cls := Value.type "tuple", data := Data.seq #[] }) ::
  (nat_lit 69, { cls := Value.type "tuple", data := Data.seq #[Value.str (Str.ofString "text") (452 : Nat)] }) ::
  (nat_lit 70, { cls := Value.type "tuple", data := Data.seq #[] }) ::
  (nat_lit 72, { cls := Value.type "code", data := Data.fields #[Value.str (Str.ofString "_escape_cdata") (449 : Nat), Value.str (Str.ofString "_escape_cdata") (450 : Nat), Value.str (Str.ofString "/claim/cut.py") (451 : Nat), Value.int 97 (0 : Nat), Value.int 1 (0 : Nat), Value.int 0 (0 : Nat), Value.int 0 (0 : Nat), Value.int 3 (0 : Nat), Value.ref (67 : Nat), Value.bool Bool.true, Value.int 181 (0 : Nat), Value.ref (68 : Nat), Value.none, Value.ref (69 : Nat), Value.ref (70 : Nat), Value.ref (71 : Nat), Value.int 453 (0 : Nat), Value.int 97 (0 : Nat), Value.str (Str.ofString "/claim/cut.py") (454 : Nat)] }) ::
  (nat_lit 73, { cls := Value.type "function", data := Data.func { name := Str.ofString "_escape_cdata", qualname := Str.ofString "_escape_cdata", params := kp53, body := (.stmts kb53), scope := ks53, globals := (3 : Nat), closure := [], defaults := Value.none, kwdefaults := Value.none, pyModule := Value.str (Str.ofString "cpy313.xml.etree.ElementTree") (440 : Nat), code := Value.ref (72 : Nat) } }) ::
  (nat_lit 74, { cls := Value.type "tuple", data := Data.seq #[] }) ::
  (nat_lit 76, { cls := Value.type "tuple", data := Data.seq #[Value.str (Str.ofString "text") (459 : Nat)] }) ::
  (nat_lit 77, { cls := Value.type "tuple", data := Data.seq #[] }) ::
  (nat_lit 79, { cls := Value.type "code", data := Data.fields #[Value.str (Str.ofString "_escape_attrib") (456 : Nat), Value.str (Str.ofString "_escape_attrib") (457 : Nat), Value.str (Str.ofString "/claim/cut.py") (458 : Nat), Value.int 108 (0 : Nat), Value.int 1 (0 : Nat), Value.int 0 (0 : Nat), Value.int 0 (0 : Nat), Value.int 3 (0 : Nat), Value.ref (74 : Nat), Value.bool Bool.true, Value.int 181 (0 : Nat), Value.ref (75 : Nat), Value.none, Value.ref (76 : Nat), Value.ref (77 : Nat), Value.ref (78 : Nat), Value.int 460 (0 : Nat), Value.int 108 (0 : Nat), Value.str (Str.ofString "/claim/cut.py") (461 : Nat)] }) ::
  (nat_lit 80, { cls := Value.type "function", data := Data.func { name := Str.ofString "_escape_attrib", qualname := Str.ofString "_escape_attrib", params := kp54, body := (.stmts kb54), scope := ks54, globals := (3 : Nat), closure := [], defaults := Value.none, kwdefaults := Value.none, pyModule := Value.str (Str.ofString "cpy313.xml.etree.ElementTree") (440 : Nat), code := Value.ref (79 : Nat) } }) ::
  (nat_lit 81, { cls := Value.type "tuple", data := Data.seq #[] }) ::
  (nat_lit 83, { cls := Value.type "tuple", data := Data.seq #[Value.str (Str.ofString "text") (466 : Nat)] }) ::
  (nat_lit 84, { cls := Value.type "tuple", data := Data.seq #[] }) ::
  (nat_lit 86, { cls := Value.type "code", data := Data.fields #[Value.str (Str.ofString "_escape_attrib_html") (463 : Nat), Value.str (Str.ofString "_escape_attrib_html") (464 : Nat), Value.str (Str.ofString "/claim/cut.py") (465 : Nat), Value.int 127 (0 : Nat), Value.int 1 (0 : Nat), Value.int 0 (0 : Nat), Value.int 0 (0 : Nat), Value.int 3 (0 : Nat), Value.ref (81 : Nat), Value.bool Bool.true, Value.int 181 (0 : Nat), Value.ref (82 : Nat), Value.none, Value.ref (83 : Nat), Value.ref (84 : Nat), Value.ref (85 : Nat), Value.int 467 (0 : Nat), Value.int 127 (0 : Nat), Value.str (Str.ofString "/claim/cut.py") (468 : Nat)] }) ::
  (nat_lit 87, { cls := Value.type "function", data := Data.func { name := Str.ofString "_escape_attrib_html", qualname := Str.ofString "_escape_attrib_html", params := kp55, body := (.stmts kb55), scope := ks55, globals := (3 : Nat), closure := [], defaults := Value.none, kwdefaults := Value.none, pyModule := Value.str (Str.ofString "cpy313.xml.etree.ElementTree") (440 : Nat), code := Value.ref (86 : Nat) } }) ::
  (nat_lit 88, { cls := Value.type "tuple", data := Data.seq #[] }) ::
  (nat_lit 90, { cls := Value.type "tuple", data := Data.seq #[Value.str (Str.ofString "text") (473 : Nat)] }) ::
  (nat_lit 91, { cls := Value.type "tuple", data := Data.seq #[] }) ::
  (nat_lit 93, { cls := Value.type "code", data := Data.fields #[Value.str (Str.ofString "_escape_cdata_c14n") (470 : Nat), Value.str (Str.ofString "_escape_cdata_c14n") (471 : Nat), Value.str (Str.ofString "/claim/cut.py") (472 : Nat), Value.int 138 (0 : Nat), Value.int 1 (0 : Nat), Value.int 0 (0 : Nat), Value.int 0 (0 : Nat), Value.int 3 (0 : Nat), Value.ref (88 : Nat), Value.bool Bool.true, Value.int 181 (0 : Nat), Value.ref (89 : Nat), Value.none, Value.ref (90 : Nat), Value.ref (91 : Nat), Value.ref (92 : Nat), Value.int 474 (0 : Nat), Value.int 138 (0 : Nat), Value.str (Str.ofString "/claim/cut.py") (475 : Nat)] }) ::
  (nat_lit 94, { cls := Value.type "function", data := Data.func { name := Str.ofString "_escape_cdata_c14n", qualname := Str.ofString "_escape_cdata_c14n", params := kp56, body := (.stmts kb56), scope := ks56, globals := (3 : Nat), closure := [], defaults := Value.none, kwdefaults := Value.none, pyModule := Value.str (Str.ofString "cpy313.xml.etree.ElementTree") (440 : Nat), code := Value.ref (93 : Nat) } }) ::
  (nat_lit 95, { cls := Value.type "tuple", data := Data.seq #[] }) ::
  (nat_lit 97, { cls := Value.type "tuple", data := Data.seq #[Value.str (Str.ofString "text") (480 : Nat)] }) ::
  (nat_lit 98, { cls := Value.type "tuple", data := Data.seq #[] }) ::
  (nat_lit 100, { cls := Value.type "code", data := Data.fields #[Value.str (Str.ofString "_escape_attrib_c14n") (477 : Nat), Value.str (Str.ofString "_escape_attrib_c14n") (478 : Nat), Value.str (Str.ofString "/claim/cut.py") (479 : Nat), Value.int 151 (0 : Nat), Value.int 1 (0 : Nat), Value.int 0 (0 : Nat), Value.int 0 (0 : Nat), Value.int 3 (0 : Nat), Value.ref (95 : Nat), Value.bool Bool.true, Value.int 181 (0 : Nat), Value.ref (96 : Nat), Value.none, Value.ref (97 : Nat), Value.ref (98 : Nat), Value.ref (99 : Nat), Value.int 481 (0 : Nat), Value.int 151 (0 : Nat), Value.str (Str.ofString "/claim/cut.py") (482 : Nat)] }) ::
  (nat_lit 101, { cls := Value.type "function", data := Data.func { name := Str.ofString "_escape_attrib_c14n", qualname := Str.ofString "_escape_attrib_c14n", params := kp57, body := (.stmts kb57), scope := ks57, globals := (3 : Nat), closure := [], defaults := Value.none, kwdefaults := Value.none, pyModule := Value.str (Str.ofString "cpy313.xml.etree.ElementTree") (440 : Nat), code := Value.ref (100 : Nat) } }) ::
  (nat_lit 102, { cls := Value.type "tuple", data := Data.seq #[] }) ::
  (nat_lit 104, { cls := Value.type "tuple", data := Data.seq #[Value.str (Str.ofString "text") (489 : Nat), Value.str (Str.ofString "stream") (490 : Nat), Value.str (Str.ofString "_law_piece") (491 : Nat)] }) ::
  (nat_lit 105, { cls := Value.type "tuple", data := Data.seq #[Value.str (Str.ofString "signs") (492 : Nat)] }) ::
  (nat_lit 107, { cls := Value.type "code", data := Data.fields #[Value.str (Str.ofString "_law_lexer") (486 : Nat), Value.str (Str.ofString "_law_lexer") (487 : Nat), Value.str (Str.ofString "/claim/cut.py") (488 : Nat), Value.int 169 (0 : Nat), Value.int 1 (0 : Nat), Value.int 0 (0 : Nat), Value.int 0 (0 : Nat), Value.int 3 (0 : Nat), Value.ref (102 : Nat), Value.bool Bool.true, Value.int 181 (0 : Nat), Value.ref (103 : Nat), Value.none, Value.ref (104 : Nat), Value.ref (105 : Nat), Value.ref (106 : Nat), Value.int 493 (0 : Nat), Value.int 169 (0 : Nat), Value.str (Str.ofString "/claim/cut.py") (494 : Nat)] }) ::
  (nat_lit 108, { cls := Value.type "function", data := Data.func { name := Str.ofString "_law_lexer", qualname := Str.ofString "_law_lexer", params := kp59, body := (.stmts kb59), scope := ks59, globals := (3 : Nat), closure := [], defaults := Value.none, kwdefaults := Value.none, pyModule := Value.str (Str.ofString "law_to0043_01") (484 : Nat), code := Value.ref (107 : Nat) } }) ::
  (nat_lit 109, { cls := Value.type "tuple", data := Data.seq #[] }) ::
  (nat_lit 111, { cls := Value.type "tuple", data := Data.seq #[Value.str (Str.ofString "kind") (499 : Nat), Value.str (Str.ofString "hands") (500 : Nat)] }) ::
  (nat_lit 112, { cls := Value.type "tuple", data := Data.seq #[] }) ::
  (nat_lit 114, { cls := Value.type "code", data := Data.fields #[Value.str (Str.ofString "_law_hand") (496 : Nat), Value.str (Str.ofString "_law_hand") (497 : Nat), Value.str (Str.ofString "/claim/cut.py") (498 : Nat), Value.int 177 (0 : Nat), Value.int 1 (0 : Nat), Value.int 0 (0 : Nat), Value.int 0 (0 : Nat), Value.int 3 (0 : Nat), Value.ref (109 : Nat), Value.bool Bool.true, Value.int 181 (0 : Nat), Value.ref (110 : Nat), Value.none, Value.ref (111 : Nat), Value.ref (112 : Nat), Value.ref (113 : Nat), Value.int 501 (0 : Nat), Value.int 177 (0 : Nat), Value.str (Str.ofString "/claim/cut.py") (502 : Nat)] }) ::
  (nat_lit 115, { cls := Value.type "function", data := Data.func { name := Str.ofString "_law_hand", qualname := Str.ofString "_law_hand", params := kp60, body := (.stmts kb60), scope := ks60, globals := (3 : Nat), closure := [], defaults := Value.none, kwdefaults := Value.none, pyModule := Value.str (Str.ofString "law_to0043_01") (484 : Nat), code := Value.ref (114 : Nat) } }) ::
  (nat_lit 116, { cls := Value.type "tuple", data := Data.seq #[] }) ::
  (nat_lit 119, { cls := Value.type "code", data := Data.fields #[Value.str (Str.ofString "_law_strands") (504 : Nat), Value.str (Str.ofString "_law_strands") (505 : Nat), Value.str (Str.ofString "/claim/cut.py") (506 : Nat), Value.int 180 (0 : Nat), Value.int 1 (0 : Nat), Value.int 0 (0 : Nat), Value.int 0 (0 : Nat), Value.int 3 (0 : Nat), Value.ref (116 : Nat), Value.bool Bool.true, Value.int 181 (0 : Nat), Value.ref (117 : Nat), Value.none, Value.none, Value.none, Value.ref (118 : Nat), Value.int 507 (0 : Nat), Value.int 180 (0 : Nat), Value.str (Str.ofString "/claim/cut.py") (508 : Nat)] }) ::
  (nat_lit 120, { cls := Value.type "function", data := Data.func { name := Str.ofString "_law_strands", qualname := Str.ofString "_law_strands", params := kp61, body := (.stmts kb61), scope := ks61, globals := (3 : Nat), closure := [], defaults := Value.none, kwdefaults := Value.none, pyModule := Value.str (Str.ofString "law_to0043_01") (484 : Nat), code := Value.ref (119 : Nat) } }) ::
  (nat_lit 121, { cls := Value.type "tuple", data := Data.seq #[] }) ::
  (nat_lit 124, { cls := Value.type "code", data := Data.fields #[Value.str (Str.ofString "_law_left") (510 : Nat), Value.str (Str.ofString "_law_left") (511 : Nat), Value.str (Str.ofString "/claim/cut.py") (512 : Nat), Value.int 188 (0 : Nat), Value.int 3 (0 : Nat), Value.int 0 (0 : Nat), Value.int 0 (0 : Nat), Value.int 3 (0 : Nat), Value.ref (121 : Nat), Value.bool Bool.true, Value.int 181 (0 : Nat), Value.ref (122 : Nat), Value.none, Value.none, Value.none, Value.ref (123 : Nat), Value.int 513 (0 : Nat), Value.int 188 (0 : Nat), Value.str (Str.ofString "/claim/cut.py") (514 : Nat)] }) ::
  (nat_lit 125, { cls := Value.type "function", data := Data.func { name := Str.ofString "_law_left", qualname := Str.ofString "_law_left", params := kp62, body := (.stmts kb62), scope := ks62, globals := (3 : Nat), closure := [], defaults := Value.none, kwdefaults := Value.none, pyModule := Value.str (Str.ofString "law_to0043_01") (484 : Nat), code := Value.ref (124 : Nat) } }) ::
  (nat_lit 126, { cls := Value.type "tuple", data := Data.seq #[] }) ::
  (nat_lit 128, { cls := Value.type "tuple", data := Data.seq #[Value.str (Str.ofString "row") (519 : Nat), Value.str (Str.ofString "one") (520 : Nat), Value.str (Str.ofString "two") (521 : Nat), Value.str (Str.ofString "three") (522 : Nat), Value.str (Str.ofString "four") (523 : Nat), Value.str (Str.ofString "rise") (524 : Nat), Value.str (Str.ofString "crossing") (525 : Nat), Value.str (Str.ofString "step") (526 : Nat)] }) ::
  (nat_lit 129, { cls := Value.type "tuple", data := Data.seq #[] }) ::
  (nat_lit 131, { cls := Value.type "code", data := Data.fields #[Value.str (Str.ofString "_law_square") (516 : Nat), Value.str (Str.ofString "_law_square") (517 : Nat), Value.str (Str.ofString "/claim/cut.py") (518 : Nat), Value.int 207 (0 : Nat), Value.int 1 (0 : Nat), Value.int 0 (0 : Nat), Value.int 0 (0 : Nat), Value.int 3 (0 : Nat), Value.ref (126 : Nat), Value.bool Bool.true, Value.int 181 (0 : Nat), Value.ref (127 : Nat), Value.none, Value.ref (128 : Nat), Value.ref (129 : Nat), Value.ref (130 : Nat), Value.int 527 (0 : Nat), Value.int 207 (0 : Nat), Value.str (Str.ofString "/claim/cut.py") (528 : Nat)] }) ::
  (nat_lit 132, { cls := Value.type "function", data := Data.func { name := Str.ofString "_law_square", qualname := Str.ofString "_law_square", params := kp63, body := (.stmts kb63), scope := ks63, globals := (3 : Nat), closure := [], defaults := Value.none, kwdefaults := Value.none, pyModule := Value.str (Str.ofString "law_to0043_01") (484 : Nat), code := Value.ref (131 : Nat) } }) ::
  (nat_lit 133, { cls := Value.type "tuple", data := Data.seq #[] }) ::
  (nat_lit 136, { cls := Value.type "code", data := Data.fields #[Value.str (Str.ofString "law") (530 : Nat), Value.str (Str.ofString "law") (531 : Nat), Value.str (Str.ofString "/claim/cut.py") (532 : Nat), Value.int 217 (0 : Nat), Value.int 1 (0 : Nat), Value.int 0 (0 : Nat), Value.int 0 (0 : Nat), Value.int 3 (0 : Nat), Value.ref (133 : Nat), Value.bool Bool.true, Value.int 181 (0 : Nat), Value.ref (134 : Nat), Value.none, Value.none, Value.none, Value.ref (135 : Nat), Value.int 533 (0 : Nat), Value.int 217 (0 : Nat), Value.str (Str.ofString "/claim/cut.py") (534 : Nat)] }) ::
  (nat_lit 137, { cls := Value.type "function", data := Data.func { name := Str.ofString "law", qualname := Str.ofString "law", params := kp64, body := (.stmts kb64), scope := ks64, globals := (3 : Nat), closure := [], defaults := Value.none, kwdefaults := Value.none, pyModule := Value.str (Str.ofString "law_to0043_01") (484 : Nat), code := Value.ref (136 : Nat) } }) :: []
noncomputable def hp (P : Params) : Frag := by
  refine' (?f : ∀ b : List (Nat × Obj), hp0 P = b → Frag) _ ?h
  case h => (delta hp0 kpm0 kbm0 ksm0 kpm1 kbm1 ksm1 kpm2 kbm2 ksm2 kpm3 kbm3 ksm3 kp52 kb52 ks52 kp53 kb53 ks53 kp54 kb54 ks54 kp55 kb55 ks55 kp56 kb56 ks56 kp57 kb57 ks57 kp59 kb59 ks59 kp60 kb60 ks60 kp61 kb61 ks61 kp62 kb62 ks62 kp63 kb63 ks63 kp64 kb64 ks64); exact rfl
  case f => exact fun b _ => b
noncomputable def vw : Program := { PySem.Challenge.pw_to0043_01 with main := { PySem.Challenge.pw_to0043_01.main with body := (PySem.Challenge.pw_to0043_01.main.body.drop 1).take 50 ++ ((PySem.Challenge.pw_to0043_01.main.body.drop 52).take 6 ++ PySem.Challenge.pw_to0043_01.main.body.drop 59) } }
noncomputable def ads : List Addr := [2, 3, 6, 22, 24, 25, 27, 28, 29, 31, 32, 34, 35, 36, 38, 39, 41, 42, 43, 45, 46, 48, 49, 50, 51, 52, 53, 54, 57, 60, 62, 63, 65, 66, 67, 69, 70, 72, 73, 74, 76, 77, 79, 80, 81, 83, 84, 86, 87, 88, 90, 91, 93, 94, 95, 97, 98, 100, 101, 102, 104, 105, 107, 108, 109, 111, 112, 114, 115, 116, 119, 120, 121, 124, 125, 126, 128, 129, 131, 132, 133, 136, 137]
noncomputable def hk : Hook := kmHook hp ads (fun _ => by kernel_rfl) [103]
noncomputable def TT : Prop := WalkO vw [Str.ofString "EXACT_TOKEN_TYPES"] (XL vw []) hk.says PySem.Challenge.rw_to0043_01.row.toRowW ⟨Str.ofString "law", parOf (fd 64), bodOf (fd 64), scoOf (fd 64), posOf (fd 64)⟩ [] (fun f vs => call f vs)
end Mine
end
section
/-! The plain law: braids of three strands, by letters. No program in sight. -/
namespace Mine

/-- the four operators: < > << >> -/
inductive Lt where
  | a | A | b | B
  deriving DecidableEq

def Lt.isS : Lt → Bool
  | .a => true | .A => true | .b => false | .B => false
def Lt.up : Lt → Bool
  | .a => true | .A => false | .b => true | .B => false
def Lt.inv : Lt → Lt
  | .a => .A | .A => .a | .b => .B | .B => .b
def Lt.sh : Lt → Lt
  | .a => .b | .A => .B | .b => .a | .B => .A
def Lt.dg : Lt → Int
  | .a => 1 | .A => -1 | .b => 1 | .B => -1
theorem Lt.inv_inv (x : Lt) : x.inv.inv = x := by cases x <;> rfl
theorem Lt.sh_inv (x : Lt) : x.inv.sh = x.sh.inv := by cases x <;> rfl
theorem Lt.inv_isS (x : Lt) : x.inv.isS = x.isS := by cases x <;> rfl

/-! ### The square, and the rise -/
structure Sq where
  one : Int
  two : Int
  three : Int
  four : Int
  rise : Int
def Sq.step (s : Sq) : Lt → Sq
  | .a => ⟨s.one, s.two + s.one, s.three, s.four + s.three, s.rise + 1⟩
  | .A => ⟨s.one, s.two - s.one, s.three, s.four - s.three, s.rise - 1⟩
  | .b => ⟨s.one - s.two, s.two, s.three - s.four, s.four, s.rise + 1⟩
  | .B => ⟨s.one + s.two, s.two, s.three + s.four, s.four, s.rise - 1⟩
theorem Sq.ext {s t : Sq} (h1 : s.one = t.one) (h2 : s.two = t.two) (h3 : s.three = t.three) (h4 : s.four = t.four) (h5 : s.rise = t.rise) : s = t := by
  cases s; cases t; simp_all
def Sq.run (s : Sq) (w : List Lt) : Sq := w.foldl Sq.step s
theorem Sq.run_append (s : Sq) (u v : List Lt) : s.run (u ++ v) = (s.run u).run v := List.foldl_append ..
theorem Sq.run_cons (s : Sq) (l : Lt) (v : List Lt) : s.run (l :: v) = (s.step l).run v := rfl
theorem Sq.step_inv (s : Sq) (x : Lt) : (s.step x).step x.inv = s := by
  cases x <;> (apply Sq.ext <;> simp only [Lt.inv, Sq.step] <;> omega)
theorem Sq.step_inv' (s : Sq) (x : Lt) : (s.step x.inv).step x = s := by
  have := Sq.step_inv s x.inv; rwa [Lt.inv_inv] at this
theorem Sq.step_conj (s : Sq) (x l : Lt) (hx : x.isS = true) (hl : l.isS = false) :
    ((s.step x.inv).step l).step x = ((s.step x.sh).step l.sh).step x.inv.sh := by
  cases x <;> cases l <;> simp [Lt.isS] at hx hl <;> (apply Sq.ext <;> simp only [Lt.inv, Lt.sh, Sq.step] <;> omega)
theorem Sq.run_conj (x : Lt) (hx : x.isS = true) : ∀ (run : List Lt) (s : Sq), (∀ l ∈ run, l.isS = false) →
    s.run (x.inv :: (run ++ [x])) = s.run (x.sh :: (run.map Lt.sh ++ [x.inv.sh]))
  | [], s, _ => by
    show (s.step x.inv).step x = (s.step x.sh).step x.inv.sh
    rw [Sq.step_inv', Lt.sh_inv, Sq.step_inv]
  | l :: r, s, h => by
    have ih := Sq.run_conj x hx r (((s.step x.inv).step l).step x) (fun y hy => h y (List.mem_cons_of_mem _ hy))
    have c := Sq.step_conj s x l hx (h l (List.mem_cons_self ..))
    show ((s.step x.inv).step l).run (r ++ [x]) = ((s.step x.sh).step l.sh).run (r.map Lt.sh ++ [x.inv.sh])
    have e1 : (((s.step x.inv).step l).step x).run (x.inv :: (r ++ [x])) = ((s.step x.inv).step l).run (r ++ [x]) := by
      rw [Sq.run_cons, Sq.step_inv]
    rw [← e1, ih, c, Sq.run_cons, Lt.sh_inv]
    congr 1
    have := Sq.step_inv' ((s.step x.sh).step l.sh) x.sh
    exact this

/-! ### The ordered set that the braids move -/
structure Pt where
  n : Int
  x : Int
  y : Int
theorem Pt.ext {p q : Pt} (h1 : p.n = q.n) (h2 : p.x = q.x) (h3 : p.y = q.y) : p = q := by cases p; cases q; simp_all
def Pt.H (p : Pt) : Prop := 0 < p.y ∨ (p.y = 0 ∧ 0 < p.x)
def Pt.act (p : Pt) : Lt → Pt
  | .a => ⟨p.n, p.x + p.y, p.y⟩
  | .A => ⟨p.n, p.x - p.y, p.y⟩
  | .b => if 0 < p.x ∧ p.y < p.x then ⟨p.n - 1, -p.x, p.x - p.y⟩ else ⟨p.n, p.x, p.y - p.x⟩
  | .B => if p.x < 0 ∧ p.x + p.y ≤ 0 then ⟨p.n + 1, -p.x, -(p.x + p.y)⟩ else ⟨p.n, p.x, p.x + p.y⟩
theorem Pt.b_pos {n x y : Int} (h1 : 0 < x) (h2 : y < x) : Pt.act ⟨n, x, y⟩ .b = ⟨n - 1, -x, x - y⟩ := if_pos ⟨h1, h2⟩
theorem Pt.b_neg {n x y : Int} (h : ¬ (0 < x ∧ y < x)) : Pt.act ⟨n, x, y⟩ .b = ⟨n, x, y - x⟩ := if_neg h
theorem Pt.B_pos {n x y : Int} (h1 : x < 0) (h2 : x + y ≤ 0) : Pt.act ⟨n, x, y⟩ .B = ⟨n + 1, -x, -(x + y)⟩ := if_pos ⟨h1, h2⟩
theorem Pt.B_neg {n x y : Int} (h : ¬ (x < 0 ∧ x + y ≤ 0)) : Pt.act ⟨n, x, y⟩ .B = ⟨n, x, x + y⟩ := if_neg h
theorem Pt.H_y {n x y : Int} (h : Pt.H ⟨n, x, y⟩) : 0 ≤ y := h.elim Int.le_of_lt fun h => Int.le_of_eq h.1.symm
theorem Pt.H_x {n x y : Int} (h : Pt.H ⟨n, x, y⟩) (hx : x ≤ 0) : 0 < y := h.elim id fun z => absurd z.2 (Int.not_lt.mpr hx)
theorem Pt.H_of {n x y : Int} (h1 : 0 ≤ y) (h2 : x ≤ 0 → 0 < y) : Pt.H ⟨n, x, y⟩ := by
  rcases Int.lt_or_eq_of_le h1 with h | h
  · exact .inl h
  · refine .inr ⟨h.symm, ?_⟩
    rcases Int.lt_or_le 0 x with z | z
    · exact z
    · exact absurd (h2 z) (h ▸ Int.lt_irrefl _)
theorem Pt.H_act {p : Pt} (h : p.H) (l : Lt) : (p.act l).H := by
  obtain ⟨n, x, y⟩ := p
  have hy := Pt.H_y h
  have hx := fun z => Pt.H_x h z
  cases l with
  | a => exact show Pt.H ⟨n, x + y, y⟩ from Pt.H_of hy (fun z => by rcases Int.lt_or_le 0 x with u | u <;> first | exact hx u | omega)
  | A => exact show Pt.H ⟨n, x - y, y⟩ from Pt.H_of hy (fun z => by rcases Int.lt_or_le 0 x with u | u <;> first | exact hx u | omega)
  | b =>
    by_cases c : 0 < x ∧ y < x
    · rw [Pt.b_pos c.1 c.2]; exact Pt.H_of (by omega) (fun _ => by omega)
    · rw [Pt.b_neg c]; exact Pt.H_of (by rcases Int.lt_or_le 0 x with u | u <;> omega) (fun z => by have := hx z; omega)
  | B =>
    by_cases c : x < 0 ∧ x + y ≤ 0
    · rw [Pt.B_pos c.1 c.2]; exact Pt.H_of (by omega) (fun _ => by omega)
    · rw [Pt.B_neg c]; exact Pt.H_of (by omega) (fun z => by have := hx z; omega)
theorem Pt.act_inv {p : Pt} (h : p.H) (l : Lt) : (p.act l).act l.inv = p := by
  obtain ⟨n, x, y⟩ := p
  have hy := Pt.H_y h
  have hx := fun z => Pt.H_x h z
  cases l with
  | a => exact Pt.ext rfl (Int.add_sub_cancel x y) rfl
  | A => exact Pt.ext rfl (Int.sub_add_cancel x y) rfl
  | b =>
    show (Pt.act ⟨n, x, y⟩ .b).act .B = _
    by_cases c : 0 < x ∧ y < x
    · rw [Pt.b_pos c.1 c.2, Pt.B_pos (by omega) (by omega)]
      exact Pt.ext (Int.sub_add_cancel n 1) (Int.neg_neg x) (show -(-x + (x - y)) = y by omega)
    · rw [Pt.b_neg c, Pt.B_neg (fun z => by have := hx (Int.le_of_lt z.1); omega)]
      exact Pt.ext rfl rfl (show x + (y - x) = y by omega)
  | B =>
    show (Pt.act ⟨n, x, y⟩ .B).act .b = _
    by_cases c : x < 0 ∧ x + y ≤ 0
    · rw [Pt.B_pos c.1 c.2, Pt.b_pos (by omega) (by have := hx (Int.le_of_lt c.1); omega)]
      exact Pt.ext (Int.add_sub_cancel n 1) (Int.neg_neg x) (show -x - -(x + y) = y by omega)
    · rw [Pt.B_neg c, Pt.b_neg (fun z => by omega)]
      exact Pt.ext rfl rfl (show x + y - x = y by omega)
theorem Pt.act_inv' {p : Pt} (h : p.H) (l : Lt) : (p.act l.inv).act l = p := by
  have := Pt.act_inv h l.inv; rwa [Lt.inv_inv] at this
/-- p q r of a word act from the right: the word l₁ l₂ .. moves p to l₁ (l₂ (.. p)) -/
def Pt.mv (w : List Lt) (p : Pt) : Pt := w.foldr (fun l q => q.act l) p
theorem Pt.mv_cons (l : Lt) (w : List Lt) (p : Pt) : Pt.mv (l :: w) p = (Pt.mv w p).act l := rfl
theorem Pt.mv_append (u v : List Lt) (p : Pt) : Pt.mv (u ++ v) p = Pt.mv u (Pt.mv v p) := List.foldr_append ..
theorem Pt.H_mv {p : Pt} (h : p.H) : ∀ w, (Pt.mv w p).H
  | [] => h
  | l :: w => Pt.H_act (Pt.H_mv h w) l
theorem Pt.key {q : Pt} (hq : q.H) : ((q.act .a).act .b).act .a = ((q.act .b).act .a).act .b := by
  obtain ⟨n, x, y⟩ := q
  have hy : 0 ≤ y := hq.elim Int.le_of_lt fun h => Int.le_of_eq h.1.symm
  have hx : x ≤ 0 → 0 < y := fun h => hq.elim id fun z => absurd z.2 (Int.not_lt.mpr h)
  show (Pt.act ⟨n, x + y, y⟩ .b).act .a = _
  by_cases h : 0 < x
  · rw [Pt.b_pos (by omega) (by omega)]
    have e : (⟨n - 1, -(x + y), x + y - y⟩ : Pt).act .a = ⟨n - 1, -y, x⟩ := Pt.ext rfl (show -(x + y) + (x + y - y) = -y by omega) (show x + y - y = x by omega)
    rw [e]
    by_cases h2 : y < x
    · rw [Pt.b_pos h h2]
      show _ = Pt.act ⟨n - 1, -x + (x - y), x - y⟩ .b
      rw [Pt.b_neg (by omega)]
      exact Pt.ext rfl (show -y = -x + (x - y) by omega) (show x = x - y - (-x + (x - y)) by omega)
    · rw [Pt.b_neg (fun z => h2 z.2)]
      show _ = Pt.act ⟨n, x + (y - x), y - x⟩ .b
      rw [Pt.b_pos (by omega) (by omega)]
      exact Pt.ext rfl (show -y = -(x + (y - x)) by omega) (show x = x + (y - x) - (y - x) by omega)
  · rw [Pt.b_neg (by omega), Pt.b_neg (fun z => h z.1)]
    show _ = Pt.act ⟨n, x + (y - x), y - x⟩ .b
    rw [Pt.b_neg (by omega)]
    exact Pt.ext rfl (show x + y + (y - (x + y)) = x + (y - x) by omega) (show y - (x + y) = y - x - (x + (y - x)) by omega)
theorem Pt.act_conj {p : Pt} (h : p.H) (x l : Lt) (hx : x.isS = true) (hl : l.isS = false) :
    ((p.act x).act l).act x.inv = ((p.act x.inv.sh).act l.sh).act x.sh := by
  cases x <;> cases l <;> simp [Lt.isS] at hx hl
  · show ((p.act .a).act .b).act .A = ((p.act .B).act .a).act .b
    have hq := Pt.H_act h .B
    have e : p = (p.act .B).act .b := (Pt.act_inv h .B).symm
    generalize p.act .B = q at e hq
    subst e
    rw [← Pt.key hq]
    exact Pt.act_inv (Pt.H_act (Pt.H_act hq .a) .b) .a
  · show ((p.act .a).act .B).act .A = ((p.act .B).act .A).act .b
    have hq := Pt.H_act (Pt.H_act h .B) .A
    have e : p = (((p.act .B).act .A).act .a).act .b := by
      rw [show ((p.act .B).act .A).act .a = p.act .B from Pt.act_inv (Pt.H_act h .B) .A]; exact (Pt.act_inv h .B).symm
    generalize (p.act .B).act .A = q at e hq
    subst e
    rw [Pt.key hq]
    have e1 := Pt.act_inv (Pt.H_act (Pt.H_act hq .b) .a) .b
    show (((((q.act .b).act .a).act .b).act .B).act .A) = q.act .b
    rw [show (((q.act .b).act .a).act .b).act .B = (q.act .b).act .a from e1]
    exact Pt.act_inv (Pt.H_act hq .b) .a
  · show ((p.act .A).act .b).act .a = ((p.act .b).act .a).act .B
    have hq := Pt.H_act h .A
    have e : p = (p.act .A).act .a := (Pt.act_inv h .A).symm
    generalize p.act .A = q at e hq
    subst e
    rw [Pt.key hq]
    exact (Pt.act_inv (Pt.H_act (Pt.H_act hq .b) .a) .b).symm
  · show ((p.act .A).act .B).act .a = ((p.act .b).act .A).act .B
    have hq := Pt.H_act (Pt.H_act h .A) .B
    have e : p = (((p.act .A).act .B).act .b).act .a := by
      rw [show ((p.act .A).act .B).act .b = p.act .A from Pt.act_inv (Pt.H_act h .A) .B]; exact (Pt.act_inv h .A).symm
    generalize (p.act .A).act .B = q at e hq
    subst e
    rw [← Pt.key hq]
    have e1 := Pt.act_inv (Pt.H_act (Pt.H_act hq .a) .b) .a
    show q.act .a = (((((q.act .a).act .b).act .a).act .A).act .B)
    rw [show (((q.act .a).act .b).act .a).act .A = (q.act .a).act .b from e1]
    exact (Pt.act_inv (Pt.H_act hq .a) .b).symm
theorem Pt.mv_conj (x : Lt) (hx : x.isS = true) : ∀ (run : List Lt) {p : Pt}, p.H → (∀ l ∈ run, l.isS = false) →
    Pt.mv (x.inv :: (run ++ [x])) p = Pt.mv (x.sh :: (run.map Lt.sh ++ [x.inv.sh])) p
  | [], p, h, _ => by
    show (p.act x).act x.inv = (p.act x.inv.sh).act x.sh
    rw [Pt.act_inv h, Lt.sh_inv, Pt.act_inv' h]
  | l :: r, p, h, hr => by
    have ih := Pt.mv_conj x hx r h (fun y hy => hr y (List.mem_cons_of_mem _ hy))
    have hq : (Pt.mv (x.inv :: (r ++ [x])) p).H := Pt.H_mv h _
    have c := Pt.act_conj hq x l hx (hr l (List.mem_cons_self ..))
    rw [Pt.mv_cons, List.cons_append, Pt.mv_cons, List.map_cons, List.cons_append, Pt.mv_cons, Pt.mv_cons]
    have e1 : (Pt.mv (x.inv :: (r ++ [x])) p).act x = Pt.mv (r ++ [x]) p := by
      rw [Pt.mv_cons, Pt.act_inv' (Pt.H_mv h _)]
    have e2 : (Pt.mv (x.inv :: (r ++ [x])) p).act x.inv.sh = Pt.mv (r.map Lt.sh ++ [x.inv.sh]) p := by
      rw [ih, Pt.mv_cons, Lt.sh_inv, Pt.act_inv (Pt.H_mv h _)]
    rw [← e1, ← e2, c]

def Pt.lt (p q : Pt) : Prop := p.n < q.n ∨ (p.n = q.n ∧ p.y * q.x < p.x * q.y)

theorem cr_b {x y x' y' : Int} (hp : 0 < y ∨ (y = 0 ∧ 0 < x)) (hq : 0 < y' ∨ (y' = 0 ∧ 0 < x')) (h1 : ¬ (0 < x ∧ y < x)) (h2 : 0 < x' ∧ y' < x') : x * y' < y * x' := by
  rcases Int.lt_or_le 0 x with hx | hx
  · have h3 : x ≤ y := by omega
    have e1 : x * x' ≤ y * x' := Int.mul_le_mul_of_nonneg_right h3 (by omega)
    have e2 : x * y' < x * x' := Int.mul_lt_mul_of_pos_left h2.2 hx
    omega
  · have e1 : x * y' ≤ 0 := Int.mul_nonpos_of_nonpos_of_nonneg hx (by omega)
    have e2 : 0 < y * x' := Int.mul_pos (by omega) (by omega)
    omega
theorem cr_B {x y x' y' : Int} (hp : 0 < y ∨ (y = 0 ∧ 0 < x)) (hq : 0 < y' ∨ (y' = 0 ∧ 0 < x')) (h1 : x < 0 ∧ x + y ≤ 0) (h2 : ¬ (x' < 0 ∧ x' + y' ≤ 0)) : x * y' < y * x' := by
  have hy : 0 < y := by omega
  rcases Int.lt_or_le x' 0 with hx | hx
  · have h3 : -x' < y' := by omega
    have e1 : y * (-x') < y * y' := Int.mul_lt_mul_of_pos_left h3 hy
    have e2 : y * y' ≤ (-x) * y' := Int.mul_le_mul_of_nonneg_right (by omega) (by omega)
    rw [Int.mul_neg] at e1; rw [Int.neg_mul] at e2
    omega
  · have e2 : 0 ≤ y * x' := Int.mul_nonneg (by omega) hx
    by_cases hy' : y' = 0
    · have : 0 < y * x' := Int.mul_pos hy (by omega)
      rw [hy', Int.mul_zero]; exact this
    · have : 0 < (-x) * y' := Int.mul_pos (by omega) (by omega)
      rw [Int.neg_mul] at this
      omega
theorem Pt.lt_act {p q : Pt} (hp : p.H) (hq : q.H) (l : Lt) (h : p.lt q) : (p.act l).lt (q.act l) := by
  obtain ⟨n, x, y⟩ := p
  obtain ⟨n', x', y'⟩ := q
  simp only [Pt.H, Pt.lt] at *
  cases l with
  | a => simp only [Pt.act]; grind
  | A => simp only [Pt.act]; grind
  | b =>
    have c1 := fun h1 h2 => cr_b (x := x) (y := y) (x' := x') (y' := y') hp hq h1 h2
    simp only [Pt.act]
    by_cases h1 : 0 < x ∧ y < x <;> by_cases h2 : 0 < x' ∧ y' < x' <;> simp only [h1, h2, if_true, if_false, not_true_eq_false, not_false_eq_true] at c1 ⊢ <;> (try (have c1 := c1 trivial trivial)) <;> grind
  | B =>
    have c1 := fun h1 h2 => cr_B (x := x) (y := y) (x' := x') (y' := y') hp hq h1 h2
    have c2 := fun h1 h2 => cr_B (x := x') (y := y') (x' := x) (y' := y) hq hp h1 h2
    simp only [Pt.act]
    by_cases h1 : x < 0 ∧ x + y ≤ 0 <;> by_cases h2 : x' < 0 ∧ x' + y' ≤ 0 <;> simp only [h1, h2, if_true, if_false, not_true_eq_false, not_false_eq_true] at c1 c2 ⊢ <;> (try (have c1 := c1 trivial trivial)) <;> (try (have c2 := c2 trivial trivial)) <;> grind
/-- not less is an order: what lies under something lies under one of two -/
theorem Pt.lt_part {p q r : Pt} (hp : p.H) (hq : q.H) (hr : r.H) (h : r.lt p) : r.lt q ∨ q.lt p := by
  obtain ⟨n, x, y⟩ := p
  obtain ⟨n', x', y'⟩ := q
  obtain ⟨n'', x'', y''⟩ := r
  simp only [Pt.H, Pt.lt] at *
  by_cases hn : n'' = n ∧ n = n'
  · obtain ⟨rfl, rfl⟩ := hn
    rcases h with h | ⟨_, h⟩
    · omega
    · refine Classical.byContradiction fun hc => ?_
      have h1 : ¬ y'' * x' < x'' * y' := fun z => hc (.inl (.inr ⟨rfl, z⟩))
      have h2 : ¬ y' * x < x' * y := fun z => hc (.inr (.inr ⟨rfl, z⟩))
      -- y' (x'' y - y'' x) = y'' (x' y - y' x) + y (x'' y' - y'' x')
      have k1 : y' * (x'' * y - y'' * x) = y'' * (x' * y - y' * x) + y * (x'' * y' - y'' * x') := by grind
      have a1 : y'' * (x' * y - y' * x) ≤ 0 := Int.mul_nonpos_of_nonneg_of_nonpos (by omega) (by omega)
      have a2 : y * (x'' * y' - y'' * x') ≤ 0 := Int.mul_nonpos_of_nonneg_of_nonpos (by omega) (by omega)
      rcases hq with hq | ⟨hq, hx'⟩
      · have : 0 < y' * (x'' * y - y'' * x) := Int.mul_pos hq (by omega)
        omega
      · subst hq
        simp only [Int.mul_zero, Int.zero_mul] at h1 h2
        have : ¬ 0 < y := fun hy => h2 (Int.mul_pos hx' hy)
        obtain ⟨rfl, hx⟩ : y = 0 ∧ 0 < x := by omega
        rw [Int.mul_zero] at h
        have : y'' < 0 := by
          refine Classical.byContradiction fun z => ?_
          have := Int.mul_nonneg (a := y'') (b := x) (by omega) (by omega)
          omega
        omega
  · rcases h with h | ⟨e, h⟩
    · rcases Int.lt_or_le n'' n' with a | a
      · exact .inl (.inl a)
      · exact .inr (.inl (Int.lt_of_le_of_lt a h))
    · subst e
      rcases Int.lt_trichotomy n'' n' with a | a | a
      · exact .inl (.inl a)
      · exact absurd ⟨rfl, a⟩ hn
      · exact .inr (.inl a)
theorem Pt.lt_irrefl {p : Pt} : ¬ p.lt p := by
  simp only [Pt.lt]; intro h; rcases h with h | ⟨_, h⟩
  · omega
  · rw [Int.mul_comm] at h; omega
def Pt.le (p q : Pt) : Prop := ¬ q.lt p
theorem Pt.le_refl (p : Pt) : p.le p := Pt.lt_irrefl
theorem Pt.le_trans {p q r : Pt} (hp : p.H) (hq : q.H) (hr : r.H) (h1 : p.le q) (h2 : q.le r) : p.le r := fun h =>
  (Pt.lt_part hp hq hr h).elim h2 h1
theorem Pt.lt_of_lt_of_le {p q r : Pt} (hp : p.H) (hq : q.H) (hr : r.H) (h1 : p.lt q) (h2 : q.le r) : p.lt r :=
  (Pt.lt_part hq hr hp h1).elim id fun h => absurd h h2
theorem Pt.le_act {p q : Pt} (hp : p.H) (hq : q.H) (l : Lt) (h : p.le q) : (p.act l).le (q.act l) := fun z => h (by
  have := Pt.lt_act (Pt.H_act hq l) (Pt.H_act hp l) l.inv z
  rwa [Pt.act_inv hq, Pt.act_inv hp] at this)
theorem Pt.le_mv {p q : Pt} (hp : p.H) (hq : q.H) (h : p.le q) : ∀ w, (Pt.mv w p).le (Pt.mv w q)
  | [] => h
  | l :: w => Pt.le_act (Pt.H_mv hp w) (Pt.H_mv hq w) l (Pt.le_mv hp hq h w)
theorem sq_nonneg' (x : Int) : 0 ≤ x * x := by
  rcases Int.le_total 0 x with h | h
  · exact Int.mul_nonneg h h
  · have := Int.mul_nonneg (a := -x) (b := -x) (by omega) (by omega); rwa [Int.neg_mul_neg] at this
/-- a crossing put in moves nothing up -/
theorem Pt.up_le {p : Pt} (hp : p.H) (l : Lt) (hl : l.up = true) : (p.act l).le p := by
  obtain ⟨n, x, y⟩ := p
  have s1 := sq_nonneg' x
  have s2 := sq_nonneg' y
  cases l <;> simp [Lt.up] at hl <;> simp only [Pt.le, Pt.lt, Pt.act, Pt.H] at *
  · grind
  · split <;> grind
theorem Pt.down_le {p : Pt} (hp : p.H) (l : Lt) (hl : l.up = false) : p.le (p.act l) := by
  have h := Pt.up_le (Pt.H_act hp l) l.inv (by cases l <;> simp_all [Lt.up, Lt.inv])
  rwa [Pt.act_inv hp] at h
end Mine
end
section
/-! The plain law, second part: the reduction, its end, what it leaves. -/
namespace Mine
open Lt

/-! ### What an inserted word is -/
/-- a row of the pieces: w with k crossings put in alone -/
inductive Ins : List Lt → Nat → Prop
  | nil : Ins [] 0
  | put (u v p : List Lt) (k j : Nat) (h : Ins (u ++ v) k) (hp : (p = [.a] ∧ j = 1) ∨ (p = [.b] ∧ j = 1) ∨ (j = 0 ∧ p ∈ [[.a, .A], [.A, .a], [.b, .B], [.B, .b], [.a, .b, .a, .B, .A, .B], [.b, .a, .b, .A, .B, .A]])) : Ins (u ++ p ++ v) (k + j)

theorem mv_triv {p : Pt} (h : p.H) (w : List Lt) (hw : w ∈ [[Lt.a, .A], [.A, .a], [.b, .B], [.B, .b], [.a, .b, .a, .B, .A, .B], [.b, .a, .b, .A, .B, .A]]) : Pt.mv w p = p := by
  have key : ∀ {q : Pt}, q.H → ((q.act .a).act .b).act .a = ((q.act .b).act .a).act .b := Pt.key
  simp only [List.mem_cons, List.not_mem_nil, or_false] at hw
  rcases hw with rfl | rfl | rfl | rfl | rfl | rfl
  · exact Pt.act_inv' h .a
  · exact Pt.act_inv h .a
  · exact Pt.act_inv' h .b
  · exact Pt.act_inv h .b
  · show ((((((p.act .B).act .A).act .B).act .a).act .b).act .a) = p
    have h1 := Pt.H_act h .B
    have h2 := Pt.H_act h1 .A
    have h3 := Pt.H_act h2 .B
    rw [key h3, show ((((p.act .B).act .A).act .B).act .b) = ((p.act .B).act .A) from Pt.act_inv' h2 .b, show (((p.act .B).act .A).act .a) = p.act .B from Pt.act_inv' h1 .a]
    exact Pt.act_inv' h .b
  · show ((((((p.act .A).act .B).act .A).act .b).act .a).act .b) = p
    have h1 := Pt.H_act h .A
    have h2 := Pt.H_act h1 .B
    have h3 := Pt.H_act h2 .A
    rw [← key h3, show ((((p.act .A).act .B).act .A).act .a) = ((p.act .A).act .B) from Pt.act_inv' h2 .a, show (((p.act .A).act .B).act .b) = p.act .A from Pt.act_inv' h1 .b]
    exact Pt.act_inv' h .a

theorem Ins.le {w : List Lt} {k : Nat} (h : Ins w k) {p : Pt} (hp : p.H) : (Pt.mv w p).le p := by
  induction h with
  | nil => exact Pt.le_refl p
  | put u v q k j _ hq ih =>
    refine Pt.le_trans (Pt.H_mv hp _) (Pt.H_mv hp (u ++ v)) hp ?_ ih
    rw [Pt.mv_append, Pt.mv_append, Pt.mv_append]
    have hv := Pt.H_mv hp v
    rcases hq with ⟨rfl, _⟩ | ⟨rfl, _⟩ | ⟨_, hq⟩
    · exact Pt.le_mv (Pt.H_act hv .a) hv (Pt.up_le hv .a rfl) u
    · exact Pt.le_mv (Pt.H_act hv .b) hv (Pt.up_le hv .b rfl) u
    · rw [mv_triv hv q hq]; exact Pt.le_refl _
theorem Ins.same {w : List Lt} {k : Nat} (h : Ins w k) (h0 : k = 0) {p : Pt} (hp : p.H) : Pt.mv w p = p := by
  induction h with
  | nil => rfl
  | put u v q k j _ hq ih =>
    rw [Pt.mv_append, Pt.mv_append]
    have hv := Pt.H_mv hp v
    rcases hq with ⟨rfl, hj⟩ | ⟨rfl, hj⟩ | ⟨_, hq⟩
    · omega
    · omega
    · rw [mv_triv hv q hq, ← Pt.mv_append]; exact ih (by omega)

/-! ### The reduction -/
inductive Turn : List Lt → List Lt → List Lt → List Lt → Prop
  | red0 (R : List Lt) (x : Lt) (rs : List Lt) : Turn (R ++ [x.inv]) (x :: rs) R rs
  | red (R run : List Lt) (x : Lt) (rs : List Lt) (hx : x.isS = true) (hr : ∀ l ∈ run, l.isS = false) (hn : run ≠ []) :
      Turn (R ++ x.inv :: run) (x :: rs) R (x.sh :: (run.map Lt.sh ++ x.inv.sh :: rs))
  | push (row : List Lt) (x : Lt) (rs : List Lt) (h : ∀ R run, (∀ l ∈ run, l.isS = false ∧ x.isS = true) → row ≠ R ++ x.inv :: run) : Turn row (x :: rs) (row ++ [x]) rs

structure Good (row : List Lt) : Prop where
  one : ∃ e : Bool, ∀ l ∈ row, l.isS = true → l.up = e
  free : ∀ (R : List Lt) (y : Lt) (T : List Lt), y.isS = false → row ≠ R ++ y.inv :: y :: T
theorem Good.nil : Good [] := ⟨⟨true, fun _ h => nomatch h⟩, fun R y T _ h => by simp at h⟩
theorem Good.pre {u v : List Lt} (h : Good (u ++ v)) : Good u :=
  ⟨h.one.imp fun _ he l hl => he l (List.mem_append_left _ hl), fun R y T hy e => h.free R y (T ++ v) hy (by rw [e]; simp)⟩

theorem lastS : ∀ row : List Lt, (∀ l ∈ row, l.isS = false) ∨ ∃ R c run, row = R ++ c :: run ∧ c.isS = true ∧ ∀ l ∈ run, l.isS = false
  | [] => .inl fun _ h => nomatch h
  | l :: t => by
    rcases lastS t with h | ⟨R, c, run, rfl, hc, hr⟩
    · cases hl : l.isS with
      | false => exact .inl fun y hy => (List.mem_cons.mp hy).elim (fun e => e ▸ hl) (h y)
      | true => exact .inr ⟨[], l, t, rfl, hl, h⟩
    · exact .inr ⟨l :: R, c, run, rfl, hc, hr⟩

theorem Good.push {row : List Lt} {x : Lt} (g : Good row) (h : ∀ R run, (∀ l ∈ run, l.isS = false ∧ x.isS = true) → row ≠ R ++ x.inv :: run) : Good (row ++ [x]) := by
  constructor
  · obtain ⟨e, he⟩ := g.one
    cases hx : x.isS with
    | false =>
      refine ⟨e, fun l hl hs => ?_⟩
      rcases List.mem_append.mp hl with hl | hl
      · exact he l hl hs
      · rw [List.mem_singleton.mp hl, hx] at hs; cases hs
    | true =>
      rcases lastS row with hr | ⟨R, c, run, rfl, hc, hr⟩
      · refine ⟨x.up, fun l hl hs => ?_⟩
        rcases List.mem_append.mp hl with hl | hl
        · rw [hr l hl] at hs; cases hs
        · rw [List.mem_singleton.mp hl]
      · refine ⟨e, fun l hl hs => ?_⟩
        rcases List.mem_append.mp hl with hl | hl
        · exact he l hl hs
        · have e1 := he c (by simp) hc
          have e2 : c ≠ x.inv := fun q => h R run (fun l hl => ⟨hr l hl, hx⟩) (by rw [q])
          rw [List.mem_singleton.mp hl, ← e1]
          cases x <;> cases c <;> simp_all [Lt.isS, Lt.inv, Lt.up]
  · intro R y T hy e
    rcases List.eq_nil_or_concat T with rfl | ⟨T', z, rfl⟩
    · have e' : row ++ [x] = (R ++ [y.inv]) ++ [y] := by rw [e]; simp
      obtain ⟨e1, e2⟩ := List.append_inj' e' rfl
      simp only [List.cons.injEq, and_true] at e2
      subst e2
      exact h R [] (fun _ hl => nomatch hl) e1
    · have e' : row ++ [x] = (R ++ y.inv :: y :: T') ++ [z] := by rw [e]; simp
      obtain ⟨e1, _⟩ := List.append_inj' e' rfl
      exact g.free R y T' hy e1

theorem Turn.good {row rest row' rest' : List Lt} (t : Turn row rest row' rest') (g : Good row) : Good row' :=
  match row, rest, row', rest', t, g with
  | _, _, _, _, .red0 _ _ _, g => g.pre
  | _, _, _, _, .red _ _ _ _ _ _ _, g => g.pre
  | _, _, _, _, .push _ _ _ h, g => g.push h

/-- the square and the moves stay -/
theorem Turn.sq {row rest row' rest' : List Lt} (t : Turn row rest row' rest') (s : Sq) : s.run (row' ++ rest') = s.run (row ++ rest) :=
  match row, rest, row', rest', t with
  | _, _, _, _, .red0 R x rs => by
    rw [List.append_assoc, Sq.run_append, Sq.run_append]
    show _ = (((s.run R).step x.inv).step x).run rs
    rw [Sq.step_inv']
  | _, _, _, _, .red R run x rs hx hr hn => by
    have := Sq.run_conj x hx run (s.run R) hr
    have e1 : R ++ x.sh :: (run.map Lt.sh ++ x.inv.sh :: rs) = R ++ ((x.sh :: (run.map Lt.sh ++ [x.inv.sh])) ++ rs) := by simp
    have e2 : R ++ x.inv :: run ++ x :: rs = R ++ ((x.inv :: (run ++ [x])) ++ rs) := by simp
    rw [e1, e2, Sq.run_append, Sq.run_append, Sq.run_append s, Sq.run_append, this]
  | _, _, _, _, .push row x rs h => by rw [List.append_assoc]; rfl
theorem Turn.mv {row rest row' rest' : List Lt} (t : Turn row rest row' rest') {p : Pt} (hp : p.H) : Pt.mv (row' ++ rest') p = Pt.mv (row ++ rest) p :=
  match row, rest, row', rest', t with
  | _, _, _, _, .red0 R x rs => by
    rw [List.append_assoc, Pt.mv_append, Pt.mv_append]
    show _ = Pt.mv R (((Pt.mv rs p).act x).act x.inv)
    rw [Pt.act_inv (Pt.H_mv hp _)]
  | _, _, _, _, .red R run x rs hx hr hn => by
    have := Pt.mv_conj x hx run (Pt.H_mv hp rs) hr
    have e1 : R ++ x.sh :: (run.map Lt.sh ++ x.inv.sh :: rs) = R ++ ((x.sh :: (run.map Lt.sh ++ [x.inv.sh])) ++ rs) := by simp
    have e2 : R ++ x.inv :: run ++ x :: rs = R ++ ((x.inv :: (run ++ [x])) ++ rs) := by simp
    rw [e1, e2, Pt.mv_append, Pt.mv_append, Pt.mv_append R, Pt.mv_append, this]
  | _, _, _, _, .push row x rs h => by rw [List.append_assoc]; rfl
theorem Turn.len {row rest row' rest' : List Lt} (t : Turn row rest row' rest') : row'.length + rest'.length ≤ row.length + rest.length := by
  cases t <;> simp <;> omega

/-! ### It ends -/
def sg (w : List Lt) : List Bool := w.filterMap fun l => if l.isS then some l.up else none
def chg : List Bool → Nat
  | x :: y :: t => (if x = y then 0 else 1) + chg (y :: t)
  | _ => 0
def wt : List Lt → Int
  | [] => 0
  | l :: t => l.dg * (t.length + 1) + wt t
def dgs : List Lt → Int
  | [] => 0
  | l :: t => l.dg + dgs t
theorem wt_append : ∀ u v : List Lt, wt (u ++ v) = wt u + dgs u * v.length + wt v
  | [], v => by simp [wt, dgs]
  | l :: t, v => by
    have ih := wt_append t v
    simp only [List.cons_append, wt, dgs, List.length_append, ih]
    have e : ((t.length + v.length : Nat) : Int) = t.length + v.length := by omega
    rw [e]
    grind
theorem wt_bound : ∀ w : List Lt, -((w.length : Int) * (w.length + 1)) ≤ wt w ∧ wt w ≤ (w.length : Int) * (w.length + 1)
  | [] => by simp [wt]
  | l :: t => by
    have ih := wt_bound t
    have hl : l.dg = 1 ∨ l.dg = -1 := by cases l <;> simp [Lt.dg]
    simp only [wt, List.length_cons]
    have e : ((t.length + 1 : Nat) : Int) = t.length + 1 := by omega
    rw [e]
    have hn : (0 : Int) ≤ t.length := by omega
    generalize (t.length : Int) = n at *
    have e2 : (n + 1) * (n + 1 + 1) = n * (n + 1) + 2 * (n + 1) := by grind
    rw [e2]
    rcases hl with h | h <;> rw [h] <;> omega
theorem sg_append (u v : List Lt) : sg (u ++ v) = sg u ++ sg v := List.filterMap_append ..
theorem sg_all {e : Bool} : ∀ {w : List Lt}, (∀ l ∈ w, l.isS = true → l.up = e) → ∀ y ∈ sg w, y = e := by
  intro w h y hy
  unfold sg at hy
  rw [List.mem_filterMap] at hy
  obtain ⟨l, hl, hy⟩ := hy
  split at hy
  · rename_i hs
    cases hy
    exact h l hl hs
  · cases hy
theorem sg_none {w : List Lt} (h : ∀ l ∈ w, l.isS = false) : sg w = [] := by
  unfold sg
  rw [List.filterMap_eq_nil_iff]
  intro l hl
  simp [h l hl]
theorem chg_all {e : Bool} (t : List Bool) : ∀ {u : List Bool}, (∀ y ∈ u, y = e) → chg (u ++ e :: t) = chg (e :: t)
  | [], _ => rfl
  | [y], h => by
    obtain rfl := h y (by simp)
    simp [chg]
  | y :: z :: r, h => by
    have ih := chg_all t (u := z :: r) fun q hq => h q (List.mem_cons_of_mem _ hq)
    obtain rfl := h y (by simp)
    obtain rfl := h z (by simp)
    simpa [chg] using ih
theorem chg_le {e : Bool} (s : List Bool) {u : List Bool} (h : ∀ y ∈ u, y = e) : chg (u ++ s) ≤ chg (e :: s) := by
  cases s with
  | nil =>
    rcases List.eq_nil_or_concat u with rfl | ⟨u', z, rfl⟩
    · simp [chg]
    · obtain rfl := h z (by simp)
      rw [List.append_nil, List.concat_eq_append, chg_all [] fun q hq => h q (by simp [hq])]
      exact Nat.le_refl _
  | cons y t =>
    by_cases hy : y = e
    · subst hy
      rw [chg_all t h]
      simp [chg]
    · rcases List.eq_nil_or_concat u with rfl | ⟨u', z, rfl⟩
      · simp [chg]
      · obtain rfl := h z (by simp)
        have e1 : (u'.concat z) ++ y :: t = u' ++ z :: (y :: t) := by simp
        rw [e1, chg_all (y :: t) fun q hq => h q (by simp [hq])]
        exact Nat.le_refl _
theorem chg_flip (e : Bool) (s : List Bool) : chg (e :: s) ≤ 1 + chg ((!e) :: s) := by
  cases s with
  | nil => simp [chg]
  | cons y t => simp only [chg]; split <;> split <;> omega

/-- a run of one row has one sign -/
theorem run_one {R run T : List Lt} (g : Good (R ++ run ++ T)) (hr : ∀ l ∈ run, l.isS = false) : ∃ d : Bool, ∀ l ∈ run, l.up = d := by
  induction run generalizing R with
  | nil => exact ⟨true, fun _ h => nomatch h⟩
  | cons l t ih =>
    obtain ⟨d, hd⟩ := ih (R := R ++ [l]) (by simpa using g) fun y hy => hr y (List.mem_cons_of_mem _ hy)
    cases t with
    | nil => exact ⟨l.up, fun y hy => by rw [List.mem_singleton.mp hy]⟩
    | cons z t =>
      refine ⟨d, fun y hy => ?_⟩
      rcases List.mem_cons.mp hy with rfl | hy
      · have h1 := hd z (List.mem_cons_self ..)
        have h2 : z.isS = false := hr z (by simp)
        have h3 : y.isS = false := hr y (by simp)
        have h4 : y ≠ z.inv := fun e => g.free R z (t ++ T) h2 (by rw [e]; simp)
        rw [← h1]
        cases y <;> cases z <;> simp_all [Lt.isS, Lt.inv, Lt.up]
      · exact hd y hy

/-- the measure: length, changes of sign, weight, what is not read -/
def mW (w : List Lt) : Nat := match (sg w).head? with
  | some true => (wt w + w.length * (w.length + 1)).toNat
  | some false => (w.length * (w.length + 1) - wt w).toNat
  | none => 0
def mea (st : List Lt × List Lt) : Nat × Nat × Nat × Nat := ((st.1 ++ st.2).length, chg (sg (st.1 ++ st.2)), mW (st.1 ++ st.2), st.2.length)
def Less : Nat × Nat × Nat × Nat → Nat × Nat × Nat × Nat → Prop := Prod.Lex (· < ·) (Prod.Lex (· < ·) (Prod.Lex (· < ·) (· < ·)))
theorem less_wf : WellFounded Less := (Prod.lex Nat.lt_wfRel (Prod.lex Nat.lt_wfRel (Prod.lex Nat.lt_wfRel Nat.lt_wfRel))).wf

theorem less_len {a b : Nat} {x y : Nat × Nat × Nat} (h : a < b) : Less (a, x) (b, y) := .left _ _ h
theorem less_chg {n a b : Nat} {x y : Nat × Nat} (h : a < b) : Less (n, a, x) (n, b, y) := .right _ (.left _ _ h)
theorem less_w {n c a b x y : Nat} (h : a < b) : Less (n, c, a, x) (n, c, b, y) := .right _ (.right _ (.left _ _ h))
theorem less_r {n c w a b : Nat} (h : a < b) : Less (n, c, w, a) (n, c, w, b) := .right _ (.right _ (.right _ h))

theorem sg_cons (l : Lt) (w : List Lt) : sg (l :: w) = (if l.isS then [l.up] else []) ++ sg w := by
  unfold sg
  rw [List.filterMap_cons]
  cases l <;> rfl
theorem sg_sh {d : Bool} : ∀ {run : List Lt}, (∀ l ∈ run, l.isS = false) → (∀ l ∈ run, l.up = d) → sg (run.map Lt.sh) = List.replicate run.length d
  | [], _, _ => rfl
  | l :: t, h1, h2 => by
    rw [List.map_cons, sg_cons, sg_sh (fun y hy => h1 y (List.mem_cons_of_mem _ hy)) (fun y hy => h2 y (List.mem_cons_of_mem _ hy)), List.length_cons, List.replicate_succ]
    have a := h1 l (List.mem_cons_self ..)
    have b := h2 l (List.mem_cons_self ..)
    cases l <;> simp_all [Lt.isS, Lt.sh, Lt.up]
/-- the weight falls (or rises) by the turn -/
theorem wt_run {d : Int} : ∀ {run : List Lt} (_ : ∀ l ∈ run, l.dg = d), dgs run = d * run.length
  | [], _ => by simp [dgs]
  | l :: t, h => by
    have ih := wt_run fun y hy => h y (List.mem_cons_of_mem _ hy)
    rw [dgs, ih, h l (List.mem_cons_self ..), List.length_cons]
    have e : ((t.length + 1 : Nat) : Int) = t.length + 1 := by omega
    rw [e]; grind
theorem dgs_sh : ∀ run : List Lt, dgs (run.map Lt.sh) = dgs run
  | [] => rfl
  | l :: t => by rw [List.map_cons, dgs, dgs, dgs_sh t]; cases l <;> rfl
theorem wt_sh : ∀ run : List Lt, wt (run.map Lt.sh) = wt run
  | [] => rfl
  | l :: t => by rw [List.map_cons, wt, wt, wt_sh t, List.length_map]; cases l <;> rfl
theorem wt_red (R run rs : List Lt) (x : Lt) :
    wt (R ++ (x.sh :: (run.map Lt.sh ++ x.inv.sh :: rs))) = wt (R ++ x.inv :: (run ++ x :: rs)) + 2 * x.dg * (run.length + 1) := by
  rw [wt_append, wt_append]
  simp only [wt, wt_append, dgs_sh, wt_sh, List.length_append, List.length_map, List.length_cons]
  have e1 : x.sh.dg = x.dg := by cases x <;> rfl
  have e2 : x.inv.dg = - x.dg := by cases x <;> rfl
  have e3 : x.inv.sh.dg = - x.dg := by cases x <;> rfl
  rw [e1, e2, e3]
  simp only [Int.natCast_add, Int.natCast_one]
  grind

theorem Lt.sh_S {x : Lt} (h : x.isS = true) : x.sh.isS = false := by cases x <;> first | rfl | cases h
theorem Lt.dg_up {x : Lt} {e : Bool} (h : x.up = !e) : x.dg = if e = true then -1 else 1 := by cases x <;> cases e <;> first | rfl | cases h
theorem bool_not {d e : Bool} (h : ¬ d = e) : d = !e := by cases d <;> cases e <;> first | rfl | exact absurd rfl h
theorem Turn.less {row rest row' rest' : List Lt} (t : Turn row rest row' rest') (g : Good row) : Less (mea (row', rest')) (mea (row, rest)) :=
  match row, rest, row', rest', t, g with
  | _, _, _, _, .red0 R x rs, _ => less_len (by simp; omega)
  | _, _, _, _, .push row x rs h, _ => by
    unfold mea
    dsimp only
    rw [List.append_assoc]
    exact less_r (by simp)
  | _, _, _, _, .red R run x rs hx hr hn, g => by
    obtain ⟨e, he⟩ := g.one
    obtain ⟨d, hd⟩ := run_one (R := R ++ [x.inv]) (run := run) (T := []) (by simpa using g) hr
    have hxi : x.inv.isS = true := by rw [Lt.inv_isS, hx]
    have hxe : x.inv.up = e := he _ (by simp) hxi
    have hxu : x.up = !e := by rw [← hxe]; cases x <;> rfl
    have hu : ∀ y ∈ sg R, y = e := sg_all fun l hl hs => he l (List.mem_append_left _ hl) hs
    have eO : R ++ x.inv :: run ++ x :: rs = R ++ x.inv :: (run ++ x :: rs) := by simp
    have s1 : sg (R ++ x.inv :: run ++ x :: rs) = sg R ++ e :: ((!e) :: sg rs) := by
      rw [eO, sg_append, sg_cons, sg_append, sg_none hr, sg_cons, hxi, hx, hxe, hxu]; rfl
    have hxs : x.sh.isS = false := Lt.sh_S hx
    have hxis : x.inv.sh.isS = false := Lt.sh_S hxi
    have s2 : sg (R ++ (x.sh :: (run.map Lt.sh ++ x.inv.sh :: rs))) = sg R ++ (List.replicate run.length d ++ sg rs) := by
      rw [sg_append, sg_cons, sg_append, sg_sh hr hd, sg_cons, hxs, hxis]; simp
    obtain ⟨k, hk⟩ : ∃ k, run.length = k + 1 := by
      cases run with
      | nil => exact absurd rfl hn
      | cons l t => exact ⟨t.length, rfl⟩
    have c1 : chg (sg R ++ e :: ((!e) :: sg rs)) = 1 + chg ((!e) :: sg rs) := by
      rw [chg_all _ hu]; cases e <;> simp [chg]
    have hlen : (R ++ (x.sh :: (run.map Lt.sh ++ x.inv.sh :: rs))).length = (R ++ x.inv :: run ++ x :: rs).length := by simp
    have hw := wt_red R run rs x
    unfold mea
    dsimp only
    rw [hlen, s1, s2, c1]
    -- the weight falls where the first sign stays
    have stays : ∀ {w w' : List Lt}, w'.length = w.length → (sg w).head? = some e → (sg w').head? = some e → wt w' = wt w + 2 * x.dg * (run.length + 1) → mW w' < mW w := by
      intro w w' hl h1 h2 h3
      unfold mW
      rw [h1, h2]
      have b1 := wt_bound w
      have b2 := wt_bound w'
      rw [hl] at b2
      have hL : 0 ≤ (w.length : Int) * (w.length + 1) := Int.mul_nonneg (by omega) (by omega)
      have hxd : x.dg = if e = true then -1 else 1 := Lt.dg_up hxu
      cases e with
      | true =>
        simp only [if_true] at hxd
        rw [hxd] at h3
        dsimp only
        rw [hl]
        omega
      | false =>
        simp only [Bool.false_eq_true, if_false] at hxd
        rw [hxd] at h3
        dsimp only
        rw [hl]
        omega
    have hd1 : (sg (R ++ x.inv :: run ++ x :: rs)).head? = some e := by
      rw [s1]
      cases hR : sg R with
      | nil => rfl
      | cons y t => rw [hu y (by rw [hR]; simp)]; rfl
    by_cases hde : d = e
    · subst hde
      have hle : chg (sg R ++ (List.replicate run.length d ++ sg rs)) ≤ 1 + chg ((!d) :: sg rs) := by
        rw [← List.append_assoc]
        refine Nat.le_trans (chg_le (sg rs) (e := d) fun y hy => ?_) (chg_flip d _)
        rcases List.mem_append.mp hy with hy | hy
        · exact hu y hy
        · exact List.eq_of_mem_replicate hy
      rcases Nat.lt_or_eq_of_le hle with h | h
      · exact less_chg h
      · rw [h]
        refine less_w (stays hlen hd1 ?_ (by rw [hw, eO]))
        rw [s2, hk]
        cases hR : sg R with
        | nil => rfl
        | cons y t => rw [hu y (by rw [hR]; simp)]; rfl
    · have hde' : d = !e := bool_not hde
      subst hde'
      have hrep : chg (List.replicate run.length (!e) ++ sg rs) = chg ((!e) :: sg rs) := by
        rw [hk, List.replicate_succ', List.append_assoc]
        exact chg_all (sg rs) fun y hy => List.eq_of_mem_replicate hy
      rcases List.eq_nil_or_concat (sg R) with hR | ⟨u', z, hR⟩
      · rw [hR, List.nil_append, hrep]
        exact less_chg (by omega)
      · have hz : z = e := hu z (by rw [hR]; simp)
        subst hz
        have hne : chg (sg R ++ (List.replicate run.length (!z) ++ sg rs)) = 1 + chg ((!z) :: sg rs) := by
          rw [hR, hk, List.replicate_succ]
          have e1 : u'.concat z ++ ((!z) :: List.replicate k (!z) ++ sg rs) = u' ++ z :: ((!z) :: (List.replicate k (!z) ++ sg rs)) := by simp
          rw [e1, chg_all _ fun y hy => hu y (by rw [hR]; simp [hy])]
          rw [hk, List.replicate_succ] at hrep
          have : chg (z :: (!z) :: (List.replicate k (!z) ++ sg rs)) = 1 + chg ((!z) :: (List.replicate k (!z) ++ sg rs)) := by cases z <;> simp [chg]
          rw [this]
          rw [List.cons_append] at hrep
          rw [hrep]
        rw [hne]
        refine less_w (stays hlen hd1 ?_ (by rw [hw, eO]))
        rw [s2]
        cases hR' : sg R with
        | nil => rw [hR'] at hR; simp at hR
        | cons y t => rw [hu y (by rw [hR']; simp)]; rfl

/-- the states, by one turn -/
def Next (st' st : List Lt × List Lt) : Prop := Good st.1 ∧ Turn st.1 st.2 st'.1 st'.2
theorem next_acc (st : List Lt × List Lt) : Acc Next st := by
  have w : WellFounded (InvImage Less mea) := InvImage.wf mea less_wf
  exact Subrelation.accessible (fun h => Turn.less h.2 h.1) (w.apply st)

/-! ### What is left -/
def e2 : Pt := ⟨0, 0, 1⟩
def e1 : Pt := ⟨0, 1, 0⟩
theorem e2H : e2.H := .inl (by decide)
theorem e1H : e1.H := .inr (by decide)
theorem e2_fix (l : Lt) (h : l.isS = false) : e2.act l = e2 := by cases l <;> simp [Lt.isS] at h <;> rfl
theorem e1_fix (l : Lt) (h : l.isS = true) : e1.act l = e1 := by cases l <;> simp [Lt.isS] at h <;> rfl
/-- all crossings of the lowest kind backwards: it is moved up -/
theorem neg_up {p : Pt} (hp : p.H) (k : Bool) (hf : ∀ l : Lt, l.isS = !k → p.act l = p) (hA : ∀ l : Lt, l.isS = k → l.up = false → p.lt (p.act l)) :
    ∀ w : List Lt, (∀ l ∈ w, l.isS = k → l.up = false) → ((∀ l ∈ w, l.isS = !k) → Pt.mv w p = p) ∧ ((∃ l ∈ w, l.isS = k) → p.lt (Pt.mv w p))
  | [], _ => ⟨fun _ => rfl, fun ⟨_, h, _⟩ => nomatch h⟩
  | l :: t, h => by
    have ih := neg_up hp k hf hA t fun y hy => h y (List.mem_cons_of_mem _ hy)
    have hq := Pt.H_mv hp t
    constructor
    · intro h1
      rw [Pt.mv_cons, ih.1 fun y hy => h1 y (List.mem_cons_of_mem _ hy)]
      exact hf l (h1 l (List.mem_cons_self ..))
    · rintro ⟨y, hy, hk⟩
      rw [Pt.mv_cons]
      by_cases ht : ∃ l ∈ t, l.isS = k
      · have i2 := ih.2 ht
        by_cases hl : l.isS = k
        · exact Pt.lt_of_lt_of_le hp hq (Pt.H_act hq l) i2 (Pt.down_le hq l (h l (List.mem_cons_self ..) hl))
        · have := Pt.lt_act hp hq l i2
          rwa [hf l (by cases k <;> cases hh : l.isS <;> simp_all)] at this
      · have i1 := ih.1 fun z hz => by
          have : ¬ z.isS = k := fun e => ht ⟨z, hz, e⟩
          cases k <;> cases hh : z.isS <;> simp_all
        rw [i1]
        have hl : l.isS = k := by
          rcases List.mem_cons.mp hy with rfl | hy
          · exact hk
          · exact absurd ⟨y, hy, hk⟩ ht
        exact hA l hl (h l (List.mem_cons_self ..) hl)
theorem negS {w : List Lt} (h : ∀ l ∈ w, l.isS = true → l.up = false) (hx : ∃ l ∈ w, l.isS = true) : e2.lt (Pt.mv w e2) :=
  (neg_up e2H true (fun l hl => e2_fix l hl) (fun l hl hu => by cases l <;> simp [Lt.isS, Lt.up] at hl hu; simp [Pt.lt, e2, Pt.act]) w h).2 hx
theorem negT {w : List Lt} (h : ∀ l ∈ w, l.isS = false → l.up = false) (hx : ∃ l ∈ w, l.isS = false) : e1.lt (Pt.mv w e1) :=
  (neg_up e1H false (fun l hl => e1_fix l hl) (fun l hl hu => by cases l <;> simp [Lt.isS, Lt.up] at hl hu; simp [Pt.lt, e1, Pt.act]) w h).2 hx

def back (w : List Lt) : List Lt := (w.reverse).map Lt.inv
theorem mv_back {p : Pt} (hp : p.H) : ∀ w, Pt.mv (back w) (Pt.mv w p) = p
  | [] => rfl
  | l :: t => by
    have : back (l :: t) = back t ++ [l.inv] := by simp [back]
    rw [this, Pt.mv_append, Pt.mv_cons]
    show Pt.mv (back t) (((Pt.mv t p).act l).act l.inv) = p
    rw [Pt.act_inv (Pt.H_mv hp t), mv_back hp t]

/-- lowest crossings of the row -/
def lowest (row : List Lt) : List Lt := if row.any Lt.isS then row.filter Lt.isS else row
theorem left_up {row : List Lt} (g : Good row) (h2 : (Pt.mv row e2).le e2) (h1 : (Pt.mv row e1).le e1) : ∀ l ∈ lowest row, l.up = true := by
  unfold lowest
  split
  · rename_i hs
    obtain ⟨c, hc, hcs⟩ := List.any_eq_true.mp hs
    obtain ⟨e, he⟩ := g.one
    intro l hl
    rw [List.mem_filter] at hl
    rw [he l hl.1 hl.2]
    refine Classical.byContradiction fun hne => ?_
    have hef : e = false := by cases e <;> simp_all
    subst hef
    exact h2 (negS he ⟨c, hc, hcs⟩)
  · rename_i hs
    have hs' : ∀ l ∈ row, l.isS = false := fun l hl => by
      cases q : l.isS with
      | false => rfl
      | true => exact absurd (List.any_eq_true.mpr ⟨l, hl, q⟩) hs
    obtain ⟨d, hd⟩ := run_one (R := []) (run := row) (T := []) (by simpa using g) hs'
    intro l hl
    rw [hd l hl]
    refine Classical.byContradiction fun hne => ?_
    have hef : d = false := by cases d <;> simp_all
    subst hef
    exact h1 (negT (fun l hl _ => hd l hl) ⟨l, hl, hs' l hl⟩)
theorem left_nil {row : List Lt} (g : Good row) (h2 : Pt.mv row e2 = e2) (h1 : Pt.mv row e1 = e1) : row = [] := by
  have b2 : Pt.mv (back row) e2 = e2 := by have := mv_back e2H row; rwa [h2] at this
  have b1 : Pt.mv (back row) e1 = e1 := by have := mv_back e1H row; rwa [h1] at this
  have inB : ∀ l ∈ back row, ∃ y ∈ row, l = y.inv := fun l hl => by
    unfold back at hl
    obtain ⟨y, hy, rfl⟩ := List.mem_map.mp hl
    exact ⟨y, List.mem_reverse.mp hy, rfl⟩
  have hb : ∀ y ∈ row, y.inv ∈ back row := fun y hy => List.mem_map.mpr ⟨y, List.mem_reverse.mpr hy, rfl⟩
  have upinv : ∀ y : Lt, y.inv.up = !y.up := by intro y; cases y <;> rfl
  refine Classical.byContradiction fun hne => ?_
  by_cases hs : ∃ c ∈ row, c.isS = true
  · obtain ⟨c, hc, hcs⟩ := hs
    obtain ⟨e, he⟩ := g.one
    cases e with
    | false => exact Pt.lt_irrefl (p := e2) (by have := negS he ⟨c, hc, hcs⟩; rwa [h2] at this)
    | true =>
      refine Pt.lt_irrefl (p := e2) ?_
      have := negS (w := back row) (fun l hl hl' => by
        obtain ⟨y, hy, rfl⟩ := inB l hl
        rw [upinv, he y hy (by rwa [Lt.inv_isS] at hl')]; rfl) ⟨c.inv, hb c hc, by rw [Lt.inv_isS, hcs]⟩
      rwa [b2] at this
  · have hs' : ∀ l ∈ row, l.isS = false := fun l hl => by
      cases q : l.isS with
      | false => rfl
      | true => exact absurd ⟨l, hl, q⟩ hs
    obtain ⟨d, hd⟩ := run_one (R := []) (run := row) (T := []) (by simpa using g) hs'
    obtain ⟨c, hc⟩ := List.exists_mem_of_ne_nil row hne
    cases d with
    | false => exact Pt.lt_irrefl (p := e1) (by have := negT (w := row) (fun l hl _ => hd l hl) ⟨c, hc, hs' c hc⟩; rwa [h1] at this)
    | true =>
      refine Pt.lt_irrefl (p := e1) ?_
      have := negT (w := back row) (fun l hl _ => by
        obtain ⟨y, hy, rfl⟩ := inB l hl
        rw [upinv, hd y hy]; rfl) ⟨c.inv, hb c hc, by rw [Lt.inv_isS, hs' c hc]⟩
      rwa [b1] at this

/-- the law's three askings of what is left -/
structure Left (braid row : List Lt) : Prop where
  good : Good row
  sq : ∀ s : Sq, s.run row = s.run braid
  mv : ∀ {p : Pt}, p.H → Pt.mv row p = Pt.mv braid p
theorem Left.nil {braid row : List Lt} {k : Nat} (h : Left braid row) (i : Ins braid k) (h0 : k = 0) : row = [] :=
  left_nil h.good (by rw [h.mv e2H, i.same h0 e2H]) (by rw [h.mv e1H, i.same h0 e1H])
theorem Left.up {braid row : List Lt} {k : Nat} (h : Left braid row) (i : Ins braid k) : ∀ l ∈ lowest row, l.up = true :=
  left_up h.good (by rw [h.mv e2H]; exact i.le e2H) (by rw [h.mv e1H]; exact i.le e1H)
end Mine
end
section
open PySem PySem.W PyProof.Rows PySem.Calls
namespace Mine
abbrev PG : Program := PySem.Challenge.rw_to0043_01.row.toRowW.prog
noncomputable abbrev KF (w : World) : Frag := Mine.hp w.params
/-- what a call of the def at f with these arguments does, from a ledger pre (and others that it leaves alone); D bounds the depth -/
def Con (w : World) (D : Nat) (f : Addr) (args : List Value) (pre : List (Addr × Obj)) (post : Value → List (Addr × Obj) → Prop) : Prop :=
  ∀ (p : Program) (loose : List Str) (mean : ExcName → Option Value) (mg mb : Str → Option Value) (dp un : Nat) (gd : Option (List Code)) (cn : Str) (cs : Scope) (a : Addr) (ccd : Value) (cl : List (Str × Addr)) (outer : List Env) (A₀ : Around) (base h₀ : Heap) (L : Addr) (m : Str → Option Value) (oth : List (Addr × Obj)) (s : Shared) (Q E : Value → Shared → Prop),
    Below A₀ base outer h₀ → Fr h₀ L s.heap m → (KF w).In h₀ → News h₀ L s.heap (pre ++ oth) → OwnOff oth (pre.map (·.1)) → Top p loose mean mg mb h₀ → CodeHd base 107 103 → cs.kind = .function → dp ≤ D → un ≤ D →
    (∀ r h' tk' nx, Fr h₀ L h' m → News h₀ L h' (nx ++ oth) → post r nx → Q r { s with heap := h', toks := tk' }) →
    codeAny (model PG w) (ktrTop dp un gd cn cs L a ccd cl outer) (.call (.ref f) ⟨args, []⟩) (fun r s' => match r with | .ok (.ret v) => Q v s' | .ok _ => False | .error e => E e s') s

/-- what is left of a ledger behind the entries at adr -/
inductive Rest (adr : List Nat) : List (Addr × Obj) → List (Addr × Obj) → Prop
  | nil : Rest adr [] []
  | drop {p l r} : p.1 ∈ adr → Rest adr l r → Rest adr (p :: l) r
  | keep {p l r} : (∀ b : Nat, b ∈ adr → @Ne Nat p.1 b) → Rest adr l r → Rest adr (p :: l) (p :: r)
  | own {l} : OwnOff l adr → Rest adr l l
theorem Rest.sub {adr : List Nat} {l r : List (Addr × Obj)} (h : Rest adr l r) : (∀ p ∈ r, p ∈ l) ∧ OwnOff r adr := by
  induction h with
  | nil => exact ⟨fun _ h => h, fun _ h => nomatch h⟩
  | drop _ _ ih => exact ⟨fun p hp => .tail _ (ih.1 p hp), ih.2⟩
  | keep hk _ ih =>
    refine ⟨fun p hp => ?_, fun p hp b hb => ?_⟩
    · rcases List.mem_cons.mp hp with rfl | hp
      · exact .head _
      · exact .tail _ (ih.1 p hp)
    · rcases List.mem_cons.mp hp with rfl | hp
      · exact hk b hb
      · exact ih.2 p hp b hb
  | own h => exact ⟨fun _ h => h, h⟩

theorem use_code {w : World} {D : Nat} {f : Addr} {args : List Value} {adr : List Nat} {pre news rest : List (Addr × Obj)} {post : Value → List (Addr × Obj) → Prop} (C : Con w D f args pre post)
    {p : Program} {loose : List Str} {mean : ExcName → Option Value} {mg mb : Str → Option Value} {dp un : Nat} {gd : Option (List Code)} {cn : Str} {cs : Scope} {a : Addr} {ccd : Value} {cl : List (Str × Addr)} {outer : List Env} {A₀ : Around} {base h₀ : Heap} {L : Addr} {m : Str → Option Value} {s : Shared} {Q E : Value → Shared → Prop}
    (B : Below A₀ base outer h₀) (F : Fr h₀ L s.heap m) (X : (KF w).In h₀) (N : News h₀ L s.heap news) (hin : ∀ q ∈ pre, q ∈ news) (he : pre.map (·.1) = adr) (R : Rest adr news rest) (T : Top p loose mean mg mb h₀) (H : CodeHd base 107 103) (hk : cs.kind = .function) (hd : dp ≤ D) (hu : un ≤ D)
    (ret : ∀ r h' tk' nx, Fr h₀ L h' m → News h₀ L h' (nx ++ rest) → post r nx → Q r { s with heap := h', toks := tk' }) :
    codeAny (model PG w) (ktrTop dp un gd cn cs L a ccd cl outer) (.call (.ref f) ⟨args, []⟩) (fun r s' => match r with | .ok (.ret v) => Q v s' | .ok _ => False | .error e => E e s') s :=
  C p loose mean mg mb dp un gd cn cs a ccd cl outer A₀ base h₀ L m rest s Q E B F X (fun q hq => N q ((List.mem_append.mp hq).elim (hin q) (R.sub.1 q))) (he ▸ R.sub.2) T H hk hd hu ret
theorem use_con {w : World} {D : Nat} {f : Addr} {args : List Value} {adr : List Nat} {pre news rest : List (Addr × Obj)} {post : Value → List (Addr × Obj) → Prop} (C : Con w D f args pre post)
    {p : Program} {loose : List Str} {mean : ExcName → Option Value} {mg mb : Str → Option Value} {dp un : Nat} {gd : Option (List Code)} {cn : Str} {cs : Scope} {a : Addr} {ccd : Value} {cl : List (Str × Addr)} {outer : List Env} {A₀ : Around} {base h₀ : Heap} {L : Addr} {m : Str → Option Value} {s : Shared} {Q E : Value → Shared → Prop}
    (B : Below A₀ base outer h₀) (F : Fr h₀ L s.heap m) (X : (KF w).In h₀) (N : News h₀ L s.heap news) (hin : ∀ q ∈ pre, q ∈ news) (he : pre.map (·.1) = adr) (R : Rest adr news rest) (T : Top p loose mean mg mb h₀) (H : CodeHd base 107 103) (hk : cs.kind = .function) (hd : dp ≤ D) (hu : un ≤ D)
    (ret : ∀ r h' tk' nx, Fr h₀ L h' m → News h₀ L h' (nx ++ rest) → post r nx → Q r { s with heap := h', toks := tk' }) :
    wpAny (model PG w) (ktrTop dp un gd cn cs L a ccd cl outer) (call (.ref f) args) Q E s :=
  wpAny_call (use_code C B F X N hin he R T H hk hd hu ret)
end Mine
end
section
/-! rules of my own, in the kit's form -/
open PySem PySem.W PyProof.Rows PySem.Calls
namespace Mine
section
variable {prog : Program} {w : World} {A : Around} {E : Value → Shared → Prop} {s : Shared} {h₀ : Heap} {L : Addr} {m : Str → Option Value} {news : List (Addr × Obj)}

theorem strsOfCarried : ∀ {vs : List Value} {xs : List Str}, CarriedAll vs (xs.map PyData.str) → StrsAre vs xs
  | _, [], h => by cases h; exact .nil
  | _, x :: r, h => by
    cases h with
    | cons a b => cases a; exact .cons _ _ (strsOfCarried b)

/-- list(text) -/
theorem list_text {x : Str} {t : Tok} {Q : Value → Shared → Prop} (hh : A.handled = none) (F : Fr h₀ L s.heap m) (N : News h₀ L s.heap news) (hx : x.length ≤ 4096)
    (h : ∀ D (ys : List Value) n h' tk, Fr h₀ L h' m → News h₀ L h' ((D, listOf ys.toArray n) :: news) → (∀ p ∈ news, p.1 < D) → StrsAre ys (signs x) → Q (.ref D) { s with heap := h', toks := tk }) :
    wpAny (model prog w) A (call (.type "list") [.str x t]) Q E s := by
  refine list_strD hh F N (fun h' tk ys F' N' _ hn hl hp hc => ?_) (by rw [sizeLine_eq]; omega)
  obtain ⟨⟨n, e⟩, _⟩ := hp
  refine h _ ys n h' tk F' (fun p hp' => ?_) (fun p hp' => Heap.lt_size (N p hp').1) (strsOfCarried hc)
  rcases List.mem_cons.mp hp' with rfl | hp'
  · refine ⟨e, fun q => ?_, hn⟩
    have := F.ns.lt
    rw [← q] at this
    exact absurd this (Nat.lt_irrefl _)
  · exact N' p hp'

theorem off_lt {d b : Addr} : ∀ {l : List (Addr × Obj)}, AllLt d l → d ≤ b → ∀ p ∈ l, p.1 ≠ b
  | [], _, _, _, hp => nomatch hp
  | q :: r, h, hb, p, hp => by
    rcases List.mem_cons.mp hp with rfl | hp
    · exact Nat.ne_of_lt (Nat.lt_of_lt_of_le h.1 hb)
    · exact off_lt h.2 hb p hp
theorem off_lt0 {b : Addr} {l : List (Addr × Obj)} (h : AllLt b l) : ∀ p ∈ l, p.1 ≠ b := off_lt h (Nat.le_refl _)
/-- the truth of a list of the ledger -/
theorem truthy_led {l : Addr} {vs : List Value} {n : Nat} {b : Bool} {Q : Bool → Shared → Prop} (N : News h₀ L s.heap news) (hm : (l, listOf vs.toArray n) ∈ news) (hz : vs.length ≤ 1048576) (hb : (!vs.isEmpty) = b)
    (h : ∀ tk, Q b { s with toks := tk }) : wpAny (model prog w) A (truthy (.ref l)) Q E s := by
  subst hb
  have hl : s.heap.IsList l vs.toArray := ⟨_, (N _ hm).1, rfl, n, rfl⟩
  exact wpAny_truthy_list hl (by rw [List.size_toArray]; omega) (by simpa using h _)
theorem some_app (us : List Value) (y : Value) : (!(us ++ [y]).isEmpty) = true := by simp
theorem own_sub {l : List (Addr × Obj)} {adr adr' : List Addr} (O : OwnOff l adr) (h : ∀ b ∈ adr', b ∈ adr) : OwnOff l adr' := fun p hp b hb => O p hp b (h b hb)
/-- the others of a contract's ledger lie under the frame -/
def OffBase (B : Addr) (l : List (Addr × Obj)) : Prop := ∀ p ∈ l, p.1 < B
theorem OffBase.ne {B b : Nat} {l : List (Addr × Obj)} (h : OffBase B l) (hb : B ≤ b) : ∀ p ∈ l, p.1 ≠ b := fun p hp => Nat.ne_of_lt (Nat.lt_of_lt_of_le (h p hp) hb)
theorem OffBase.of {B : Addr} {oth l : List (Addr × Obj)} {adr : List Addr} (_ : OwnOff oth adr) (hs : ∀ p ∈ oth, p ∈ l) (h : ∀ p ∈ l, p.1 < B) : OffBase B oth := fun p hp => h p (hs p hp)
end
section
variable {prog : Program} {w : World} {A A₀ : Around} {s : Shared} {K : Frag} {L : Addr} {h₀ base : Heap} {m mg mb : Str → Option Value} {news : List (Addr × Obj)} {p : Program} {loose : List Str} {mean : ExcName → Option Value}
/-- a def without cells is entered; the frame lies above the ledger -/
theorem enter_def {env : Env} {outer : List Env} {R : Result → Shared → Prop} {name qual : Str} {params : Arguments} {body : List Stmt} {scope : Scope} {dV kV doc pm cdv ct oc : Value} {an od : Option Addr} {osl : Array (Option Value)} {f : Addr} {args : Args} {binds : List (Str × Value)}
    (B : Below A₀ base outer h₀) (F : Fr h₀ L s.heap m) (X₀ : K.In h₀) (N : News h₀ L s.heap news) (T : Top p loose mean mg mb h₀) (hA : A.frames = some (env :: outer)) (hf : env.frame = some L) (hke : env.scope.kind = .function)
    (ho : K.lookup f = some ⟨oc, od, .func (fnOf name qual params body scope dV kV doc pm an cdv ct), osl⟩) (hcd : codeIn K cdv qual = true) (hroom : A.depth < recursionLimit)
    (hbind : BindsTo s (fnOf name qual params body scope dV kV doc pm an cdv ct) args binds) (hloc : ∀ y ∈ binds, scope.names.lookup y.1 = some .local)
    (h : ∀ g L' h₁, Fr h₀ L g m → Fr g L' h₁ (fun y => binds.reverse.lookup y) → News g L' h₁ news → Below A base (env :: outer) g → K.In g → Top p loose mean mg mb g → (∀ q ∈ news, q.1 < L') →
      wpAny (model prog w) (A.deeper (envOf qual scope L' f cdv)) (execs body (envOf qual scope L' f cdv))
        (fun fl s' => LeaveK h₀ L m g R (match fl with | .ret v => v | _ => .none) s')
        (fun e s' => wpAny (model prog w) (A.deeper (envOf qual scope L' f cdv)) (leaving (envOf qual scope L' f cdv) e) (fun _ s'' => R (.error e) s'') (fun e' s'' => R (.error e') s'') s')
        { s with heap := h₁, toks := s.toks + binds.length })
    (hco : scope.isCoroutine = false) (hgen : scope.isGenerator = false) (hk : scope.kind = .function)
    (hcell : ∀ x ∈ scope.names, x.2 ≠ .cell) : codeAny (model prog w) A (.call (.ref f) args) R s :=
  callX_plain (cl := []) B F N T.nolimit hA hf hke ((X₀.keeps F.keep) _ _ ho) rfl (codeRec_of (X₀.keeps F.keep) hcd) hroom hbind hloc
    (fun g L' h₁ FG F' N' B' st l => h g L' h₁ FG F' N' B' (X₀.keeps st) (T.keeps st) l) hcell hco hgen hk
end

abbrev fnObj (fd : FuncData) : Obj := { cls := .type "function", data := .func fd }
/-- a reader made by the text: it gives the last sign of the list in the cell C and takes it off; the empty text where there is none -/
def IsPiece (w : World) (fd : FuncData) (cc : Nat) (oc : Obj) (C : Nat) : Prop :=
  ∀ (f sg : Nat) (co : Obj) (vs : List Value) (n : Nat) (tk : Tok), co.data = .cell (some (.ref sg)) → vs.length ≤ 4096 → sg ≠ f → sg ≠ cc → sg ≠ C →
    Con w 400 f [.int 1 tk] [(sg, listOf vs.toArray n), (f, fnObj fd), (cc, oc), (C, co)]
      (fun r nx => (vs = [] ∧ (∃ t, r = .str (PySem.Str.ofString "") t) ∧ nx = [(sg, listOf vs.toArray n), (f, fnObj fd), (cc, oc), (C, co)]) ∨
        (∃ us y, vs = us ++ [y] ∧ r = y ∧ nx = [(sg, listOf us.toArray (n + 1)), (f, fnObj fd), (cc, oc), (C, co)]))
set_option genInjectivity false in
set_option genSizeOf false in
/-- the line and its stream, as the ledger bears them -/
structure Lex where
  ln : Nat
  ld : Nat
  pb : Nat
  st : Nat
  sd : Nat
  f : Nat
  cc : Nat
  C : Nat
  sg : Nat
  fd : FuncData
  oc : Obj
  co : Obj
  h1 : Int
  h2 : Int
  h3 : Int
  h4 : Int
  k1 : Tok
  k2 : Tok
  k3 : Tok
  k4 : Tok
  t1 : Tok
  t3 : Tok
  r1 : Int
  r2 : Int
  r3 : Int
  r4 : Int
  r5 : Int
  j1 : Tok
  j2 : Tok
  j3 : Tok
  j4 : Tok
  j5 : Tok
  v1 : Value
  v2 : Value
  v3 : Value
  v4 : Value
  lno : Int
  pbv : List Value
  pbn : Nat
  sgv : List Value
  sgn : Nat
abbrev Lex.ldE (S : Lex) (lno : Int) (t1 : Tok) : List DictEntry := [⟨S.h1, .str (PySem.Str.ofString "lineno") S.k1, .int lno t1⟩, ⟨S.h2, .str (PySem.Str.ofString "instream") S.k2, .ref S.st⟩, ⟨S.h3, .str (PySem.Str.ofString "whitespace") S.k3, .str (PySem.Str.ofString "\n\t\x0d ") S.t3⟩, ⟨S.h4, .str (PySem.Str.ofString "pushback") S.k4, .ref S.pb⟩]
abbrev Lex.sdE (S : Lex) : List DictEntry := [⟨S.r1, .str (PySem.Str.ofString "lineno") S.j1, S.v1⟩, ⟨S.r2, .str (PySem.Str.ofString "instream") S.j2, S.v2⟩, ⟨S.r3, .str (PySem.Str.ofString "whitespace") S.j3, S.v3⟩, ⟨S.r4, .str (PySem.Str.ofString "pushback") S.j4, S.v4⟩, ⟨S.r5, .str (PySem.Str.ofString "read") S.j5, .ref S.f⟩]
abbrev Lex.led (S : Lex) : List (Addr × Obj) :=
  [(S.pb, listOf S.pbv.toArray S.pbn), (S.ln, instObj 52 S.ld), (S.ld, dictOf (S.ldE S.lno S.t1) 4), (S.f, fnObj S.fd), (S.cc, S.oc), (S.st, instObj 52 S.sd), (S.sd, dictOf S.sdE 5), (S.sg, listOf S.sgv.toArray S.sgn), (S.C, S.co)]
structure Lex.Ok (w : World) (S : Lex) : Prop where
  piece : IsPiece w S.fd S.cc S.oc S.C
  cell : S.co.data = .cell (some (.ref S.sg))
  nd : S.C < S.sg ∧ S.sg < S.sd ∧ S.sd < S.st ∧ S.st < S.cc ∧ S.cc < S.f ∧ S.f < S.ld ∧ S.ld < S.ln ∧ S.ln < S.pb

end Mine
end
section
/-! a contract that tells how the new addresses stand to what was left alone -/
open PySem PySem.W PyProof.Rows PySem.Calls
namespace Mine
def ConF (w : World) (D : Nat) (f : Addr) (args : List Value) (pre : List (Addr × Obj)) (post : Value → List (Addr × Obj) → Nat → Prop) : Prop :=
  ∀ (p : Program) (loose : List Str) (mean : ExcName → Option Value) (mg mb : Str → Option Value) (dp un : Nat) (gd : Option (List Code)) (cn : Str) (cs : Scope) (a : Addr) (ccd : Value) (cl : List (Str × Addr)) (outer : List Env) (A₀ : Around) (base h₀ : Heap) (L : Addr) (m : Str → Option Value) (oth : List (Addr × Obj)) (s : Shared) (Q E : Value → Shared → Prop),
    Below A₀ base outer h₀ → Fr h₀ L s.heap m → (KF w).In h₀ → News h₀ L s.heap (pre ++ oth) → OwnOff oth (pre.map (·.1)) → Top p loose mean mg mb h₀ → CodeHd base 107 103 → cs.kind = .function → dp ≤ D → un ≤ D →
    (∀ r h' tk' nx b, Fr h₀ L h' m → News h₀ L h' (nx ++ oth) → OffBase b oth → post r nx b → Q r { s with heap := h', toks := tk' }) →
    codeAny (model PG w) (ktrTop dp un gd cn cs L a ccd cl outer) (.call (.ref f) ⟨args, []⟩) (fun r s' => match r with | .ok (.ret v) => Q v s' | .ok _ => False | .error e => E e s') s
theorem use_conF {w : World} {D : Nat} {f : Addr} {args : List Value} {adr : List Nat} {pre news rest : List (Addr × Obj)} {post : Value → List (Addr × Obj) → Nat → Prop} (C : ConF w D f args pre post)
    {p : Program} {loose : List Str} {mean : ExcName → Option Value} {mg mb : Str → Option Value} {dp un : Nat} {gd : Option (List Code)} {cn : Str} {cs : Scope} {a : Addr} {ccd : Value} {cl : List (Str × Addr)} {outer : List Env} {A₀ : Around} {base h₀ : Heap} {L : Addr} {m : Str → Option Value} {s : Shared} {Q E : Value → Shared → Prop}
    (B : Below A₀ base outer h₀) (F : Fr h₀ L s.heap m) (X : (KF w).In h₀) (N : News h₀ L s.heap news) (hin : ∀ q ∈ pre, q ∈ news) (he : pre.map (·.1) = adr) (R : Rest adr news rest) (T : Top p loose mean mg mb h₀) (H : CodeHd base 107 103) (hk : cs.kind = .function) (hd : dp ≤ D) (hu : un ≤ D)
    (ret : ∀ r h' tk' nx b, Fr h₀ L h' m → News h₀ L h' (nx ++ rest) → OffBase b rest → post r nx b → Q r { s with heap := h', toks := tk' }) :
    wpAny (model PG w) (ktrTop dp un gd cn cs L a ccd cl outer) (call (.ref f) args) Q E s :=
  wpAny_call (C p loose mean mg mb dp un gd cn cs a ccd cl outer A₀ base h₀ L m rest s Q E B F X (fun q hq => N q ((List.mem_append.mp hq).elim (hin q) (R.sub.1 q))) (he ▸ R.sub.2) T H hk hd hu ret)
theorem ne_one {a b : Nat} (h : @Ne Nat a b) : ∀ c : Nat, c ∈ [b] → @Ne Nat a c := fun c hc => (List.mem_singleton.mp hc) ▸ h
theorem all_p {α : Type} {P : α → Prop} {a : α} {l : List α} (h : P a) (r : ∀ p ∈ l, P p) : ∀ p ∈ a :: l, P p := fun p hp => (List.mem_cons.mp hp).elim (fun e => e ▸ h) (r p)
theorem all_cons {α : Type} {p : α} {l news : List α} (m : p ∈ news) (h : ∀ q ∈ l, q ∈ news) : ∀ q ∈ p :: l, q ∈ news := fun q hq => (List.mem_cons.mp hq).elim (fun e => e ▸ m) (h q)
theorem q0 {X R : Prop} (h : X ∧ R) : X := h.1
theorem z1 {A0 X : Prop} (h : A0 ∧ X) : X := h.2
theorem z2 {A0 A1 X : Prop} (h : A0 ∧ A1 ∧ X) : X := h.2.2
theorem z3 {A0 A1 A2 X : Prop} (h : A0 ∧ A1 ∧ A2 ∧ X) : X := h.2.2.2
theorem z4 {A0 A1 A2 A3 X : Prop} (h : A0 ∧ A1 ∧ A2 ∧ A3 ∧ X) : X := h.2.2.2.2
theorem z5 {A0 A1 A2 A3 A4 X : Prop} (h : A0 ∧ A1 ∧ A2 ∧ A3 ∧ A4 ∧ X) : X := h.2.2.2.2.2
theorem z10 {A0 A1 A2 A3 A4 A5 A6 A7 A8 A9 X : Prop} (h : A0 ∧ A1 ∧ A2 ∧ A3 ∧ A4 ∧ A5 ∧ A6 ∧ A7 ∧ A8 ∧ A9 ∧ X) : X := h.2.2.2.2.2.2.2.2.2.2
theorem z15 {A0 A1 A2 A3 A4 A5 A6 A7 A8 A9 A10 A11 A12 A13 A14 X : Prop} (h : A0 ∧ A1 ∧ A2 ∧ A3 ∧ A4 ∧ A5 ∧ A6 ∧ A7 ∧ A8 ∧ A9 ∧ A10 ∧ A11 ∧ A12 ∧ A13 ∧ A14 ∧ X) : X := h.2.2.2.2.2.2.2.2.2.2.2.2.2.2.2
theorem z20 {A0 A1 A2 A3 A4 A5 A6 A7 A8 A9 A10 A11 A12 A13 A14 A15 A16 A17 A18 A19 X : Prop} (h : A0 ∧ A1 ∧ A2 ∧ A3 ∧ A4 ∧ A5 ∧ A6 ∧ A7 ∧ A8 ∧ A9 ∧ A10 ∧ A11 ∧ A12 ∧ A13 ∧ A14 ∧ A15 ∧ A16 ∧ A17 ∧ A18 ∧ A19 ∧ X) : X := h.2.2.2.2.2.2.2.2.2.2.2.2.2.2.2.2.2.2.2.2
theorem zc {A X : Prop} (h : A ∧ X) : X := h.2
theorem OffBase.mono {b c : Nat} {l : List (Addr × Obj)} (h : OffBase b l) (hb : b ≤ c) : OffBase c l := fun p hp => Nat.lt_of_lt_of_le (h p hp) hb
theorem lex_end' {w : World} {h₀ h : Heap} {L : Addr} {news : List (Addr × Obj)} {ln ld pb st sd f cc C sg : Nat} {fd : FuncData} {oc co : Obj} {h1 h2 h3 h4 r1 r2 r3 r4 r5 : Int} {k1 k2 k3 k4 t1 t3 j1 j2 j3 j4 j5 : Tok} {v1 v2 v3 v4 : Value} {sgv : List Value} {n pbn : Nat}
    {cs : Array Value} (N : News h₀ L h news) (_hcd : oc.data = .fields cs) (hcell : co.data = .cell (some (.ref sg))) (mC : (C, co) ∈ news) (mln : (ln, instObj 52 ld) ∈ news)
    (mld : (ld, dictOf [⟨h1, .str (PySem.Str.ofString "lineno") k1, .int 1 t1⟩, ⟨h2, .str (PySem.Str.ofString "instream") k2, .ref st⟩, ⟨h3, .str (PySem.Str.ofString "whitespace") k3, .str (PySem.Str.ofString "\n\t\x0d ") t3⟩, ⟨h4, .str (PySem.Str.ofString "pushback") k4, .ref pb⟩] 4) ∈ news)
    (mpb : (pb, listOf #[] pbn) ∈ news) (mst : (st, instObj 52 sd) ∈ news)
    (msd : (sd, dictOf [⟨r1, .str (PySem.Str.ofString "lineno") j1, v1⟩, ⟨r2, .str (PySem.Str.ofString "instream") j2, v2⟩, ⟨r3, .str (PySem.Str.ofString "whitespace") j3, v3⟩, ⟨r4, .str (PySem.Str.ofString "pushback") j4, v4⟩, ⟨r5, .str (PySem.Str.ofString "read") j5, .ref f⟩] 5) ∈ news)
    (mf : (f, fnObj fd) ∈ news) (mcc : (cc, oc) ∈ news) (msg : (sg, listOf sgv.toArray n) ∈ news) (hP : IsPiece w fd cc oc C)
    (nd : C < sg ∧ sg < sd ∧ sd < st ∧ st < cc ∧ cc < f ∧ f < ld ∧ ld < ln ∧ ln < pb) :
    ∃ S : Lex, News h₀ L h S.led ∧ S.Ok w ∧ S.ln = ln ∧ S.pbv = [] ∧ S.sgv = sgv ∧ S.lno = 1 ∧ S.C = C := by
  refine ⟨⟨ln, ld, pb, st, sd, f, cc, C, sg, fd, oc, co, h1, h2, h3, h4, k1, k2, k3, k4, t1, t3, r1, r2, r3, r4, r5, j1, j2, j3, j4, j5, v1, v2, v3, v4, 1, [], pbn, sgv, n⟩, ?_, ⟨hP, hcell, nd⟩, rfl, rfl, rfl, rfl, rfl⟩
  intro p hp
  simp only [Lex.led, List.mem_cons, List.not_mem_nil, or_false] at hp
  rcases hp with rfl | rfl | rfl | rfl | rfl | rfl | rfl | rfl | rfl
  · exact N _ mpb
  · exact N _ mln
  · exact N _ mld
  · exact N _ mf
  · exact N _ mcc
  · exact N _ mst
  · exact N _ msd
  · exact N _ msg
  · exact N _ mC
end Mine
end
namespace Mine
section
open PySem PySem.W PyProof.Rows PySem.Calls
local macro_rules | `(tactic| k_room) => `(tactic| ((try simp only [depth_under_make, depth_under_kw, depth_in1, depth_deeper, depth_caller]); simp only [recursionLimit]; omega))
local macro_rules | `(tactic| k_all) => `(tactic| first | exact OwnOff.ne (by with_reducible assumption) (by k_memK) | ((repeat ((with_reducible rename _ ∧ _ => hq9); obtain ⟨_, _⟩ := hq9)); exact off_lt0 (by with_reducible assumption)) | exact OffBase.ne (by with_reducible assumption) (by (try dsimp only); omega) | exact List.forall_mem_append.mpr ⟨by k_all, by k_all⟩)
local macro_rules | `(tactic| k_enter) => `(tactic| ((first | (refine' enter_def ?k1 ?k2 ?k3 ?k4 ?k5 ?kA ?kF ?kK ?k6 ?k7 ?k8 ?k9 ?kB ?_ ?c2 ?c3 ?c4 ?c5; (case kA => exact rfl); (case kF => exact rfl); (case kK => first | exact rfl | assumption); (case k1 => k_asm); (case k2 => k_asm); (case k3 => k_asm); (case k4 => k_asm); (case k5 => k_asm); (case k6 => k_is); (case k7 => k_is); (case k8 => k_room); (case k9 => first | exact BindsTo.of_eq rfl | exact binds_K (by k_in) rfl (by k_is) rfl rfl rfl); (case c5 => decide); (case kB => exact locs rfl); (case c2 => exact rfl); (case c3 => exact rfl); (case c4 => exact rfl); k_whole; intro g' L' h' FG' F' N' B' X' T' l1) | (refine' code_defC ?k1 ?k2 ?k3 ?k4 ?k5 ?kA ?kF ?kK ?k6 ?k7 ?k8 ?k9 ?kB ?kD ?_ ?c2 ?c3 ?c4; (case kA => exact rfl); (case kF => exact rfl); (case kK => first | exact rfl | assumption); (case k1 => k_asm); (case k2 => k_asm); (case k3 => k_asm); (case k4 => k_asm); (case k5 => k_asm); (case k6 => k_is); (case k7 => k_is); (case k8 => k_room); (case k9 => first | exact BindsTo.of_eq rfl | exact binds_K (by k_in) rfl (by k_is) rfl rfl rfl); (case kB => exact rfl); (case kD => decide +kernel); (case c2 => exact rfl); (case c3 => exact rfl); (case c4 => exact rfl); k_whole; intro g' L' h' tk' cells' FG' F' N' Y' B' X' T' l1; k_cells Y'; (try simp only [List.cons_append, List.nil_append] at N'))); (first | (with_reducible rename OffBase _ _ => hOB9) | (with_reducible rename OwnOff _ _ => hO9; have hOB9 := OffBase.of hO9 (by (intro p hp; repeat (first | exact hp | apply List.mem_cons_of_mem))) l1) | skip); (try k_lt l1); (try dsimp only); (try k_fold)))
local macro_rules | `(tactic| kn_enter) => `(tactic| (refine' code_nest ?k1 ?k2 ?k3 ?k4 ?k5 ?kA ?kF ?kK ?k6 ?k7 ?k8 ?k9 ?kB ?_ ?c2 ?c3 ?c4 ?c5; (case kA => exact rfl); (case kF => exact rfl); (case kK => first | assumption | exact rfl); (case k1 => k_asm); (case k2 => k_asm); (case k3 => k_asm); (case k4 => k_asm); (case k5 => k_asm); (case k6 => k_mem); (case k7 => exact codeRec_news (by k_asm) (by k_mem) (by assumption) (by assumption)); (case k8 => k_room); (case k9 => exact BindsTo.of_eq rfl); (case c5 => decide); (case kB => exact locs rfl); (case c2 => exact rfl); (case c3 => exact rfl); (case c4 => exact rfl); k_whole; intro g' L' h' FG' F' N' B' X' T'; (try dsimp only); (try k_fold)))
local macro_rules | `(tactic| k_allIn) => `(tactic| first | exact List.forall_mem_nil _ | (refine all_cons ?q1 ?q2; (case q1 => first | k_memK | k_dflt k_mem); (case q2 => k_allIn)))
local macro_rules | `(tactic| k_ownIn) => `(tactic| first | exact Rest.nil | (refine' Rest.drop ?q1 ?q2; (case q1 => k_memK); (case q2 => k_ownIn)) | (refine' Rest.keep ?q1 ?q2; (case q1 => (intro b hb; simp only [List.mem_cons, List.not_mem_nil, or_false] at hb; refine neN ?_; (try dsimp only); omega)); (case q2 => k_ownIn)) | exact Rest.own (own_sub (by with_reducible assumption) (by k_allIn)))
local macro_rules | `(tactic| walk_at "exec Assign") => `(tactic| k_fold)
local macro_rules | `(tactic| walk_at "eval Call") => `(tactic| k_fold)
local macro_rules | `(tactic| walk_at "eval Compare") => `(tactic| k_fold)
local macro_rules | `(tactic| walk_at "eval BinOp") => `(tactic| k_fold)
local macro_rules | `(tactic| walk_at "eval Subscript") => `(tactic| k_fold)
local macro_rules | `(tactic| walk_at "exec If") => `(tactic| k_fold)
local macro_rules | `(tactic| walk_at "exec Return some") => `(tactic| k_fold)
local macro_rules | `(tactic| walk_at "isTrue Compare") => `(tactic| k_fold)
local macro_rules | `(tactic| walk_at "execs cons") => `(tactic| k_fold)
local macro_rules | `(tactic| walk_at "exec AugAssign") => `(tactic| k_fold)
local macro_rules | `(tactic| walk_at "exec For") => `(tactic| k_fold)
local macro_rules | `(tactic| walk_at "exec While") => `(tactic| k_fold)
local macro_rules | `(tactic| walk_at "pk4") => `(tactic| first | with_reducible assumption | exact z1 (by with_reducible assumption) | exact z2 (by with_reducible assumption) | exact z3 (by with_reducible assumption) | exact z4 (by with_reducible assumption))
local macro_rules | `(tactic| walk_at "pks") => `(tactic| first | walk_at "pk4" | (apply z5; walk_at "pk4") | (apply z10; walk_at "pk4") | (apply z15; walk_at "pk4") | (apply z20; walk_at "pk4"))
local macro_rules | `(tactic| walk_at "pick") => `(tactic| first | walk_at "pks" | (apply q0; walk_at "pks"))
local macro_rules | `(tactic| k_ownIn) => `(tactic| first | ((with_reducible show Rest [_] (_ :: _) _); first | (refine' Rest.drop ?q1 ?q2; (case q1 => k_memK); (case q2 => k_ownIn)) | (refine' Rest.keep (ne_one ?q1) ?q2; (case q1 => k_ne); (case q2 => k_ownIn)) | fail) | fail)
section
open PySem PySem.W PyProof.Rows PySem.Calls
/-- the reader's def, where the text has it -/
def pieceStmt : Option Stmt := match (PySem.Challenge.pw_to0043_01.main.body.drop 59 : List Stmt) with
  | Stmt.FunctionDef _ _ b _ _ _ _ _ _ _ :: _ => (b.drop 2).head?
  | _ => none
local macro_rules | `(tactic| walk_at "truthy ref") => `(tactic| (k_here; (with_reducible show wpAny _ _ (truthy (Value.ref _)) _ _ _); k_dflt (refine' truthy_led ?N ?m ?z ?b ?_; (case N => k_asm); (case m => k_mem); (case b => first | exact some_app _ _ | exact rfl); (case z => (simp only [List.length_append, List.length_cons, List.length_nil] at *; omega))); intro tk'))
local macro_rules | `(tactic| walk_at "call builtin:list.pop") => `(tactic| (k_here; (with_reducible show wpAny _ _ (call (Value.builtin _) [Value.ref _]) _ _ _); k_dflt (refine' kl_pop (its := List.toArray _) ?F ?N (kpa_last _ _) ?U ?z ?_; (case F => k_asm); (case N => k_asm); (case U => k_upd); (case z => (simp only [List.length_append, List.length_cons, List.length_nil, sizeLine_eq] at *; omega))); intro h' F' N'; (try k_sweep)))
set_option maxHeartbeats 4000000 in
theorem piece_lit (w : World) : ∃ (nm : PySem.Str) (ps : Arguments) (bd : List Stmt) (sc : Scope) (ds : List Expr) (rt : Option Expr) (tp : List TypeParam) (ts : Option Scope) (bn : PySem.Str) (po : Pos),
    pieceStmt = some (.FunctionDef nm ps bd ds rt tp sc ts bn po) ∧
    ∀ (q : PySem.Str) (C cc : Nat) (doc pm ct : Value) (oc : Obj) (cs : Array Value) (t : Tok), oc.data = .fields cs → cs[1]? = some (.str q t) → IsPiece w (fnX nm q ps bd sc [(PySem.Str.ofString "signs", C)] .none .none doc pm none (.ref cc) ct) cc oc C := by
  refine ⟨_, _, _, _, _, _, _, _, _, _, by with_unfolding_all rfl, ?_⟩
  intro q C cc doc pm ct oc cs t hoc hcs
  unfold IsPiece Con KF PG
  k_fill
  intro f sg co vs n tk hco hlen hn1 hn2 hn3 p loose mean mg mb dp un gd cn csc a ccd cl outer A₀ base h₀ L m oth s Q E B F X N O T CH hk hdp hun hret
  simp only [List.cons_append, List.nil_append] at N
  simp only [List.map_cons, List.map_nil] at O
  replace hn1 := neN hn1
  replace hn2 := neN hn2
  replace hn3 := neN hn3
  rcases List.eq_nil_or_concat vs with rfl | ⟨us, y, rfl⟩
  · k_dflt kn_enter
    k_steps
    rename News _ _ _ _ => kN
    exact hret _ _ _ _ (by k_asm) (by simpa only [List.cons_append, List.nil_append] using kN) (.inl ⟨rfl, ⟨_, rfl⟩, rfl⟩)
  · rw [List.concat_eq_append] at *
    k_dflt kn_enter
    k_steps
    rename News _ _ _ _ => kN
    exact hret _ _ _ _ (by k_asm) (by simpa only [List.cons_append, List.nil_append] using kN) (.inr ⟨_, _, rfl, rfl, rfl⟩)
theorem piece_at {w : World} {nm : PySem.Str} {ps : Arguments} {bd : List Stmt} {sc : Scope} {ds : List Expr} {rt : Option Expr} {tp : List TypeParam} {ts : Option Scope} {bn : PySem.Str} {po : Pos}
    (h : pieceStmt = some (.FunctionDef nm ps bd ds rt tp sc ts bn po)) {q : PySem.Str} {C cc : Nat} {doc pm ct : Value} {oc : Obj} {cs : Array Value} {t : Tok} (h1 : oc.data = .fields cs) (h2 : cs[1]? = some (.str q t)) :
    IsPiece w (fnX nm q ps bd sc [(PySem.Str.ofString "signs", C)] .none .none doc pm none (.ref cc) ct) cc oc C := by
  obtain ⟨nm', ps', bd', sc', ds', rt', tp', ts', bn', po', e, H⟩ := piece_lit w
  rw [h] at e
  cases e
  exact H _ _ _ _ _ _ _ _ _ h1 h2
end
section
local macro_rules | `(tactic| walk_at "pad pad") => `(tactic| fail)
open PySem PySem.W PyProof.Rows PySem.Calls
local macro_rules | `(tactic| k_ne) => `(tactic| (refine neN ?_; (try dsimp only); first | with_reducible assumption | (refine Ne.symm ?_; with_reducible assumption) | exact Nat.ne_of_lt (by walk_at "pick") | exact Nat.ne_of_gt (by walk_at "pick") | omega))
local macro_rules | `(tactic| walk_at "call type:list") => `(tactic| (k_here; (with_reducible show wpAny _ _ (call (Value.type "list") [Value.str _ _]) _ _ _); k_dflt (refine' list_text ?h ?F ?N ?x ?_; (case h => exact rfl); (case F => k_asm); (case N => k_asm); (case x => assumption)); intro D' ys' n' h' tk' F' N' l1 hS'; (try k_lt l1); (try k_sweep)))
local macro_rules | `(tactic| walk_at "subscriptTail Name Slice ref ref") => `(tactic| (k_here; (with_reducible show wpAny _ _ (subscriptTail _ (PySem.Expr.Slice none none (some _) _) (Value.ref _) (Value.ref _)) _ _ _); k_dflt (refine' krv_lit (its := List.toArray _) ?F ?N ?l ?k ?e ?_ ?s ?t ?z; (case F => k_asm); (case N => k_asm); (case l => kmk_list); (case k => exact IsPart.int _ _); (case e => exact rfl); (case s => with_unfolding_all rfl); (case t => kmk_pure); (case z => (have hz9 := StrsAre.len_eq (by with_reducible assumption); simp only [signs, List.length_map, List.length_reverse, List.size_toArray, sizeLine_eq, Array.length_toList] at *; simp only [Str.length] at *; omega))); intro D' h' F' N' l1; (try k_lt l1); (try k_sweep)))
inductive LexPost (w : World) (x : PySem.Str) (r : Value) (nx : List (Addr × Obj)) (b : Nat) : Prop
  | mk (S : Lex) (ps : Array Value) (h0 : nx = S.led ++ [(103, tabObj ps)]) (h1 : r = .ref S.ln) (h2 : S.Ok w) (h3 : S.lno = 1) (h4 : S.pbv = []) (h5 : StrsAre S.sgv.reverse (signs x)) (h6 : b = S.C) (h7 : 103 < S.C) : LexPost w x r nx b
set_option maxHeartbeats 4000000 in
theorem lexer_con (w : World) (x : PySem.Str) (tk : Tok) (hx : x.length ≤ 4096) :
    ConF w 350 108 [.str x tk] [(103, tabObj #[])] (LexPost w x) := by
  unfold ConF KF PG
  k_fill
  intro p loose mean mg mb dp un gd cn cs a ccd cl outer A₀ base h₀ L m oth s Q E B F X N O T CH hk hdp hun hret
  dsimp only [List.cons_append, List.nil_append] at N
  k_dflt k_enter
  k_steps
  rename StrsAre _ _ => hS
  rename (Obj.data _ = Data.cell (some (Value.ref _))) => hcell
  rename News _ _ _ _ => kN
  rename (Obj.data _ = Data.fields _) => hcode
  have fin := fun hP => lex_end' (w := w) kN hcode hcell (by k_dflt k_mem) (ln := _) (by k_dflt k_mem) (by k_dflt k_mem) (by k_dflt k_mem) (by k_dflt k_mem) (by k_dflt k_mem) (by k_dflt k_mem) (by k_dflt k_mem) (by k_dflt k_mem) hP
  refine Exists.elim (fin (piece_at (by with_unfolding_all rfl) hcode (by assumption)) ?nd) ?_
  case nd => ((repeat' apply And.intro) <;> first | walk_at "pick" | omega)
  rintro S ⟨NS, ok, e1, e2, e3, e4, e5⟩
  have hT := kN (103, tabObj _) (by k_dflt k_mem)
  refine' hret _ _ _ (S.led ++ [(103, tabObj _)]) S.C (by k_asm) ?hN ?hO ⟨S, _, rfl, by rw [e1], ok, e4, e2, by rw [e3, List.reverse_reverse]; exact hS, rfl, by rw [e5]; omega⟩
  case hN =>
   intro q hq
   rcases List.mem_append.mp hq with hq | hq
   · rcases List.mem_append.mp hq with hq | hq
     · exact NS q hq
     · rw [List.mem_singleton.mp hq]; exact hT
   · exact kN q (by k_dflt (repeat (first | exact hq | apply List.mem_cons_of_mem)))
  case hO =>
    rename OffBase _ _ => hOB
    exact hOB.mono (by rw [e5]; omega)
end
section
open PySem PySem.W PyProof.Rows PySem.Calls
theorem one_sign (c d : Nat) : ((⟨#[c]⟩ : PySem.Str) == ⟨#[d]⟩) = decide (c = d) := by
  by_cases h : c = d
  · subst h; simp
  · simp [h]
/-- the line behind a sign taken -/
abbrev Lex.took (S : Lex) (us : List Value) (k : Nat) (lno : Int) (t1 : Tok) : Lex := { S with sgv := us, sgn := k, lno := lno, t1 := t1 }
theorem Lex.Ok.took {w : World} {S : Lex} (ok : S.Ok w) (us : List Value) (k : Nat) (lno : Int) (t1 : Tok) : (S.took us k lno t1).Ok w := ⟨ok.piece, ok.cell, ok.nd⟩
/-- the text that is still to be read -/
def Txt (S : Lex) (txt : List Nat) : Prop := StrsAre S.sgv.reverse (txt.map fun c => (⟨#[c]⟩ : PySem.Str))
theorem Txt.nil {S : Lex} (h : Txt S []) : S.sgv = [] := by
  unfold Txt at h
  cases e : S.sgv.reverse with
  | nil => simpa using e
  | cons a b => rw [e] at h; cases h
theorem Txt.cons {S : Lex} {c : Nat} {r : List Nat} (h : Txt S (c :: r)) : ∃ us t, S.sgv = us ++ [.str ⟨#[c]⟩ t] ∧ ∀ n lno t1, Txt (S.took us n lno t1) r := by
  unfold Txt at h
  generalize e : S.sgv.reverse = l at h
  rw [List.map_cons] at h
  cases h with
  | cons x t h =>
    rename_i vs
    refine ⟨vs.reverse, t, ?_, fun n lno t1 => ?_⟩
    · have := congrArg List.reverse e
      rw [List.reverse_reverse, List.reverse_cons] at this
      exact this
    · show StrsAre vs.reverse.reverse _
      rw [List.reverse_reverse]
      exact h
theorem Txt.len {S : Lex} {r : List Nat} (h : Txt S r) : S.sgv.length = r.length := by
  have := StrsAre.len_eq h
  simpa using this
set_option maxHeartbeats 4000000 in
theorem read_some (w : World) (S : Lex) (ok : S.Ok w) (us : List Value) (c : Nat) (t : Tok) (hs : S.sgv = us ++ [.str ⟨#[c]⟩ t]) (hl : S.sgv.length ≤ 4096) :
    Con w 390 35 [.ref S.ln] S.led (fun r nx => r = .str ⟨#[c]⟩ t ∧ ∃ t1, nx = (S.took us (S.sgn + 1) (if c = 10 then S.lno + 1 else S.lno) t1).led) := by
  unfold Con KF PG
  k_fill
  intro p loose mean mg mb dp un gd cn cs a ccd cl outer A₀ base h₀ L m oth s Q E B F X N O T CH hk hdp hun hret
  have nd := ok.nd
  simp only [Lex.led, hs, List.cons_append, List.nil_append] at N
  simp only [List.map_cons, List.map_nil] at O
  k_dflt k_enter
  k_steps
  refine' use_con (adr := [S.sg, S.f, S.cc, S.C]) (ok.piece S.f S.sg S.co (us ++ [.str ⟨#[c]⟩ t]) S.sgn _ ok.cell ?z1 ?z2 ?z3 ?z4) ?B ?F ?X ?N ?I ?he ?R ?T ?H ?kk ?hd ?hu ?_
  case z1 => rw [← hs]; exact hl
  case z2 => omega
  case z3 => omega
  case z4 => omega
  case B => k_asm
  case F => k_asm
  case X => k_asm
  case N => k_asm
  case I => k_allIn
  case he => (simp only [List.map_cons, List.map_nil])
  case R => k_ownIn
  case T => k_asm
  case H => k_asm
  case kk => exact rfl
  case hd => (simp only [depth_deeper]; omega)
  case hu => (simp only [units_deeper]; omega)
  rintro r h9 tk9 nx F9 N9 (⟨e, _⟩ | ⟨us', y, e, rfl, rfl⟩)
  · simp at e
  obtain ⟨e1, e2⟩ := List.append_inj' e rfl
  cases e1
  cases e2
  simp only [List.cons_append, List.nil_append] at N9
  k_steps
  · rename ((_ == _) = true) => hc
    rename News _ _ _ _ => kN
    rw [show PySem.Str.ofString "\n" = ⟨#[10]⟩ from by decide +kernel, one_sign] at hc
    refine' hret _ _ _ (S.took us (S.sgn + 1) (S.lno + 1) ?t1).led (by k_asm) (cb_drop kN ?N9) ⟨rfl, ?t1, by rw [if_pos (by simpa using hc)]⟩
    case N9 => exact List.forall_mem_append.mpr ⟨by k_allIn, fun q hq => by (repeat (first | exact hq | apply List.mem_cons_of_mem))⟩
  · rename ((_ == _) = false) => hc
    rename News _ _ _ _ => kN
    rw [show PySem.Str.ofString "\n" = ⟨#[10]⟩ from by decide +kernel, one_sign] at hc
    refine' hret _ _ _ (S.took us (S.sgn + 1) S.lno ?t2).led (by k_asm) (cb_drop kN ?N8) ⟨rfl, ?t2, by rw [if_neg (by simpa using hc)]⟩
    case N8 => exact List.forall_mem_append.mpr ⟨by k_allIn, fun q hq => by (repeat (first | exact hq | apply List.mem_cons_of_mem))⟩
set_option maxHeartbeats 4000000 in
theorem read_none (w : World) (S : Lex) (ok : S.Ok w) (hs : S.sgv = []) :
    Con w 390 35 [.ref S.ln] S.led (fun r nx => (∃ t, r = .str (PySem.Str.ofString "") t) ∧ nx = S.led) := by
  unfold Con KF PG
  k_fill
  intro p loose mean mg mb dp un gd cn cs a ccd cl outer A₀ base h₀ L m oth s Q E B F X N O T CH hk hdp hun hret
  have nd := ok.nd
  simp only [Lex.led, hs, List.cons_append, List.nil_append] at N
  simp only [List.map_cons, List.map_nil] at O
  k_dflt k_enter
  k_steps
  refine' use_con (adr := [S.sg, S.f, S.cc, S.C]) (ok.piece S.f S.sg S.co [] S.sgn _ ok.cell ?y1 ?y2 ?y3 ?y4) ?B ?F ?X ?N ?I ?he ?R ?T ?H ?kk ?hd ?hu ?_
  case y1 => simp
  case y2 => omega
  case y3 => omega
  case y4 => omega
  case B => k_asm
  case F => k_asm
  case X => k_asm
  case N => k_asm
  case I => k_allIn
  case he => (simp only [List.map_cons, List.map_nil])
  case R => k_ownIn
  case T => k_asm
  case H => k_asm
  case kk => exact rfl
  case hd => (simp only [depth_deeper]; omega)
  case hu => (simp only [units_deeper]; omega)
  intro r h9 tk9 nx F9 N9 hp
  obtain ⟨_, ⟨t9, rfl⟩, rfl⟩ := hp.resolve_right (by rintro ⟨us', y, e, _⟩; simp at e)
  simp only [List.cons_append, List.nil_append] at N9
  k_steps
  rename News _ _ _ _ => kN
  refine' hret _ _ _ S.led (by k_asm) (cb_drop kN ?N7) ⟨⟨_, rfl⟩, rfl⟩
  case N7 => 
    rw [Lex.led, hs]
    exact List.forall_mem_append.mpr ⟨by k_allIn, fun q hq => by (repeat (first | exact hq | apply List.mem_cons_of_mem))⟩
theorem read_txt (w : World) (S : Lex) (ok : S.Ok w) (c : Nat) (r : List Nat) (h : Txt S (c :: r)) (hl : r.length ≤ 4000) :
    Con w 390 35 [.ref S.ln] S.led (fun v nx => (∃ t, v = .str ⟨#[c]⟩ t) ∧ ∃ us n t1, nx = (S.took us n (if c = 10 then S.lno + 1 else S.lno) t1).led ∧ Txt (S.took us n (if c = 10 then S.lno + 1 else S.lno) t1) r) := by
  obtain ⟨us, t, e, ht⟩ := h.cons
  have C := read_some w S ok us c t e (by rw [h.len, List.length_cons]; omega)
  intro p loose mean mg mb dp un gd cn cs a ccd cl outer A₀ base h₀ L m oth s Q E B F X N O T CH hk hdp hun hret
  refine C p loose mean mg mb dp un gd cn cs a ccd cl outer A₀ base h₀ L m oth s Q E B F X N O T CH hk hdp hun fun v h' tk' nx F' N' hp => ?_
  obtain ⟨rfl, t1, rfl⟩ := hp
  exact hret _ _ _ _ F' N' ⟨⟨_, rfl⟩, _, _, _, rfl, ht _ _ _⟩
end
section
/-! iter(f, sentinel) and the for over it -/
open PySem PySem.W PyProof.Rows PySem.Calls PySem.F
theorem owner_ci : Manifest.owners.lookup (String.ofList ['r', 'o', 't', 'a', 'r', 'e', 't', 'i', '_', 'e', 'l', 'b', 'a', 'l', 'l', 'a', 'c'].reverse) = some Manifest.sig_callable_iterator := by kernel_rfl
theorem slot_ci_next : Slot "callable_iterator" "__next__" "callable_iterator.__next__" :=
  .of (owner := "callable_iterator") (n := "__next__") (by rw [typeLookup_type, builtinLookup_eq_fast]; kernel_rfl) (by decide +kernel) (by decide +kernel) (by decide +kernel)
    (by first | exact .inl (by decide +kernel) | exact .inr (by decide +kernel)) (by rw [isSubtype_type]; kernel_rfl)
theorem entry_ci_next : entryFor table "callable_iterator.__next__" = some Builtin.«callable_iterator.__next__» := entryFor_of_fast (by kernel_rfl)
theorem args_ci_next (a : Value) : argsOk "callable_iterator.__next__" ⟨[a], []⟩ := by
  unfold argsOk; rw [signature?_of (id := "callable_iterator.__next__") (n := ['_', '_', 't', 'x', 'e', 'n', '_', '_']) (o := ['r', 'o', 't', 'a', 'r', 'e', 't', 'i', '_', 'e', 'l', 'b', 'a', 'l', 'l', 'a', 'c']) (by kernel_rfl) owner_ci]; kernel_rfl
theorem args_iter2 (a b : Value) : argsOk "iter" ⟨[a, b], []⟩ := by unfold argsOk; kernel_rfl
abbrev ciObj (q : Addr) (x : PySem.Str) (t : Tok) (b : Bool) : Obj := { cls := .type "callable_iterator", data := .fields #[.ref q, .str x t, .bool b] }
abbrev ciEnd : Obj := { cls := .type "callable_iterator", data := .fields #[.none, .none, .bool true] }
section
variable {M : Model} {A : Around} {E : Value → Shared → Prop} {s : Shared}
theorem wpAny_callBorrowed {f : Value} {pos : List Value} {Q : Value → Shared → Prop}
    (hc : codeAny M A (.call f ⟨pos, []⟩) (fun r s' => match r with | .ok (.ret v) => Q v s' | .ok _ => False | .error e => E e s') s) : wpAny M A (callBorrowed f pos) Q E s := fun Γ p hΓ => by
  unfold callBorrowed
  rw [Sem.wp_call]
  have h := hc _ p rfl (hΓ.enter (.call f ⟨pos, []⟩) none p (by intro x; cases x))
  refine (congrArg (fun R => wpCode M (Γ.enter (.call f ⟨pos, []⟩) none p) R p s) (funext fun r => funext fun s' => ?_)).mp h
  cases r with
  | ok f => cases f <;> rfl
  | error e => rfl
end
section
variable {prog : Program} {w : World} {A : Around} {E : Value → Shared → Prop} {s : Shared} {h₀ : Heap} {L : Addr} {m : Str → Option Value} {news : List (Addr × Obj)}
theorem lk_method_call : typeLookup (.type "method") "__call__" = pure (some (.builtin "method.__call__")) := by rw [typeLookup_type, builtinLookup_eq_fast]; kernel_rfl
/-- iter(bound method, text) -/
theorem iter_sentinel {q : Addr} {f self : Value} {x : PySem.Str} {t : Tok} {Q : Value → Shared → Prop} (F : Fr h₀ L s.heap m) (N : News h₀ L s.heap news) (hq : (q, methodObj f self) ∈ news)
    (h : ∀ I h', Fr h₀ L h' m → News h₀ L h' ((I, ciObj q x t false) :: news) → (∀ p ∈ news, p.1 < I) → Q (.ref I) { s with heap := h' }) :
    wpAny (model prog w) A (call (.builtin "iter") [.ref q, .str x t]) Q E s := by
  refine call_function_entry (by decide +kernel) (by decide +kernel) kdk_entry_iter (args_iter2 _ _) ?_
  unfold Builtin.«iter»
  refine wpAny_bind (m := someArgs "iter" 1 2 _) (wpAny_of_eq (a := [Value.ref q, Value.str x t]) (by first | rfl | kernel_rfl!) ?_)
  have hT : s.TypeIs (.ref q) "method" := ⟨_, (N _ hq).1, rfl⟩
  have hl := lk_method_call
  refine wpAny_bind (wpAny_specialOf hT hl ?_)
  dsimp only
  simp only [Option.isNone_some, Bool.false_eq_true, if_false]
  refine wpAny_bind (wpAny_rule ?_)
  refine wpAny_bind ?_
  unfold newFields
  refine wpAny_newObj_type ?_ (by size_fits)
  exact wpAny_pure ⟨_, rfl, h _ _ (F.push _) (News.push F N _ rfl) (fun q hq => Heap.lt_size (N q hq).1)⟩
end
end
section
open PySem PySem.W PyProof.Rows PySem.Calls PySem.F
theorem slot_ci_iter : Slot "callable_iterator" "__iter__" "callable_iterator.__iter__" :=
  .of (owner := "callable_iterator") (n := "__iter__") (by rw [typeLookup_type, builtinLookup_eq_fast]; kernel_rfl) (by decide +kernel) (by decide +kernel) (by decide +kernel)
    (by first | exact .inl (by decide +kernel) | exact .inr (by decide +kernel)) (by rw [isSubtype_type]; kernel_rfl)
theorem entry_ci_iter : entryFor table "callable_iterator.__iter__" = some Builtin.«dict_keyiterator.__iter__» :=
  entryFor_alias (id' := "dict_keyiterator.__iter__") (by kernel_rfl) rfl (by decide +kernel) (by kernel_rfl)
theorem args_ci_iter (a : Value) : argsOk "callable_iterator.__iter__" ⟨[a], []⟩ := by
  unfold argsOk; rw [signature?_of (id := "callable_iterator.__iter__") (n := ['_', '_', 'r', 'e', 't', 'i', '_', '_']) (o := ['r', 'o', 't', 'a', 'r', 'e', 't', 'i', '_', 'e', 'l', 'b', 'a', 'l', 'l', 'a', 'c']) (by kernel_rfl) owner_ci]; kernel_rfl
section
variable {prog : Program} {w : World} {A : Around} {E : Value → Shared → Prop} {s : Shared} {h₀ : Heap} {L : Addr} {m : Str → Option Value} {news : List (Addr × Obj)}
theorem ci_type {I : Addr} {o : Obj} (h : s.heap.get? I = some o) (hc : o.cls = .type "callable_iterator") : s.TypeIs (.ref I) "callable_iterator" := ⟨_, h, hc⟩
/-- iter(it) is it -/
theorem ci_iter {I : Addr} {o : Obj} {Q : Value → Shared → Prop} (N : News h₀ L s.heap news) (hI : (I, o) ∈ news) (hc : o.cls = .type "callable_iterator") (h : Q (.ref I) s) :
    wpAny (model prog w) A (pyIter (.ref I)) Q E s := by
  have hT := ci_type (N _ hI).1 hc
  refine wpAny_pyIter_slot hT slot_ci_iter (wpAny_call_entry slot_ci_iter hT entry_ci_iter ?_ (args_ci_iter _))
  show wpAny _ _ (ret (.ref I)) _ _ s
  exact wpAny_pure ⟨_, rfl, "callable_iterator", _, hT, slot_ci_next.lookup, h⟩
/-- a bound method of the text's own is borrowed -/
theorem borrows {q f : Addr} {self oc : Value} {od : Option Addr} {fd : FuncData} {sl : Array (Option Value)} {Q : Bool → Shared → Prop} (hq : s.heap.get? q = some (methodObj (.ref f) self)) (hf : s.heap.get? f = some ⟨oc, od, .func fd, sl⟩)
    (h : Q true s) : wpAny (model prog w) A (borrowsExactly (.ref q)) Q E s := by
  unfold borrowsExactly
  refine wpAny_bind (m := load q) (wpAny_load' hq ?_)
  refine wpAny_bind (m := load f) (wpAny_load' hf ?_)
  exact wpAny_pure h

/-- what comes back from the call behind an iterator -/
def CiBack (h₀ : Heap) (L I q : Addr) (m : Str → Option Value) (x : PySem.Str) (t : Tok) (Q : Option Value → Shared → Prop) (v : Value) (s' : Shared) : Prop :=
  ∃ (y : PySem.Str) (u : Tok) (news' : List (Addr × Obj)), v = .str y u ∧ Fr h₀ L s'.heap m ∧ News h₀ L s'.heap news' ∧ (I, ciObj q x t false) ∈ news' ∧ (∃ f self, (q, methodObj (.ref f) self) ∈ news' ∧ ∃ oc od fd sl, s'.heap.get? f = some ⟨oc, od, .func fd, sl⟩) ∧
    (y ≠ x → Q (some v) s') ∧ (y = x → ∃ news'', Upd I (ciObj q x t false) ciEnd news' news'' ∧ ∀ h' tk, Fr h₀ L h' m → News h₀ L h' news'' → Q none { s' with heap := h', toks := tk })

theorem ci_next {I q f : Addr} {self oc : Value} {od : Option Addr} {fd : FuncData} {sl : Array (Option Value)} {x : PySem.Str} {t : Tok} {Q : Option Value → Shared → Prop} (hh : A.handled = none) (N : News h₀ L s.heap news) (hI : (I, ciObj q x t false) ∈ news) (hq : (q, methodObj (.ref f) self) ∈ news)
    (hf : s.heap.get? f = some ⟨oc, od, .func fd, sl⟩)
    (h : codeAny (model prog w) A.in1 (.call (.ref f) ⟨[self], []⟩) (fun r s' => match r with | .ok (.ret v) => CiBack h₀ L I q m x t Q v s' | .ok _ => False | .error _ => False) s) :
    wpAny (model prog w) A (pyNext (.ref I)) Q E s := by
  have ho := (N _ hI).1
  have hT := ci_type (s := s) ho rfl
  unfold pyNext
  refine wpAny_bind (wpAny_attempt (wpAny_callSpecial?_slot (name := Str.ofString "__next__") hT slot_ci_next
    (wpAny_call_entry slot_ci_next hT entry_ci_next ?_ (args_ci_next _))))
  show wpAny _ _ (field (.ref I) 2 >>= _) _ _ s
  refine wpAny_bind (wpAny_field ho rfl (x := .bool false) rfl ?_)
  show wpAny _ _ (if (Value.bool false == Value.bool true) = true then _ else _) _ _ s
  rw [if_neg (show ¬ ((Value.bool false == Value.bool true) = true) from Bool.false_ne_true)]
  show wpAny _ _ (field (.ref I) 0 >>= _) _ _ s
  refine wpAny_bind (wpAny_field ho rfl (x := .ref q) rfl ?_)
  refine wpAny_bind (wpAny_attempt ?_)
  unfold callOutOfASlot
  refine wpAny_bind (borrows (N _ hq).1 hf ?_)
  rw [if_pos rfl]
  refine wpAny_callBorrowed (method_call (N _ hq).1 ?_)
  refine codeAny_mono h fun r s' hr => ?_
  cases r with
  | error e => exact hr.elim
  | ok fl =>
    cases fl with
    | ret v =>
      obtain ⟨y, u, news', rfl, F', N', hI', ⟨f', self', hq', oc', od', fd', sl', hf'⟩, hsome, hnone⟩ := hr
      have ho' := (N' _ hI').1
      dsimp only
      show wpAny _ _ (field (.ref I) 2 >>= _) _ _ s'
      refine wpAny_bind (wpAny_field ho' rfl (x := .bool false) rfl ?_)
      show wpAny _ _ (if (Value.bool false == Value.bool true) = true then _ else _) _ _ s'
      rw [if_neg (show ¬ ((Value.bool false == Value.bool true) = true) from Bool.false_ne_true)]
      show wpAny _ _ (field (.ref I) 1 >>= _) _ _ s'
      refine wpAny_bind (wpAny_field ho' rfl (x := .str x t) rfl ?_)
      refine wpAny_bind (wpAny_holding (wpAny_eqBool_str ?_))
      by_cases hy : y = x
      · subst hy
        rw [decide_eq_true rfl]
        show wpAny _ _ (if (!true) = true then _ else _) _ _ _
        rw [if_neg (by simp)]
        refine wpAny_bind (wpAny_rule ?_)
        refine wpAny_bind ?_
        show wpAny _ _ (field (.ref I) 0 >>= _) _ _ s'
        refine wpAny_bind (wpAny_field ho' rfl (x := .ref q) rfl ?_)
        refine wpAny_bind ?_
        unfold slotLetsGo
        refine wpAny_bind (borrows (N' _ hq').1 hf' ?_)
        rw [if_pos rfl]
        refine wpAny_pure ?_
        obtain ⟨news'', U, hnone⟩ := hnone rfl
        obtain ⟨pre, post, rfl, rfl, ha, hb⟩ := U.split
        have z := N' (I, ciObj q y t false) hI'
        refine wpAny_bind (wpAny_setField_rec ho' (by simp) fun h1 e1 s1 => ?_)
        refine wpAny_bind (wpAny_setField_rec (s := { s' with heap := h1 }) e1 (by simp) fun h2 e2 s2 => ?_)
        refine wpAny_setField_rec (s := { s' with heap := h2 }) e2 (by simp) fun h3 e3 s3 => ?_
        have sb : Heap.SameBut I s'.heap h3 := (s1.trans s2).trans s3
        have F3 := F'.change sb z.2.1 z.2.2
        have N3 := news_set (o' := ciEnd) N' ha hb sb e3
        show wpAny _ _ (newExc (.type "StopIteration") [] >>= raiseNew) _ _ _
        refine wpAny_bind ?_
        simp only [newExc, newTuple]
        refine wpAny_bind (wpAny_newObj_type ?_ (by size_fits))
        refine wpAny_bind (m := firstArgMember _ _) (wpAny_of_eq (a := Value.none) (by first | rfl | (simp only [firstArgMember]; rfl)) ?_)
        refine wpAny_newObj_type ?_ (by size_fits)
        simp only [raiseNew]
        refine wpAny_bind (wpAny_handled ?_)
        rw [show A.in1.handled = none from hh]
        refine wpAny_bind (wpAny_pure (wpAny_throw ?_))
        refine wpAny_bind (wpAny_isInstance (T := "StopIteration") (b := true) ⟨_, Heap.get?_push_size _ rfl, rfl⟩ isSubtype_stop ?_)
        exact wpAny_pure (hnone _ _ ((F3.push _).push _) (fun p hp => ⟨Heap.get?_push_of_some _ (Heap.get?_push_of_some _ (N3 p hp).1), (N3 p hp).2⟩))
      · rw [decide_eq_false (fun e => hy e.symm)]
        rw [if_pos (show (!false) = true from rfl)]
        exact wpAny_pure ⟨_, rfl, wpAny_pure (hsome hy)⟩
    | _ => exact hr.elim
end
end
section
open PySem PySem.W PyProof.Rows PySem.Calls PySem.F
section
variable {prog : Program} {w : World} {A : Around} {E : Value → Shared → Prop} {s : Shared} {env : Env} {x : PySem.Str} {px : Pos} {body : List Stmt} {Q : Flow → Shared → Prop} {it : Value}
/-- a for over a name, at a turn's start -/
def ForRest (prog : Program) (w : World) (A : Around) (E : Value → Shared → Prop) (env : Env) (x : PySem.Str) (px : Pos) (body : List Stmt) (Q : Flow → Shared → Prop) (it : Value) (s : Shared) : Prop :=
  codeAny (model prog w) A (.forLoop (.Name x px) it body [] env) (fun r s' => match r with | .ok f => Q f s' | .error e => cameBackBy (model prog w) A env E e s') s
def ForFlow (prog : Program) (w : World) (A : Around) (E : Value → Shared → Prop) (env : Env) (x : PySem.Str) (px : Pos) (body : List Stmt) (Q : Flow → Shared → Prop) (it : Value) (f : Flow) (s : Shared) : Prop := match f with
  | .next => ForRest prog w A E env x px body Q it s
  | .cont => ForRest prog w A E env x px body Q it s
  | .brk => Q .next s
  | .ret v => Q (.ret v) s
def ForTurn (prog : Program) (w : World) (A : Around) (E : Value → Shared → Prop) (env : Env) (x : PySem.Str) (px : Pos) (body : List Stmt) (Q : Flow → Shared → Prop) (it : Value) (r : Option Value) (s : Shared) : Prop := match r with
  | none => Q .next s
  | some v => wpAny (model prog w) A (storeName env x v) (fun _ s₂ => wpAny (model prog w) A (execs body env) (ForFlow prog w A E env x px body Q it) E s₂) E s
theorem for_start {iter : Expr} {pos : Pos} (h : wpAny (model prog w) A (eval iter env) (fun xv s₁ => wpAny (model prog w) A (pyIter xv) (fun it s₂ => ForRest prog w A E env x px body Q it s₂) E s₁) E s)
    (hs : ∀ x, foldedSetIterable iter env x = pure x := by intro _; rfl) : wpAny (model prog w) A (exec (.For (.Name x px) iter body [] pos) env) Q E s :=
  wpAny_For h hs
theorem for_turn (hE : PassesOwn (model prog w) A env E) (h : wpAny (model prog w) A (pyNext it) (ForTurn prog w A E env x px body Q it) E s) : ForRest prog w A E env x px body Q it s := by
  refine codeAny_of_tree ?_
  show wpAny _ A ((forTurn (.Name x px) it body [] env).onRaise (fun x => do noteFrame x env; theTreesLotGoes x)) _ _ s
  refine wpAny_noted ?_
  simp only [forTurn]
  refine wpAny_bind (wpAny_standAt (wpAny_bind (wpAny_onRaise (wpAny_mono h (fun r s₁ h₁ => ?_) fun e s' h' => wpAny_standAt (hE e s' h')))))
  cases r with
  | none => exact wpAny_pure ⟨rfl, codeAny_block (wpAny_execs_nil h₁)⟩
  | some v =>
    refine wpAny_bind ?_
    show wpAny _ _ (pure ()) _ _ _
    refine wpAny_pure ?_
    refine wpAny_bind (wpAny_assign_Name (wpAny_mono h₁ (fun _ s₂ h₂ => wpAny_bind (wpAny_mono h₂ (fun f s₃ h₃ => ?_) hE)) hE))
    cases f with
    | next => exact wpAny_pure ⟨rfl, h₃⟩
    | cont => exact wpAny_pure ⟨rfl, h₃⟩
    | brk => exact wpAny_pure h₃
    | ret v => exact wpAny_pure h₃

/-- a for by induction over a state of one's own -/
theorem for_ind {σ : Type} {r : σ → σ → Prop} (R : σ → Shared → Prop) (c : σ) (hc : Acc r c) (hR : R c s) (hE : PassesOwn (model prog w) A env E)
    (turn : ∀ c s, (∀ c' s', r c' c → R c' s' → ForRest prog w A E env x px body Q it s') → R c s → wpAny (model prog w) A (pyNext it) (ForTurn prog w A E env x px body Q it) E s) :
    ForRest prog w A E env x px body Q it s := by
  induction hc generalizing s with
  | intro c _ ih => exact for_turn hE (turn c s (fun c' s' hr hR' => ih c' hr hR') hR)
end
section
variable {h₀ h : Heap} {L : Addr} {m : Str → Option Value}
/-- a frame by what is said of some names -/
theorem fr_ps {ps : List (Str × Value)} (F : Fr h₀ L h m) (hk : ∀ p ∈ ps, m p.1 = some p.2) : Fr h₀ L h (kstB m ps) := by
  have e : kstB m ps = m := by
    funext y
    exact kstB_eq hk fun _ => rfl
  rw [e]
  exact F
end
end
section
open PySem PySem.W PyProof.Rows PySem.Calls PySem.F
theorem upd_mid {d : Addr} {o o' : Obj} {post : List (Addr × Obj)} (hb : ∀ p ∈ post, p.1 ≠ d) : ∀ {pre : List (Addr × Obj)}, (∀ p ∈ pre, p.1 ≠ d) → Upd d o o' (pre ++ (d, o) :: post) (pre ++ (d, o') :: post)
  | [], _ => .head hb
  | _ :: _, h => .tail (h _ (.head _)) (upd_mid hb fun p hp => h p (.tail _ hp))
def isWs (c : Nat) : Bool := decide (c ∈ [10, 9, 13, 32])
section
variable {prog : Program} {w : World} {A : Around} {E : Value → Shared → Prop} {s : Shared}
theorem in_ws {c : Nat} {u t : Tok} {b : Bool} {Q : Value → Shared → Prop} (hb : isWs c = b) (h : Q (.bool b) s) : wpAny (model prog w) A (compareOp .In (.str ⟨#[c]⟩ u) (.str (PySem.Str.ofString "\n\t\x0d ") t)) Q E s := by
  refine PyProof.Rows.in_str ?_
  have e : (PySem.Str.ofString "\n\t\x0d ").cps.toList = [10, 9, 13, 32] := by decide +kernel
  rw [StrLaws.found_one, e]
  unfold isWs at hb
  rw [hb]
  exact h
theorem eq_sign {c : Nat} {u t : Tok} {x : PySem.Str} {b : Bool} {Q : Value → Shared → Prop} (hb : ((⟨#[c]⟩ : PySem.Str) == x) = b) (h : Q (.bool b) s) : wpAny (model prog w) A (compareOp .Eq (.str ⟨#[c]⟩ u) (.str x t)) Q E s := by
  refine PyProof.Rows.eq_str ?_
  rw [hb]
  exact h
theorem cat_sign {acc : List Nat} {c : Nat} {u t : Tok} {Q : Value → Shared → Prop} (hl : acc.length ≤ 4096) (h : ∀ t' tk, Q (.str ⟨(acc ++ [c]).toArray⟩ t') { s with toks := tk }) : wpAny (model prog w) A (inplaceOp .Add (.str ⟨acc.toArray⟩ t) (.str ⟨#[c]⟩ u)) Q E s := by
  refine PyProof.Rows.iadd_str ?_ ?_
  · have e : (⟨acc.toArray⟩ : PySem.Str) ++ ⟨#[c]⟩ = ⟨(acc ++ [c]).toArray⟩ := by
      apply Str.ext'
      simp [Str.cps_append]
    rw [e]
    exact h
  · rw [sizeLine_eq]
    simp [Str.length]
    omega
theorem is_quote (c : Nat) : ((⟨#[c]⟩ : PySem.Str) == PySem.Str.ofString "\"") = decide (c = 34) := by
  rw [show PySem.Str.ofString "\"" = ⟨#[34]⟩ from by decide +kernel, one_sign]
theorem is_back (c : Nat) : ((⟨#[c]⟩ : PySem.Str) == PySem.Str.ofString "\\") = decide (c = 92) := by
  rw [show PySem.Str.ofString "\\" = ⟨#[92]⟩ from by decide +kernel, one_sign]
end
section
variable {w : World} {p : Program} {loose : List Str} {mean : ExcName → Option Value} {mg mb : Str → Option Value} {dp un : Nat} {gd : Option (List Code)} {cn : Str} {cs : Scope} {a : Addr} {ccd : Value} {cl : List (Str × Addr)} {outer : List Env} {A₀ : Around} {base h₀ : Heap} {L : Addr} {m : Str → Option Value} {s : Shared} {E : Value → Shared → Prop} {Q : Option Value → Shared → Prop}
/-- the next sign by iter(line._read_char, '') -/
theorem next_sign {S : Lex} {c : Nat} {r : List Nat} {news rest : List (Addr × Obj)} {I q : Nat} {t : Tok} {oc : Value} {od : Option Addr} {fd : FuncData} {sl : Array (Option Value)}
    (B : Below A₀ base outer h₀) (F : Fr h₀ L s.heap m) (X : (KF w).In h₀) (N : News h₀ L s.heap news) (T : Top p loose mean mg mb h₀) (H : CodeHd base 107 103) (hk : cs.kind = .function) (hd : dp ≤ 390) (hu : un + 1 ≤ 390)
    (hf : h₀.get? 35 = some ⟨oc, od, .func fd, sl⟩) (ok : S.Ok w) (ht : Txt S (c :: r)) (hl : r.length ≤ 4000) (hin : ∀ q ∈ S.led, q ∈ news) (R : Rest [S.pb, S.ln, S.ld, S.f, S.cc, S.st, S.sd, S.sg, S.C] news rest)
    (hI : (I, ciObj q (PySem.Str.ofString "") t false) ∈ rest) (hq : (q, methodObj (.ref 35) (.ref S.ln)) ∈ rest)
    (ret : ∀ h' tk' u us n t1, Fr h₀ L h' m → News h₀ L h' ((S.took us n (if c = 10 then S.lno + 1 else S.lno) t1).led ++ rest) → Txt (S.took us n (if c = 10 then S.lno + 1 else S.lno) t1) r →
      Q (some (.str ⟨#[c]⟩ u)) { s with heap := h', toks := tk' }) :
    wpAny (model PG w) (ktrTop dp un gd cn cs L a ccd cl outer) (pyNext (.ref I)) Q E s := by
  refine ci_next (m := m) rfl N (R.sub.1 _ hI) (R.sub.1 _ hq) (F.keep _ _ hf) ?_
  refine codeAny_mono (use_code (un := un + 1) (Q := fun v s' => CiBack h₀ L I q m (PySem.Str.ofString "") t Q v s') (E := fun _ _ => False) (read_txt w S ok c r ht hl) B F X N hin rfl R T H hk hd hu ?_) fun rr s' hr => ?_
  · rintro v h' tk' nx F' N' ⟨⟨u, rfl⟩, us, n, t1, rfl, ht'⟩
    refine ⟨_, _, _, rfl, F', N', List.mem_append_right _ hI, ⟨_, _, List.mem_append_right _ hq, _, _, _, _, F'.keep _ _ hf⟩, fun _ => ret h' tk' u us n t1 F' N' ht', fun e => ?_⟩
    exfalso
    have := congrArg (fun x : PySem.Str => x.cps.size) e
    exact absurd (this.trans (show (PySem.Str.ofString "").cps.size = 0 from by decide +kernel)) (by simp)
  · cases rr with
    | ok fl => cases fl <;> exact hr
    | error e => exact hr
/-- the text's end by iter(line._read_char, '') -/
theorem next_end {S : Lex} {news rest rest' : List (Addr × Obj)} {I q : Nat} {t : Tok} {oc : Value} {od : Option Addr} {fd : FuncData} {sl : Array (Option Value)}
    (B : Below A₀ base outer h₀) (F : Fr h₀ L s.heap m) (X : (KF w).In h₀) (N : News h₀ L s.heap news) (T : Top p loose mean mg mb h₀) (H : CodeHd base 107 103) (hk : cs.kind = .function) (hd : dp ≤ 390) (hu : un + 1 ≤ 390)
    (hf : h₀.get? 35 = some ⟨oc, od, .func fd, sl⟩) (ok : S.Ok w) (ht : Txt S []) (hin : ∀ q ∈ S.led, q ∈ news) (R : Rest [S.pb, S.ln, S.ld, S.f, S.cc, S.st, S.sd, S.sg, S.C] news rest)
    (U : Upd I (ciObj q (PySem.Str.ofString "") t false) ciEnd rest rest') (hq : (q, methodObj (.ref 35) (.ref S.ln)) ∈ rest)
    (ret : ∀ h' tk', Fr h₀ L h' m → News h₀ L h' (S.led ++ rest') → Q none { s with heap := h', toks := tk' }) :
    wpAny (model PG w) (ktrTop dp un gd cn cs L a ccd cl outer) (pyNext (.ref I)) Q E s := by
  obtain ⟨pre, post, rfl, rfl, ha, hb⟩ := U.split
  have hI : (I, ciObj q (PySem.Str.ofString "") t false) ∈ pre ++ (I, ciObj q (PySem.Str.ofString "") t false) :: post := by simp
  have hoff : ∀ e ∈ S.led, e.1 ≠ I := fun e he q9 => R.sub.2 _ hI e.1 (by
    simp only [Lex.led, List.mem_cons, List.not_mem_nil, or_false] at he
    rcases he with rfl | rfl | rfl | rfl | rfl | rfl | rfl | rfl | rfl <;> simp) q9.symm
  refine ci_next (m := m) rfl N (R.sub.1 _ hI) (R.sub.1 _ hq) (F.keep _ _ hf) ?_
  refine codeAny_mono (use_code (un := un + 1) (Q := fun v s' => CiBack h₀ L I q m (PySem.Str.ofString "") t Q v s') (E := fun _ _ => False) (read_none w S ok ht.nil) B F X N hin rfl R T H hk hd hu ?_) fun rr s' hr => ?_
  · rintro v h' tk' nx F' N' ⟨⟨u, rfl⟩, rfl⟩
    refine ⟨_, _, _, rfl, F', N', List.mem_append_right _ hI, ⟨_, _, List.mem_append_right _ hq, _, _, _, _, F'.keep _ _ hf⟩, fun e => absurd rfl e, fun _ => ⟨S.led ++ (pre ++ (I, ciEnd) :: post), ?_, fun h2 tk2 F2 N2 => ?_⟩⟩
    · rw [← List.append_assoc, ← List.append_assoc]
      exact upd_mid hb (fun e he => (List.mem_append.mp he).elim (hoff e) (ha e))
    · exact ret h2 tk2 F2 N2
  · cases rr with
    | ok fl => cases fl <;> exact hr
    | error e => exact hr
end
end
local macro_rules | `(tactic| walk_at "exec For Name Name cons nil") => `(tactic| (k_here; k_dflt (refine for_start ?_)))
section
open PySem PySem.W PyProof.Rows PySem.Calls
local macro_rules | `(tactic| walk_at "truthy ref") => `(tactic| (k_here; (with_reducible show wpAny _ _ (truthy (Value.ref _)) _ _ _); k_dflt (refine' truthy_led ?N ?m ?z ?b ?_; (case N => k_asm); (case m => k_mem); (case b => first | assumption | exact some_app _ _ | exact rfl); (case z => first | assumption | (simp only [List.length_append, List.length_cons, List.length_nil] at *; omega))); intro tk'))
local macro_rules | `(tactic| walk_at "call builtin:iter") => `(tactic| (k_here; k_dflt (refine' iter_sentinel ?F ?N ?q ?_; (case F => k_asm); (case N => k_asm); (case q => k_mem)); intro I' h' F' N' l1; (try k_lt l1); (try k_sweep)))
local macro_rules | `(tactic| walk_at "pyIter ref") => `(tactic| (k_here; k_dflt (refine' ci_iter ?N ?m ?c ?_; (case N => k_asm); (case m => k_mem); (case c => exact rfl))))
local macro_rules | `(tactic| walk_at "compareOp In str str") => `(tactic| (k_here; k_dflt (refine' in_ws ?hb ?_; (case hb => first | assumption | exact (show _ = false from by decide +kernel) | exact (show _ = true from by decide +kernel)))))
local macro_rules | `(tactic| walk_at "compareOp Eq str str") => `(tactic| (k_here; k_dflt (refine' eq_sign ?hb ?_; (case hb => first | assumption | exact (show _ = false from by decide +kernel) | exact (show _ = true from by decide +kernel)))))
local macro_rules | `(tactic| walk_at "inplaceOp Add str str") => `(tactic| (k_here; k_dflt (refine' cat_sign ?hl ?_; (case hl => assumption)); intro t' tk'))
local macro_rules | `(tactic| walk_at "ForFlow") => `(tactic| (dsimp only [ForFlow]))
section
local macro_rules | `(tactic| walk_at "pad pad") => `(tactic| fail)
open PySem PySem.W PyProof.Rows PySem.Calls
/-- within a quoted token -/
inductive QInv (d : Nat) (S : Lex) (W rest : List Nat) (oth : List (Addr × Obj)) (g : Heap) (L : Addr) (I q : Nat) (t0 : Tok) (s : Shared) (c : List Nat × List Nat) (s' : Shared) : Prop
  | mk (u : PySem.Str → Option Value) (t : Tok) (us : List Value) (n : Nat) (t1 : Tok) (h : Heap) (tk : Nat) (h0 : s' = { s with heap := h, toks := tk }) (h1 : Fr g L h (kstB u [(PySem.Str.ofString "token", .str ⟨c.2.toArray⟩ t), (PySem.Str.ofString "fiter", .ref I), (PySem.Str.ofString "self", .ref S.ln)])) (h2 : News g L h ((S.took us n S.lno t1).led ++ (I, ciObj q (PySem.Str.ofString "") t0 false) :: (q, methodObj (.ref 35) (.ref S.ln)) :: oth)) (h3 : Txt (S.took us n S.lno t1) (c.1 ++ d :: rest)) (h4 : c.2 ++ c.1 = W) : QInv d S W rest oth g L I q t0 s c s'
set_option maxHeartbeats 4000000 in
theorem get_quoted (w : World) (S : Lex) (ok : S.Ok w) (W rest : List Nat) (hp : S.pbv = []) (ht : Txt S (34 :: (W ++ 34 :: rest))) (hW : ∀ c ∈ W, c ≠ 34 ∧ c ≠ 92 ∧ c ≠ 10) (hl : W.length + rest.length ≤ 3900) :
    Con w 370 42 [.ref S.ln] S.led (fun v nx => (∃ t, v = .str ⟨W.toArray⟩ t) ∧ ∃ us n t1, nx = (S.took us n S.lno t1).led ∧ Txt (S.took us n S.lno t1) rest) := by
  unfold Con KF PG
  k_fill
  intro p loose mean mg mb dp un gd cn cs a ccd cl outer A₀ base h₀ L m oth s Q E B F X N O T CH hk hdp hun hret
  have nd := ok.nd
  have hb9 : (!S.pbv.isEmpty) = false := by rw [hp]; rfl
  have hz9 : S.pbv.length ≤ 1048576 := by rw [hp]; exact Nat.zero_le _
  dsimp only [Lex.led, List.cons_append, List.nil_append] at N
  simp only [List.map_cons, List.map_nil] at O
  k_dflt k_enter
  k_steps
  -- the outer loop's one turn
  refine for_turn (by passes_own) ?_
  refine' next_sign ?g1 ?g2 ?g3 ?g4 ?g5 ?g6 ?g7 ?g8 ?g9 ?g10 ok ht ?g11 ?g12 ?g13 ?g14 ?g15 ?_
  case g1 => k_asm
  case g2 => k_asm
  case g3 => k_asm
  case g4 => k_asm
  case g5 => k_asm
  case g6 => k_asm
  case g7 => exact rfl
  case g8 => (simp only [depth_deeper]; omega)
  case g9 => (simp only [units_deeper]; omega)
  case g10 => exact (show Frag.In _ _ from by k_asm) _ _ (by k_dflt k_is)
  case g11 => (simp only [List.length_append, List.length_cons]; omega)
  case g12 => k_allIn
  case g13 => k_ownIn
  case g14 => k_dflt k_mem
  case g15 => k_dflt k_mem
  intro h9 tk9 u us n t1 F9 N9 ht9
  rw [if_neg (by decide)] at N9 ht9
  dsimp only [ForTurn]
  simp only [List.cons_append, List.nil_append] at N9
  k_steps
  rename Fr _ _ _ _ => F1
  rename News _ _ _ _ => N1
  refine for_ind (r := fun a b : List Nat × List Nat => a.1.length < b.1.length) (QInv 34 S W rest oth _ _ _ _ _ s) (W, []) ((measure fun c : List Nat × List Nat => c.1.length).wf.apply _)
    ⟨_, _, us, n, t1, _, _, rfl, fr_ps F1 (by k_dflt (repeat (first | exact List.forall_mem_nil _ | refine all_p rfl ?_))),
      cb_drop N1 (List.forall_mem_append.mpr ⟨by k_allIn, List.forall_mem_cons.mpr ⟨by k_dflt k_mem, List.forall_mem_cons.mpr ⟨by k_dflt k_mem, fun q hq => by (repeat (first | exact hq | apply List.mem_cons_of_mem))⟩⟩⟩), ht9, rfl⟩ (by passes_own) ?turn
  case turn =>
    clear F1 N1
    rintro ⟨rem, acc⟩ s1 IH ⟨u2, t2, us2, n2, t12, h2, tk2, rfl, F2, N2, ht2, hac⟩
    dsimp only [Lex.led, List.cons_append, List.nil_append] at N2
    dsimp only at F2 ht2 hac IH
    cases rem with
    | nil =>
      refine' next_sign ?gn1 ?gn2 ?gn3 ?gn4 ?gn5 ?gn6 ?gn7 ?gn8 ?gn9 ?gn10 (ok.took us2 n2 S.lno t12) ht2 ?gn11 ?gn12 ?gn13 ?gn14 ?gn15 ?_
      case gn1 => k_asm
      case gn2 => k_asm
      case gn3 => k_asm
      case gn4 => k_asm
      case gn5 => k_asm
      case gn6 => k_asm
      case gn7 => exact rfl
      case gn8 => (simp only [depth_deeper]; omega)
      case gn9 => (simp only [units_deeper]; omega)
      case gn10 => exact (show Frag.In _ _ from by k_asm) _ _ (by k_dflt k_is)
      case gn11 => omega
      case gn12 => k_allIn
      case gn13 => k_ownIn
      case gn14 => k_dflt k_mem
      case gn15 => k_dflt k_mem
      intro h9 tk9 u9 us9 n9 t19 F9 N9 htB
      rw [if_neg (by decide)] at N9 htB
      dsimp only [ForTurn]
      simp only [List.cons_append, List.nil_append] at N9
      k_steps
      rename News _ _ _ _ => kN
      rw [List.append_nil] at hac
      subst hac
      exact hret _ _ _ _ (by k_asm) (cb_drop kN (List.forall_mem_append.mpr ⟨by k_allIn, fun q hq => by (repeat (first | exact hq | apply List.mem_cons_of_mem))⟩)) ⟨⟨_, rfl⟩, us9, n9, t19, rfl, htB⟩
    | cons c rem =>
      refine' next_sign ?gc1 ?gc2 ?gc3 ?gc4 ?gc5 ?gc6 ?gc7 ?gc8 ?gc9 ?gc10 (ok.took us2 n2 S.lno t12) ht2 ?gc11 ?gc12 ?gc13 ?gc14 ?gc15 ?_
      case gc1 => k_asm
      case gc2 => k_asm
      case gc3 => k_asm
      case gc4 => k_asm
      case gc5 => k_asm
      case gc6 => k_asm
      case gc7 => exact rfl
      case gc8 => (simp only [depth_deeper]; omega)
      case gc9 => (simp only [units_deeper]; omega)
      case gc10 => exact (show Frag.In _ _ from by k_asm) _ _ (by k_dflt k_is)
      case gc11 => show (rem ++ 34 :: rest).length ≤ 4000; simp only [List.length_append, List.length_cons]; (have hac9 := congrArg List.length hac; simp only [List.length_append, List.length_cons, List.length_nil] at hac9; omega)
      case gc12 => k_allIn
      case gc13 => k_ownIn
      case gc14 => k_dflt k_mem
      case gc15 => k_dflt k_mem
      have hc0 : c ≠ 10 := (hW c (by rw [← hac]; simp)).2.2
      intro h9 tk9 u9 us9 n9 t19 F9 N9 htB
      rw [if_neg hc0] at N9 htB
      dsimp only [ForTurn]
      simp only [List.cons_append, List.nil_append] at N9
      obtain ⟨hc1, hc2, hc3⟩ := hW c (by rw [← hac]; simp)
      have hq1 : ((⟨#[c]⟩ : PySem.Str) == PySem.Str.ofString "\"") = false := by rw [is_quote]; simp [hc1]
      have hq2 : ((⟨#[c]⟩ : PySem.Str) == PySem.Str.ofString "\\") = false := by rw [is_back]; simp [hc2]
      have hal : acc.length ≤ 4096 := by
        have := congrArg List.length hac
        simp only [List.length_append, List.length_cons] at this
        omega
      k_steps
      rename Fr _ _ _ _ => F3
      rename News _ _ _ _ => N3
      exact IH (rem, acc ++ [c]) _ (by simp) ⟨_, _, us9, n9, t19, _, _, rfl, fr_ps F3 (by k_dflt (repeat (first | exact List.forall_mem_nil _ | refine all_p rfl ?_))),
        cb_drop N3 (List.forall_mem_append.mpr ⟨by k_allIn, List.forall_mem_cons.mpr ⟨by k_dflt k_mem, List.forall_mem_cons.mpr ⟨by k_dflt k_mem, fun q hq => by (repeat (first | exact hq | apply List.mem_cons_of_mem))⟩⟩⟩), htB, by simpa using hac⟩
end
section
open PySem PySem.W PyProof.Rows PySem.Calls
set_option maxHeartbeats 4000000 in
theorem get_bare (w : World) (S : Lex) (ok : S.Ok w) (c0 : Nat) (W rest : List Nat) (hp : S.pbv = []) (ht : Txt S (c0 :: (W ++ 10 :: rest))) (h01 : isWs c0 = false) (h02 : c0 ≠ 34) (h03 : c0 ≠ 92) (hW : ∀ c ∈ W, isWs c = false ∧ c ≠ 92) (hl : W.length + rest.length ≤ 3900) :
    Con w 370 42 [.ref S.ln] S.led (fun v nx => (∃ t, v = .str ⟨(c0 :: W).toArray⟩ t) ∧ ∃ us n t1, nx = (S.took us n (S.lno + 1) t1).led ∧ Txt (S.took us n (S.lno + 1) t1) rest) := by
  unfold Con KF PG
  k_fill
  intro p loose mean mg mb dp un gd cn cs a ccd cl outer A₀ base h₀ L m oth s Q E B F X N O T CH hk hdp hun hret
  have nd := ok.nd
  have hb9 : (!S.pbv.isEmpty) = false := by rw [hp]; rfl
  have hz9 : S.pbv.length ≤ 1048576 := by rw [hp]; exact Nat.zero_le _
  dsimp only [Lex.led, List.cons_append, List.nil_append] at N
  simp only [List.map_cons, List.map_nil] at O
  k_dflt k_enter
  k_steps
  -- the outer loop's one turn
  refine for_turn (by passes_own) ?_
  refine' next_sign ?g1 ?g2 ?g3 ?g4 ?g5 ?g6 ?g7 ?g8 ?g9 ?g10 ok ht ?g11 ?g12 ?g13 ?g14 ?g15 ?_
  case g1 => k_asm
  case g2 => k_asm
  case g3 => k_asm
  case g4 => k_asm
  case g5 => k_asm
  case g6 => k_asm
  case g7 => exact rfl
  case g8 => (simp only [depth_deeper]; omega)
  case g9 => (simp only [units_deeper]; omega)
  case g10 => exact (show Frag.In _ _ from by k_asm) _ _ (by k_dflt k_is)
  case g11 => (simp only [List.length_append, List.length_cons]; omega)
  case g12 => k_allIn
  case g13 => k_ownIn
  case g14 => k_dflt k_mem
  case g15 => k_dflt k_mem
  have ws10 : ∀ {c : Nat}, isWs c = false → c ≠ 10 := fun h e => by subst e; exact absurd h (by decide)
  intro h9 tk9 u us n t1 F9 N9 ht9
  rw [if_neg (ws10 h01)] at N9 ht9
  have hq01 : ((⟨#[c0]⟩ : PySem.Str) == PySem.Str.ofString "\"") = false := by rw [is_quote]; simp [h02]
  have hq02 : ((⟨#[c0]⟩ : PySem.Str) == PySem.Str.ofString "\\") = false := by rw [is_back]; simp [h03]
  have hal0 : ([] : List Nat).length ≤ 4096 := by decide
  dsimp only [ForTurn]
  simp only [List.cons_append, List.nil_append] at N9
  k_steps
  rename Fr _ _ _ _ => F1
  rename News _ _ _ _ => N1
  refine for_ind (r := fun a b : List Nat × List Nat => a.1.length < b.1.length) (QInv 10 S (c0 :: W) rest oth _ _ _ _ _ s) (W, [c0]) ((measure fun c : List Nat × List Nat => c.1.length).wf.apply _)
    ⟨_, _, us, n, t1, _, _, rfl, fr_ps F1 (by k_dflt (repeat (first | exact List.forall_mem_nil _ | refine all_p rfl ?_))),
      cb_drop N1 (List.forall_mem_append.mpr ⟨by k_allIn, List.forall_mem_cons.mpr ⟨by k_dflt k_mem, List.forall_mem_cons.mpr ⟨by k_dflt k_mem, fun q hq => by (repeat (first | exact hq | apply List.mem_cons_of_mem))⟩⟩⟩), ht9, rfl⟩ (by passes_own) ?turn
  case turn =>
    clear F1 N1
    rintro ⟨rem, acc⟩ s1 IH ⟨u2, t2, us2, n2, t12, h2, tk2, rfl, F2, N2, ht2, hac⟩
    dsimp only [Lex.led, List.cons_append, List.nil_append] at N2
    dsimp only at F2 ht2 hac IH
    have hmem : ∀ c ∈ rem, isWs c = false ∧ c ≠ 92 := fun c hc => by
      have h9 : c ∈ c0 :: W := by rw [← hac]; simp [hc]
      rcases List.mem_cons.mp h9 with rfl | h9
      · exact ⟨h01, h03⟩
      · exact hW c h9
    cases rem with
    | nil =>
      refine' next_sign ?gn1 ?gn2 ?gn3 ?gn4 ?gn5 ?gn6 ?gn7 ?gn8 ?gn9 ?gn10 (ok.took us2 n2 S.lno t12) ht2 ?gn11 ?gn12 ?gn13 ?gn14 ?gn15 ?_
      case gn1 => k_asm
      case gn2 => k_asm
      case gn3 => k_asm
      case gn4 => k_asm
      case gn5 => k_asm
      case gn6 => k_asm
      case gn7 => exact rfl
      case gn8 => (simp only [depth_deeper]; omega)
      case gn9 => (simp only [units_deeper]; omega)
      case gn10 => exact (show Frag.In _ _ from by k_asm) _ _ (by k_dflt k_is)
      case gn11 => omega
      case gn12 => k_allIn
      case gn13 => k_ownIn
      case gn14 => k_dflt k_mem
      case gn15 => k_dflt k_mem
      intro h9 tk9 u9 us9 n9 t19 F9 N9 htB
      rw [if_pos rfl] at N9 htB
      dsimp only [ForTurn]
      simp only [List.cons_append, List.nil_append] at N9
      k_steps
      rename News _ _ _ _ => kN
      rw [List.append_nil] at hac
      subst hac
      exact hret _ _ _ _ (by k_asm) (cb_drop kN (List.forall_mem_append.mpr ⟨by k_allIn, fun q hq => by (repeat (first | exact hq | apply List.mem_cons_of_mem))⟩)) ⟨⟨_, rfl⟩, us9, n9, t19, rfl, htB⟩
    | cons c rem =>
      have hWc : isWs c = false ∧ c ≠ 92 := hmem c (by simp)
      refine' next_sign ?gc1 ?gc2 ?gc3 ?gc4 ?gc5 ?gc6 ?gc7 ?gc8 ?gc9 ?gc10 (ok.took us2 n2 S.lno t12) ht2 ?gc11 ?gc12 ?gc13 ?gc14 ?gc15 ?_
      case gc1 => k_asm
      case gc2 => k_asm
      case gc3 => k_asm
      case gc4 => k_asm
      case gc5 => k_asm
      case gc6 => k_asm
      case gc7 => exact rfl
      case gc8 => (simp only [depth_deeper]; omega)
      case gc9 => (simp only [units_deeper]; omega)
      case gc10 => exact (show Frag.In _ _ from by k_asm) _ _ (by k_dflt k_is)
      case gc11 => show (rem ++ 10 :: rest).length ≤ 4000; simp only [List.length_append, List.length_cons]; (have hac9 := congrArg List.length hac; simp only [List.length_append, List.length_cons, List.length_nil] at hac9; omega)
      case gc12 => k_allIn
      case gc13 => k_ownIn
      case gc14 => k_dflt k_mem
      case gc15 => k_dflt k_mem
      have hc0 : c ≠ 10 := ws10 hWc.1
      intro h9 tk9 u9 us9 n9 t19 F9 N9 htB
      rw [if_neg hc0] at N9 htB
      dsimp only [ForTurn]
      simp only [List.cons_append, List.nil_append] at N9
      obtain ⟨hc1, hc2⟩ := hWc
      have hq2 : ((⟨#[c]⟩ : PySem.Str) == PySem.Str.ofString "\\") = false := by rw [is_back]; simp [hc2]
      have hal : acc.length ≤ 4096 := by
        have := congrArg List.length hac
        simp only [List.length_append, List.length_cons] at this
        omega
      k_steps
      rename Fr _ _ _ _ => F3
      rename News _ _ _ _ => N3
      exact IH (rem, acc ++ [c]) _ (by simp) ⟨_, _, us9, n9, t19, _, _, rfl, fr_ps F3 (by k_dflt (repeat (first | exact List.forall_mem_nil _ | refine all_p rfl ?_))),
        cb_drop N3 (List.forall_mem_append.mpr ⟨by k_allIn, List.forall_mem_cons.mpr ⟨by k_dflt k_mem, List.forall_mem_cons.mpr ⟨by k_dflt k_mem, fun q hq => by (repeat (first | exact hq | apply List.mem_cons_of_mem))⟩⟩⟩), htB, by simpa using hac⟩
end
section
local macro_rules | `(tactic| walk_at "pad pad") => `(tactic| fail)
open PySem PySem.W PyProof.Rows PySem.Calls
set_option maxHeartbeats 4000000 in
theorem get_end (w : World) (S : Lex) (ok : S.Ok w) (hp : S.pbv = []) (ht : Txt S []) :
    Con w 370 42 [.ref S.ln] S.led (fun v nx => (∃ t, v = .str (PySem.Str.ofString "") t) ∧ nx = S.led) := by
  unfold Con KF PG
  k_fill
  intro p loose mean mg mb dp un gd cn cs a ccd cl outer A₀ base h₀ L m oth s Q E B F X N O T CH hk hdp hun hret
  have nd := ok.nd
  have hb9 : (!S.pbv.isEmpty) = false := by rw [hp]; rfl
  have hz9 : S.pbv.length ≤ 1048576 := by rw [hp]; exact Nat.zero_le _
  dsimp only [Lex.led, List.cons_append, List.nil_append] at N
  simp only [List.map_cons, List.map_nil] at O
  k_dflt k_enter
  k_steps
  refine for_turn (by passes_own) ?_
  refine' next_end ?g1 ?g2 ?g3 ?g4 ?g5 ?g6 ?g7 ?g8 ?g9 ?g10 ok ht ?g12 ?g13 ?g14 ?g15 ?_
  case g1 => k_asm
  case g2 => k_asm
  case g3 => k_asm
  case g4 => k_asm
  case g5 => k_asm
  case g6 => k_asm
  case g7 => exact rfl
  case g8 => (simp only [depth_deeper]; omega)
  case g9 => (simp only [units_deeper]; omega)
  case g10 => exact (show Frag.In _ _ from by k_asm) _ _ (by k_dflt k_is)
  case g12 => k_allIn
  case g13 => k_ownIn
  case g14 => k_dflt k_upd
  case g15 => k_dflt k_mem
  intro h9 tk9 F9 N9
  dsimp only [ForTurn]
  simp only [List.cons_append, List.nil_append] at N9
  k_steps
  rename News _ _ _ _ => kN
  exact hret _ _ _ _ (by k_asm) (cb_drop kN (List.forall_mem_append.mpr ⟨by k_allIn, fun q hq => by (repeat (first | exact hq | apply List.mem_cons_of_mem))⟩)) ⟨⟨_, rfl⟩, rfl⟩
/-- the line with something pushed, or taken from what was pushed -/
abbrev Lex.push (S : Lex) (vs : List Value) (n : Nat) : Lex := { S with pbv := vs, pbn := n }
local macro_rules | `(tactic| walk_at "call builtin:list.pop") => `(tactic| (k_here; (with_reducible show wpAny _ _ (call (Value.builtin _) [Value.ref _, Value.int _ _]) _ _ _); k_dflt (refine' kl_popAt (k := 0) (its := List.toArray (_ :: _)) ?F ?N ?f ?k ?e ?U ?z ?_; (case F => k_asm); (case N => k_asm); (case f => exact rfl); (case k => (with_unfolding_all simp [seqIndex?])); (case e => exact rfl); (case U => k_upd); (case z => (simp only [List.length_cons, sizeLine_eq] at *; omega))); intro h' F' N'; (try k_sweep)))
set_option maxHeartbeats 4000000 in
theorem get_push (w : World) (S : Lex) (ok : S.Ok w) (y : Value) (r : List Value) (hp : S.pbv = y :: r) (hz : r.length ≤ 4000) :
    Con w 370 42 [.ref S.ln] S.led (fun v nx => v = y ∧ nx = (S.push r (S.pbn + 1)).led) := by
  unfold Con KF PG
  k_fill
  intro p loose mean mg mb dp un gd cn cs a ccd cl outer A₀ base h₀ L m oth s Q E B F X N O T CH hk hdp hun hret
  have nd := ok.nd
  have hb9 : (!(y :: r).isEmpty) = true := rfl
  have hz9 : (y :: r).length ≤ 1048576 := by rw [List.length_cons]; omega
  simp only [Lex.led, hp, List.cons_append, List.nil_append] at N
  simp only [List.map_cons, List.map_nil] at O
  k_dflt k_enter
  k_steps
  rename News _ _ _ _ => kN
  exact hret _ _ _ _ (by k_asm) (cb_drop kN (List.forall_mem_append.mpr ⟨by k_allIn, fun q hq => by (repeat (first | exact hq | apply List.mem_cons_of_mem))⟩)) ⟨rfl, rfl⟩
theorem append_led {prog : Program} {w : World} {A : Around} {E : Value → Shared → Prop} {s : Shared} {h₀ : Heap} {L D : Addr} {m : Str → Option Value} {news news' : List (Addr × Obj)} {vs : List Value} {n : Nat} {x : Value} {Q : Value → Shared → Prop}
    (F : Fr h₀ L s.heap m) (N : News h₀ L s.heap news) (U : Upd D (listOf vs.toArray n) (listOf (vs ++ [x]).toArray (n + 1)) news news') (hz : vs.length ≤ 1048576)
    (h : ∀ h', Fr h₀ L h' m → News h₀ L h' news' → Q .none { s with heap := h' }) : wpAny (model prog w) A (call (.builtin "list.append") [.ref D, x]) Q E s :=
  append_K F N (by rw [List.push_toArray]; exact U) h (by rw [List.size_toArray, sizeLine_eq]; omega)
local macro_rules | `(tactic| walk_at "call builtin:list.append") => `(tactic| (k_here; (with_reducible show wpAny _ _ (call (Value.builtin _) [Value.ref _, _]) _ _ _); k_dflt (refine' append_led ?F ?N ?U ?z ?_; (case F => k_asm); (case N => k_asm); (case U => k_upd); (case z => first | assumption | omega)); intro h' F' N'; (try k_sweep)))
set_option maxHeartbeats 4000000 in
theorem push_con (w : World) (S : Lex) (ok : S.Ok w) (x : Value) (hz : S.pbv.length ≤ 4000) :
    Con w 370 49 [.ref S.ln, x] S.led (fun v nx => v = .none ∧ nx = (S.push (S.pbv ++ [x]) (S.pbn + 1)).led) := by
  unfold Con KF PG
  k_fill
  intro p loose mean mg mb dp un gd cn cs a ccd cl outer A₀ base h₀ L m oth s Q E B F X N O T CH hk hdp hun hret
  have nd := ok.nd
  dsimp only [Lex.led, List.cons_append, List.nil_append] at N
  simp only [List.map_cons, List.map_nil] at O
  k_dflt k_enter
  k_steps
  rename News _ _ _ _ => kN
  exact hret _ _ _ _ (by k_asm) (cb_drop kN (List.forall_mem_append.mpr ⟨by k_allIn, fun q hq => by (repeat (first | exact hq | apply List.mem_cons_of_mem))⟩)) ⟨rfl, rfl⟩
end
end
section
open PySem PySem.W PyProof.Rows PySem.Calls
/-- the four words of a hand -/
structure GoodW (W : Lt → PySem.Str) : Prop where
  ne : ∀ l, (W l).cps.toList ≠ []
  ok : ∀ l c, c ∈ (W l).cps.toList → isWs c = false ∧ c ≠ 34 ∧ c ≠ 92
  inj : ∀ l k, W l = W k → l = k
  len : ∀ l, (W l).cps.toList.length ≤ 8
/-- how one letter stands in the text: in quotation marks, or bare with a line feed behind -/
def enc (W : Lt → PySem.Str) (p : Lt × Bool) : List Nat := if p.2 then 34 :: ((W p.1).cps.toList ++ [34]) else (W p.1).cps.toList ++ [10]
def encs (W : Lt → PySem.Str) (tx : List (Lt × Bool)) : List Nat := tx.flatMap (enc W)
theorem encs_len {W : Lt → PySem.Str} (g : GoodW W) : ∀ tx, (encs W tx).length ≤ 10 * tx.length
  | [] => Nat.le_refl _
  | p :: r => by
    have ih := encs_len g r
    have hl := g.len p.1
    have e1 : (enc W p).length ≤ 10 := by
      unfold enc
      split <;> simp only [List.length_append, List.length_cons, List.length_nil] <;> omega
    unfold encs at *
    rw [List.flatMap_cons, List.length_append, List.length_cons]
    omega
/-- the line at a state: what was pushed, what is still to be read -/
structure LS (W : Lt → PySem.Str) (S : Lex) (pb : List Lt) (tx : List (Lt × Bool)) : Prop where
  pb : StrsAre S.pbv (pb.map W)
  txt : Txt S (encs W tx)
abbrev Lex.upd (S : Lex) (pbv : List Value) (pbn : Nat) (sgv : List Value) (sgn : Nat) (lno : Int) (t1 : Tok) : Lex := { S with pbv := pbv, pbn := pbn, sgv := sgv, sgn := sgn, lno := lno, t1 := t1 }
theorem Lex.Ok.upd {w : World} {S : Lex} (ok : S.Ok w) (pbv : List Value) (pbn : Nat) (sgv : List Value) (sgn : Nat) (lno : Int) (t1 : Tok) : (S.upd pbv pbn sgv sgn lno t1).Ok w := ⟨ok.piece, ok.cell, ok.nd⟩
/-- the word of what get_token gives -/
def wordOf (W : Lt → PySem.Str) : Option Lt → PySem.Str
  | some l => W l
  | none => PySem.Str.ofString ""
/-- one get_token: what it gives, what is left, how many line feeds it read -/
inductive Nx : List Lt → List (Lt × Bool) → Option Lt → List Lt → List (Lt × Bool) → Int → Prop
  | push (l : Lt) (pb : List Lt) (tx : List (Lt × Bool)) : Nx (l :: pb) tx (some l) pb tx 0
  | read (l : Lt) (q : Bool) (tx : List (Lt × Bool)) : Nx [] ((l, q) :: tx) (some l) [] tx (if q then 0 else 1)
  | last : Nx [] [] none [] [] 0
theorem strs_nil {vs : List Value} (h : StrsAre vs []) : vs = [] := by cases h; rfl
theorem strs_cons {vs : List Value} {x : PySem.Str} {r : List PySem.Str} (h : StrsAre vs (x :: r)) : ∃ t vs', vs = .str x t :: vs' ∧ StrsAre vs' r := by
  cases h with
  | cons x t h => exact ⟨t, _, rfl, h⟩
theorem str_of (x : PySem.Str) : (⟨x.cps.toList.toArray⟩ : PySem.Str) = x := by cases x; simp

/-- what get_token gives -/
inductive TokPost (W : Lt → PySem.Str) (S : Lex) (pb : List Lt) (tx : List (Lt × Bool)) (v : Value) (nx : List (Addr × Obj)) : Prop
  | mk (o : Option Lt) (pb' : List Lt) (tx' : List (Lt × Bool)) (k : Int) (pbv : List Value) (pbn : Nat) (sgv : List Value) (sgn : Nat) (t1 : Tok) (h0 : Nx pb tx o pb' tx' k) (h1 : ∃ t, v = .str (wordOf W o) t) (h2 : nx = (S.upd pbv pbn sgv sgn (S.lno + k) t1).led) (h3 : LS W (S.upd pbv pbn sgv sgn (S.lno + k) t1) pb' tx') : TokPost W S pb tx v nx
theorem get_tok {w : World} {W : Lt → PySem.Str} (g : GoodW W) (S : Lex) (ok : S.Ok w) (pb : List Lt) (tx : List (Lt × Bool)) (hS : LS W S pb tx) (hn : pb.length ≤ 300) (hm : tx.length ≤ 300) :
    Con w 370 42 [.ref S.ln] S.led (TokPost W S pb tx) := by
  have mono : ∀ {post post' : Value → List (Addr × Obj) → Prop}, (∀ v nx, post v nx → post' v nx) → Con w 370 42 [.ref S.ln] S.led post → Con w 370 42 [.ref S.ln] S.led post' := by
    intro post post' h C p loose mean mg mb dp un gd cn cs a ccd cl outer A₀ base h₀ L m oth s Q E B F X N O T CH hk hdp hun hret
    exact C p loose mean mg mb dp un gd cn cs a ccd cl outer A₀ base h₀ L m oth s Q E B F X N O T CH hk hdp hun fun v h' tk' nx F' N' hp => hret v h' tk' nx F' N' (h v nx hp)
  cases pb with
  | cons l pb =>
    obtain ⟨t, vs', e, h'⟩ := strs_cons hS.pb
    refine mono ?_ (get_push w S ok _ _ e (by have := StrsAre.len_eq h'; rw [List.length_map] at this; simp at hn; omega))
    rintro v nx ⟨rfl, rfl⟩
    exact ⟨_, _, _, _, _, _, _, _, _, .push l pb tx, ⟨t, rfl⟩, by rw [Int.add_zero], by rw [Int.add_zero]; exact ⟨h', hS.txt⟩⟩
  | nil =>
    have hp : S.pbv = [] := strs_nil hS.pb
    cases tx with
    | nil =>
      refine mono ?_ (get_end w S ok hp hS.txt)
      rintro v nx ⟨⟨t, rfl⟩, rfl⟩
      exact ⟨_, _, _, _, S.pbv, S.pbn, S.sgv, S.sgn, S.t1, .last, ⟨t, rfl⟩, by rw [Int.add_zero], by rw [Int.add_zero]; exact ⟨hS.pb, hS.txt⟩⟩
    | cons lq tx =>
      obtain ⟨l, q⟩ := lq
      have hlen := encs_len g tx
      have hwl := g.len l
      simp only [List.length_cons] at hm
      cases q with
      | true =>
        have e : encs W ((l, true) :: tx) = 34 :: ((W l).cps.toList ++ 34 :: encs W tx) := by simp [encs, enc]
        have ht := hS.txt
        rw [e] at ht
        refine mono ?_ (get_quoted w S ok _ _ hp ht (fun c hc => ⟨(g.ok l c hc).2.1, (g.ok l c hc).2.2, fun h => by have := (g.ok l c hc).1; subst h; exact absurd this (by decide)⟩) (by omega))
        rintro v nx ⟨⟨t, rfl⟩, us, n, t1, rfl, ht'⟩
        exact ⟨_, _, _, _, S.pbv, S.pbn, us, n, t1, .read l true tx, ⟨t, by rw [str_of]; rfl⟩, by simp, by simpa using ⟨hS.pb, ht'⟩⟩
      | false =>
        obtain ⟨c0, W', ew⟩ := List.exists_cons_of_ne_nil (g.ne l)
        have e : encs W ((l, false) :: tx) = c0 :: (W' ++ 10 :: encs W tx) := by simp [encs, enc, ew]
        have ht := hS.txt
        rw [e] at ht
        have hk : ∀ c ∈ c0 :: W', isWs c = false ∧ c ≠ 34 ∧ c ≠ 92 := fun c hc => g.ok l c (by rw [ew]; exact hc)
        refine mono ?_ (get_bare w S ok c0 W' _ hp ht (hk c0 (by simp)).1 (hk c0 (by simp)).2.1 (hk c0 (by simp)).2.2 (fun c hc => ⟨(hk c (by simp [hc])).1, (hk c (by simp [hc])).2.2⟩) (by rw [ew] at hwl; simp at hwl; omega))
        rintro v nx ⟨⟨t, rfl⟩, us, n, t1, rfl, ht'⟩
        exact ⟨_, _, _, _, S.pbv, S.pbn, us, n, t1, .read l false tx, ⟨t, by rw [← ew, str_of]; rfl⟩, by simp, by simpa using ⟨hS.pb, ht'⟩⟩
end
section
/-! rules for the words, the kinds and the row -/
open PySem PySem.W PyProof.Rows PySem.Calls
def Lt.code : Lt → Int
  | .a => 20 | .A => 21 | .b => 33 | .B => 34
def Lt.idx : Lt → Int
  | .a => 0 | .A => 1 | .b => 2 | .B => 3
abbrev ws4 (W : Lt → PySem.Str) : List PySem.Str := [W .a, W .A, W .b, W .B]
abbrev ks4 : List Int := [20, 21, 33, 34]
theorem code_lt (x : Lt) : (x.code < 30) ↔ x.isS = true := by cases x <;> simp [Lt.code, Lt.isS]
theorem code_sh {x : Lt} (h : x.isS = true) : x.code + 13 = x.sh.code := by cases x <;> simp_all [Lt.code, Lt.isS, Lt.sh]
theorem code_sh' {x : Lt} (h : x.isS = false) : x.code - 13 = x.sh.code := by cases x <;> simp_all [Lt.code, Lt.isS, Lt.sh]
section
variable {prog : Program} {w : World} {A : Around} {E : Value → Shared → Prop} {s : Shared} {h₀ : Heap} {L : Addr} {m : Str → Option Value} {news : List (Addr × Obj)} {W : Lt → PySem.Str}
theorem led_list {l : Nat} {vs : List Value} {n : Nat} (N : News h₀ L s.heap news) (hm : (l, listOf vs.toArray n) ∈ news) : s.heap.IsList l vs.toArray := ⟨_, (N _ hm).1, rfl, n, rfl⟩
/-- word in words -/
theorem in_word {ws : Nat} {vs : List Value} {n : Nat} {o : Option Lt} {t : Tok} {Q : Value → Shared → Prop} (g : GoodW W) (N : News h₀ L s.heap news) (hm : (ws, listOf vs.toArray n) ∈ news) (hi : StrsAre vs (ws4 W))
    (h : Q (.bool o.isSome) s) : wpAny (model prog w) A (compareOp .In (.str (wordOf W o) t) (.ref ws)) Q E s := by
  refine in_list_strs (led_list N hm) hi ?_
  have e : (ws4 W).any (· == wordOf W o) = o.isSome := by
    cases o with
    | none =>
      have hne : ∀ l, (W l == PySem.Str.ofString "") = false := fun l => by
        rw [beq_eq_false_iff_ne]
        intro q
        have := g.ne l
        rw [q] at this
        exact this (by decide +kernel)
      simp [wordOf, hne]
    | some l => cases l <;> simp [wordOf]
  rw [e]
  exact h
theorem idx_of_word (g : GoodW W) (l : Lt) {vs : List Value} (hi : StrsAre vs (ws4 W)) : ∃ j : Nat, (j : Int) = l.idx ∧ ∃ hj : j < vs.length, isStrOf (W l) vs[j] = true ∧ ∀ i (hi : i < vs.length), i < j → isStrOf (W l) vs[i] = false := by
  obtain ⟨t1, v1, rfl, hi1⟩ := strs_cons hi
  obtain ⟨t2, v2, rfl, hi2⟩ := strs_cons hi1
  obtain ⟨t3, v3, rfl, hi3⟩ := strs_cons hi2
  obtain ⟨t4, v4, rfl, hi4⟩ := strs_cons hi3
  obtain rfl := strs_nil hi4
  have hne : ∀ {a b : Lt}, a ≠ b → (W a == W b) = false := fun h => by rw [beq_eq_false_iff_ne]; exact fun q => h (g.inj _ _ q)
  cases l
  · exact ⟨0, rfl, by simp, by simp [isStrOf], fun i _ h => absurd h (Nat.not_lt_zero _)⟩
  · refine ⟨1, rfl, by simp, by simp [isStrOf], fun i _ h => ?_⟩
    obtain rfl : i = 0 := by omega
    simp [isStrOf, hne]
  · refine ⟨2, rfl, by simp, by simp [isStrOf], fun i _ h => ?_⟩
    obtain rfl | rfl : i = 0 ∨ i = 1 := by omega
    · simp [isStrOf, hne]
    · simp [isStrOf, hne]
  · refine ⟨3, rfl, by simp, by simp [isStrOf], fun i _ h => ?_⟩
    obtain rfl | rfl | rfl : i = 0 ∨ i = 1 ∨ i = 2 := by omega
    · simp [isStrOf, hne]
    · simp [isStrOf, hne]
    · simp [isStrOf, hne]
/-- words.index(word) -/
theorem index_word {ws : Nat} {vs : List Value} {n : Nat} {l : Lt} {t : Tok} {Q : Value → Shared → Prop} (g : GoodW W) (N : News h₀ L s.heap news) (hm : (ws, listOf vs.toArray n) ∈ news) (hi : StrsAre vs (ws4 W))
    (h : Q (.int l.idx s.toks) { s with toks := s.toks + 1 }) : wpAny (model prog w) A (call (.builtin "list.index") [.ref ws, .str (W l) t]) Q E s := by
  obtain ⟨j, ej, hj, h1, h2⟩ := idx_of_word g l hi
  have hlen := hi.len_eq
  rw [← ej] at h
  refine call_meets PySem.F.slot_list_index ⟨_, (N _ hm).1, rfl⟩ PySem.F.entry_list_index (PySem.F.args_list_index_2 _ _)
    (MeetsSeq.list_index ws vs.toArray n (.str (W l) t) (isStrOf (W l)) (fun y hy => eq_isStrOf (W l) t hi y (by simpa using hy)) j (by simpa using hj) (by have h4 : j < 4 := by { rw [hlen] at hj; exact hj }; omega) (by simpa using h1) (fun i hi' hlt => by simpa using h2 i (by simpa using hi') hlt)) ⟨(N _ hm).1, h⟩
/-- kinds.index(crossing) -/
theorem index_kind {ks : Nat} {vs : List Value} {n : Nat} {l : Lt} {t : Tok} {k : Int} {Q : Value → Shared → Prop} (hk : k = l.code) (N : News h₀ L s.heap news) (hm : (ks, listOf vs.toArray n) ∈ news) (hi : IntsAre vs ks4)
    (h : Q (.int l.idx s.toks) { s with toks := s.toks + 1 }) : wpAny (model prog w) A (call (.builtin "list.index") [.ref ks, .int k t]) Q E s := by
  refine index_list_ints (led_list N hm) hi (by decide +kernel) (by subst hk; cases l <;> simp [Lt.code]) ?_
  have e : ((ks4.idxOf k : Nat) : Int) = l.idx := by subst hk; cases l <;> decide
  rw [e]
  exact h
theorem idx_pos (l : Lt) : 0 ≤ l.idx ∧ l.idx < 4 := by cases l <;> simp [Lt.idx]
/-- kinds at a place -/
theorem kinds_at {value slice : PySem.Expr} {ks : Nat} {vs : List Value} {n : Nat} {l : Lt} {u : Tok} {Q : Value → Shared → Prop} (N : News h₀ L s.heap news) (hm : (ks, listOf vs.toArray n) ∈ news) (hi : IntsAre vs ks4)
    (h : ∀ t, Q (.int l.code t) s)
    (hs : subscripted slice false (.ref ks) (.int l.idx u) = operate [.ref ks, .int l.idx u] (getItem (.ref ks) (.int l.idx u)) := by with_unfolding_all rfl) :
    wpAny (model prog w) A (subscriptTail value slice (.ref ks) (.int l.idx u)) Q E s := by
  have hp := idx_pos l
  obtain ⟨t, hx⟩ : ∃ t, vs[l.idx.toNat]? = some (.int l.code t) := hi.get _ _ (by cases l <;> rfl)
  exact tail_any (led_list N hm).typeIs slot_list_getitem.lookup (wpAny_getItem_list (led_list N hm) hp.1 (by omega) (by simpa using hx) (h t)) hs
/-- words at a place -/
theorem words_at {value slice : PySem.Expr} {ws : Nat} {vs : List Value} {n : Nat} {l : Lt} {u : Tok} {Q : Value → Shared → Prop} (N : News h₀ L s.heap news) (hm : (ws, listOf vs.toArray n) ∈ news) (hi : StrsAre vs (ws4 W))
    (h : ∀ t, Q (.str (W l) t) s)
    (hs : subscripted slice false (.ref ws) (.int l.idx u) = operate [.ref ws, .int l.idx u] (getItem (.ref ws) (.int l.idx u)) := by with_unfolding_all rfl) :
    wpAny (model prog w) A (subscriptTail value slice (.ref ws) (.int l.idx u)) Q E s := by
  have hp := idx_pos l
  obtain ⟨t, hx⟩ : ∃ t, vs[l.idx.toNat]? = some (.str (W l) t) := hi.at (by cases l <;> rfl)
  exact tail_any (led_list N hm).typeIs slot_list_getitem.lookup (wpAny_getItem_list (led_list N hm) hp.1 (by omega) (by simpa using hx) (h t)) hs
/-- the other of a pair -/
theorem xor_idx {l : Lt} {t u : Tok} {Q : Value → Shared → Prop} (h : ∀ t' tk, Q (.int l.inv.idx t') { s with toks := tk }) : wpAny (model prog w) A (binaryOp .BitXor (.int l.idx t) (.int 1 u)) Q E s := by
  refine PyProof.Rows.xor_int ?_
  have e : Builtin.bitXor l.idx 1 = l.inv.idx := by cases l <;> decide
  rw [e]
  exact h _ _
/-- len of a list of the ledger -/
theorem len_led {l : Nat} {vs : List Value} {n k : Nat} {Q : Value → Shared → Prop} (N : News h₀ L s.heap news) (hm : (l, listOf vs.toArray n) ∈ news) (hk : vs.length = k) (hz : k ≤ 1048576)
    (h : ∀ t tk, Q (.int (k : Int) t) { s with toks := tk }) : wpAny (model prog w) A (call (.builtin "len") [.ref l]) Q E s :=
  kst_len N hm hk (by omega) (h _ _)
end
end
section
/-! lists and ranges walked by a for, in the ledger; slices -/
open PySem PySem.W PyProof.Rows PySem.Calls
def IsLi (o : Obj) (l i : Nat) : Prop := o.cls = .type "list_iterator" ∧ o.data = .fields #[.ref l, .int i 0]
abbrev riObj (x left : Int) : Obj := { cls := .type "range_iterator", data := .fields #[rawInt x, rawInt left, rawInt 1] }
theorem own_base {B b : Nat} {l : List (Addr × Obj)} (h : OffBase B l) (hb : B ≤ b) : OwnOff l [b] := fun p hp c hc => by
  rw [List.mem_singleton.mp hc]; exact h.ne hb p hp
section
variable {prog : Program} {w : World} {A : Around} {E : Value → Shared → Prop} {s : Shared} {h₀ : Heap} {L : Addr} {m : Str → Option Value} {news news' rest : List (Addr × Obj)} {g : Obj → List (Addr × Obj)}
theorem iter_led {l : Nat} {vs : List Value} {n : Nat} {Q : Value → Shared → Prop} (F : Fr h₀ L s.heap m) (N : News h₀ L s.heap news) (hm : (l, listOf vs.toArray n) ∈ news)
    (h : ∀ I o h', IsLi o l 0 → Fr h₀ L h' m → News h₀ L h' ((I, o) :: news) → (∀ p ∈ news, p.1 < I) → Q (.ref I) { s with heap := h' }) : wpAny (model prog w) A (pyIter (.ref l)) Q E s :=
  wpAny_pyIter_list (led_list N hm) (h _ _ _ ⟨rfl, rfl⟩ (F.push _) (News.push F N _ rfl) fun q hq => Heap.lt_size (N q hq).1)
theorem iter_range {r : Nat} {n : Nat} {t u v : Tok} {Q : Value → Shared → Prop} (F : Fr h₀ L s.heap m) (N : News h₀ L s.heap news) (hr : IsRange s.heap r 0 (n : Int) 1 t u v) (hn : n ≤ 1048576)
    (h : ∀ I h', Fr h₀ L h' m → News h₀ L h' ((I, riObj 0 n) :: news) → (∀ p ∈ news, p.1 < I) → Q (.ref I) { s with heap := h' }) : wpAny (model prog w) A (pyIter (.ref r)) Q E s := by
  have hs : Builtin.Range.small 0 (n : Int) 1 = true := small_one (by decide) (by decide) (by omega) (by omega)
  have e : Builtin.Range.rangeSize 0 (n : Int) 1 = (n : Int) := by
    rw [rangeSize_one]
    split <;> omega
  refine wpAny_pyIter_range hr hs ?_
  rw [e]
  exact h _ _ (F.push _) (News.push F N _ rfl) fun q hq => Heap.lt_size (N q hq).1
theorem next_led {I l i : Nat} {o : Obj} {vs : List Value} {n : Nat} {v : Value} {Q : Option Value → Shared → Prop} (F : Fr h₀ L s.heap m) (N : News h₀ L s.heap news) (U : UpdF I o news g) (hi : IsLi o l i) (hl : (l, listOf vs.toArray n) ∈ news) (hx : vs[i]? = some v)
    (h : ∀ h' o', IsLi o' l (i + 1) → Fr h₀ L h' m → News h₀ L h' (g o') → Q (some v) { s with heap := h' }) : wpAny (model prog w) A (pyNext (.ref I)) Q E s := by
  obtain ⟨pre, post, rfl, hg, a, b⟩ := U.split
  have z := N (I, o) (by simp)
  refine wpAny_pyNext_list_item (i := i) ⟨_, z.1, hi.1, hi.2⟩ (led_list N hl) (by simpa using hx) fun h' hit hs => ?_
  obtain ⟨o', ho, hc, hd⟩ := hit
  exact h h' o' ⟨hc, hd⟩ (F.change hs z.2.1 z.2.2) (by rw [hg]; exact news_set N a b hs ho)
theorem next_led_end {I l i : Nat} {o : Obj} {vs : List Value} {n : Nat} {Q : Option Value → Shared → Prop} (hh : A.handled = none) (F : Fr h₀ L s.heap m) (N : News h₀ L s.heap news) (hI : (I, o) ∈ news) (R : Rest [I] news rest) (hi : IsLi o l i) (hl : (l, listOf vs.toArray n) ∈ news) (hx : vs.length ≤ i)
    (h : ∀ h', Fr h₀ L h' m → News h₀ L h' rest → Q none { s with heap := h' }) : wpAny (model prog w) A (pyNext (.ref I)) Q E s := by
  have z := N (I, o) hI
  refine wpAny_pyNext_list_end (i := i) hh ⟨_, z.1, hi.1, hi.2⟩ (led_list N hl) (by simp; omega) fun h' he => ?_
  have hL : L ≠ I := Ne.symm z.2.1
  obtain ⟨oL, es, ep, hoL, r⟩ := F.ns
  refine h h' ⟨⟨oL, es, ep, he L _ hL hoL, r⟩, fun b ob e => he b ob (fun q => ?_) (F.keep b ob e), F.above⟩ fun p hp => ⟨he _ _ (R.sub.2 p hp I (by simp)) (N p (R.sub.1 p hp)).1, (N p (R.sub.1 p hp)).2⟩
  have := z.2.2
  rw [← q, e] at this
  cases this
theorem next_range {I : Nat} {x left : Int} {Q : Option Value → Shared → Prop} (F : Fr h₀ L s.heap m) (N : News h₀ L s.heap news) (U : Upd I (riObj x left) (riObj (x + 1) (left - 1)) news news') (hl : 0 < left)
    (h : ∀ h' t tk, Fr h₀ L h' m → News h₀ L h' news' → Q (some (.int x t)) { s with heap := h', toks := tk }) : wpAny (model prog w) A (pyNext (.ref I)) Q E s := by
  obtain ⟨pre, post, rfl, rfl, a, b⟩ := U.split
  have z := N (I, riObj x left) (by simp)
  refine wpAny_pyNext_range_item (step := 1) z.1 hl fun h' hit hs => ?_
  exact h h' _ _ (F.change hs z.2.1 z.2.2) (news_set N a b hs hit)
theorem next_range_end {I : Nat} {x left : Int} {Q : Option Value → Shared → Prop} (hh : A.handled = none) (F : Fr h₀ L s.heap m) (N : News h₀ L s.heap news) (hI : (I, riObj x left) ∈ news) (R : Rest [I] news rest) (hl : left ≤ 0)
    (h : ∀ h', Fr h₀ L h' m → News h₀ L h' rest → Q none { s with heap := h' }) : wpAny (model prog w) A (pyNext (.ref I)) Q E s := by
  have z := N (I, riObj x left) hI
  refine wpAny_pyNext_range_end (step := 1) hh z.1 hl fun h' he => ?_
  have hL : L ≠ I := Ne.symm z.2.1
  obtain ⟨oL, es, ep, hoL, r⟩ := F.ns
  refine h h' ⟨⟨oL, es, ep, he L _ hL hoL, r⟩, fun b ob e => he b ob (fun q => ?_) (F.keep b ob e), F.above⟩ fun p hp => ⟨he _ _ (R.sub.2 p hp I (by simp)) (N p (R.sub.1 p hp)).1, (N p (R.sub.1 p hp)).2⟩
  have := z.2.2
  rw [← q, e] at this
  cases this
end
end
section
/-! the state of _law_left's while -/
open PySem PySem.W PyProof.Rows PySem.Calls
section
variable {prog : Program} {w : World} {A : Around} {E : Value → Shared → Prop} {s : Shared} {env : Env} {test : PySem.Expr} {body orelse : List Stmt} {Q : Flow → Shared → Prop}
/-- a while by induction over a state of one's own -/
theorem whl_ind {σ : Type} {r : σ → σ → Prop} {k : Nat} (R : σ → Shared → Prop) (c : σ) (hc : Acc r c) (hR : R c s) (hE : PassesOwn (model prog w) A env E)
    (turn : ∀ c s, (∀ c' s', r c' c → R c' s' → WhlRest prog w A E env test body orelse Q 0 s') → R c s →
      wpAny (model prog w) A (isTrue test env (eval test env)) (fun b s₂ => WhlIf b (wpAny (model prog w) A (execs body env) (WhlPost prog w A E env test body orelse Q 0) E s₂) (wpAny (model prog w) A (execs orelse env) Q E s₂)) E s) :
    WhlRest prog w A E env test body orelse Q k s := by
  have key : WhlRest prog w A E env test body orelse Q (0 + 1) s := by
    induction hc generalizing s with
    | intro c _ ih => exact whl_turn hE (turn c s (fun c' s' hr hR' => ih c' hr hR') hR)
  exact key
end
def Hold (P : Prop) : Prop := P
section
variable {prog : Program} {w : World} {A : Around} {E : Value → Shared → Prop} {s : Shared} {env : Env} {test : PySem.Expr} {body orelse : List Stmt} {Q : Flow → Shared → Prop}
theorem whl_hold {pos : Pos} (h : Hold (WhlRest prog w A E env test body orelse Q 0 s)) : wpAny (model prog w) A (exec (.While test body orelse pos) env) Q E s := whl_start 0 h
end
section
variable {w : World} {p : Program} {loose : List Str} {mean : ExcName → Option Value} {mg mb : Str → Option Value} {dp un : Nat} {gd : Option (List Code)} {cn : Str} {cs : Scope} {a : Addr} {ccd : Value} {cl : List (Str × Addr)} {outer : List Env} {A₀ : Around} {base h₀ : Heap} {L : Addr} {m : Str → Option Value} {s : Shared} {Q E : Value → Shared → Prop}
/-- a contract over the line is used -/
theorem use_lex {D : Nat} {f : Addr} {args : List Value} {S : Lex} {news rest : List (Addr × Obj)} {post : Value → List (Addr × Obj) → Prop} (C : Con w D f args S.led post)
    (B : Below A₀ base outer h₀) (F : Fr h₀ L s.heap m) (X : (KF w).In h₀) (N : News h₀ L s.heap news) (hin : ∀ q ∈ S.led, q ∈ news) (R : Rest [S.pb, S.ln, S.ld, S.f, S.cc, S.st, S.sd, S.sg, S.C] news rest) (T : Top p loose mean mg mb h₀) (H : CodeHd base 107 103) (hk : cs.kind = .function) (hd : dp ≤ D) (hu : un ≤ D)
    (ret : Hold (∀ r h' tk' nx, Fr h₀ L h' m → News h₀ L h' (nx ++ rest) → post r nx → Q r { s with heap := h', toks := tk' })) :
    wpAny (model PG w) (ktrTop dp un gd cn cs L a ccd cl outer) (call (.ref f) args) Q E s :=
  use_con C B F X N hin rfl R T H hk hd hu ret
end
/-- the bare letters of a text -/
def bare (tx : List (Lt × Bool)) : Int := ((tx.filter fun p => !p.2).length : Nat)
theorem Nx.bare {pb : List Lt} {tx : List (Lt × Bool)} {o : Option Lt} {pb' : List Lt} {tx' : List (Lt × Bool)} {k : Int} (h : Nx pb tx o pb' tx' k) : k + bare tx' = bare tx := by
  cases h with
  | push => simp
  | last => simp
  | read l q => cases q <;> simp [Mine.bare] <;> omega
theorem Nx.rest {pb : List Lt} {tx : List (Lt × Bool)} {o : Option Lt} {pb' : List Lt} {tx' : List (Lt × Bool)} {k : Int} (h : Nx pb tx o pb' tx' k) : o.toList ++ (pb' ++ tx'.map (·.1)) = pb ++ tx.map (·.1) := by
  cases h <;> rfl
theorem Nx.none {pb : List Lt} {tx : List (Lt × Bool)} {o : Option Lt} {pb' : List Lt} {tx' : List (Lt × Bool)} {k : Int} (h : Nx pb tx o pb' tx' k) (ho : o = Option.none) : pb' = [] ∧ tx' = [] := by
  cases h <;> simp_all
/-- plain: what the loop keeps -/
structure Kept (braid row rest : List Lt) : Prop where
  good : Good row
  sq : ∀ s : Sq, s.run (row ++ rest) = s.run braid
  mv : ∀ {p : Pt}, p.H → Pt.mv (row ++ rest) p = Pt.mv braid p
  len : row.length + rest.length ≤ 30
theorem Kept.turn {braid row rest row' rest' : List Lt} (k : Kept braid row rest) (t : Turn row rest row' rest') : Kept braid row' rest' :=
  ⟨t.good k.good, fun s => (t.sq s).trans (k.sq s), fun hp => (t.mv hp).trans (k.mv hp), Nat.le_trans t.len k.len⟩
theorem Kept.left {braid row : List Lt} (k : Kept braid row []) : Left braid row :=
  ⟨k.good, fun s => by rw [← k.sq s, List.append_nil], fun hp => by rw [← k.mv hp, List.append_nil]⟩
theorem off_all {b : Addr} : ∀ {l : List (Addr × Obj)}, AllLt b l → OffBase b l
  | [], _, _, hp => nomatch hp
  | q :: r, h, p, hp => by
    rcases List.mem_cons.mp hp with rfl | hp
    · exact h.1
    · exact off_all h.2 p hp
/-- the state at the while's test: the row and what is to be read -/
inductive LInv (W : Lt → PySem.Str) (S : Lex) (ws ks : Nat) (wv kv : List Value) (n1 n2 : Nat) (oth : List (Addr × Obj)) (g : Heap) (L : Nat) (s : Shared) (braid : List Lt) (total : Int) (c : List Lt × List Lt) (s' : Shared) : Prop
  | mk (u : PySem.Str → Option Value) (o : Option Lt) (pb : List Lt) (tx : List (Lt × Bool)) (t : Tok) (R : Nat) (rv : List Value) (rn : Nat) (pbv : List Value) (pbn : Nat) (sgv : List Value) (sgn : Nat) (lno : Int) (t1 : Tok) (h : Heap) (tk : Nat) (h0 : s' = { s with heap := h, toks := tk }) (h1 : Fr g L h (kstB u [(PySem.Str.ofString "line", .ref S.ln), (PySem.Str.ofString "words", .ref ws), (PySem.Str.ofString "kinds", .ref ks), (PySem.Str.ofString "row", .ref R), (PySem.Str.ofString "word", .str (wordOf W o) t)])) (h2 : News g L h ((S.upd pbv pbn sgv sgn lno t1).led ++ (ws, listOf wv.toArray n1) :: (ks, listOf kv.toArray n2) :: (R, listOf rv.toArray rn) :: oth)) (h3 : LS W (S.upd pbv pbn sgv sgn lno t1) pb tx) (h4 : IntsAre rv (c.1.map Lt.code)) (h5 : c.2 = o.toList ++ (pb ++ tx.map (·.1))) (h6 : (o = none → c.2 = [])) (h7 : lno + bare tx = total) (h8 : Kept braid c.1 c.2) (h9 : S.pb < R) (h10 : OffBase R oth) : LInv W S ws ks wv kv n1 n2 oth g L s braid total c s'
/-- word in words, by what get_token gave -/
theorem in_word' {prog : Program} {w : World} {A : Around} {E : Value → Shared → Prop} {s : Shared} {h₀ : Heap} {L : Addr} {news : List (Addr × Obj)} {W : Lt → PySem.Str} {ws : Nat} {vs : List Value} {n : Nat} {o : Option Lt} {t : Tok} {b : Bool} {Q : Value → Shared → Prop} (g : GoodW W) (N : News h₀ L s.heap news) (hm : (ws, listOf vs.toArray n) ∈ news) (hi : StrsAre vs (ws4 W)) (hb : o.isSome = b)
    (h : Q (.bool b) s) : wpAny (model prog w) A (compareOp .In (.str (wordOf W o) t) (.ref ws)) Q E s := in_word g N hm hi (hb ▸ h)
theorem index_word' {prog : Program} {w : World} {A : Around} {E : Value → Shared → Prop} {s : Shared} {h₀ : Heap} {L : Addr} {news : List (Addr × Obj)} {W : Lt → PySem.Str} {ws : Nat} {vs : List Value} {n : Nat} {l : Lt} {t : Tok} {Q : Value → Shared → Prop} (g : GoodW W) (N : News h₀ L s.heap news) (hm : (ws, listOf vs.toArray n) ∈ news) (hi : StrsAre vs (ws4 W))
    (h : ∀ tk, Q (.int l.idx s.toks) { s with toks := tk }) : wpAny (model prog w) A (call (.builtin "list.index") [.ref ws, .str (wordOf W (some l)) t]) Q E s := index_word g N hm hi (h _)
theorem index_kind' {prog : Program} {w : World} {A : Around} {E : Value → Shared → Prop} {s : Shared} {h₀ : Heap} {L : Addr} {news : List (Addr × Obj)} {ks : Nat} {vs : List Value} {n : Nat} {l : Lt} {t : Tok} {Q : Value → Shared → Prop} (N : News h₀ L s.heap news) (hm : (ks, listOf vs.toArray n) ∈ news) (hi : IntsAre vs ks4)
    (h : ∀ tk, Q (.int l.idx s.toks) { s with toks := tk }) : wpAny (model prog w) A (call (.builtin "list.index") [.ref ks, .int l.code t]) Q E s := index_kind rfl N hm hi (h _)
end
section
/-! the state of the inner while; its signs -/
open PySem PySem.W PyProof.Rows PySem.Calls
section
variable {prog : Program} {w : World} {A : Around} {E : Value → Shared → Prop} {s : Shared} {env : Env} {test : PySem.Expr} {body orelse : List Stmt} {Q Q' : Flow → Shared → Prop} {k : Nat}
theorem whl_mono (h : WhlRest prog w A E env test body orelse Q' k s) (hq : ∀ f s', Q' f s' → Q f s') : WhlRest prog w A E env test body orelse Q k s := by
  refine codeAny_mono h fun r s' hr => ?_
  cases r with
  | ok f => exact hq f s' hr
  | error e => exact hr
end
/-- the state at the inner while's test: cut stands behind p -/
inductive CInv (S : Lex) (ws ks R : Nat) (news : List (Addr × Obj)) (g : Heap) (L : Nat) (s : Shared) (x : Lt) (tn tc : Tok) (row : List Lt) (p : List Lt) (s' : Shared) : Prop
  | mk (u : PySem.Str → Option Value) (t : Tok) (h : Heap) (tk : Nat) (run : List Lt) (h0 : s' = { s with heap := h, toks := tk }) (h1 : Fr g L h (kstB u [(PySem.Str.ofString "line", .ref S.ln), (PySem.Str.ofString "words", .ref ws), (PySem.Str.ofString "kinds", .ref ks), (PySem.Str.ofString "row", .ref R), (PySem.Str.ofString "number", .int x.code tn), (PySem.Str.ofString "contrary", .int x.inv.code tc), (PySem.Str.ofString "cut", .int ((p.length : Nat) : Int) t)])) (h2 : News g L h news) (h3 : row = p ++ run) (h4 : ∀ l ∈ run, l.isS = false ∧ x.isS = true) : CInv S ws ks R news g L s x tn tc row p s'
section
variable {prog : Program} {w : World} {A : Around} {E : Value → Shared → Prop} {s : Shared} {env : Env} {test : PySem.Expr} {body orelse : List Stmt} {Q : Flow → Shared → Prop} {k : Nat}
theorem whl_back (h : Hold (WhlRest prog w A E env test body orelse Q 0 s)) : WhlPost prog w A E env test body orelse Q 0 .next s := h
/-- a while to its end: its turns by a state, what stands behind it once -/
theorem whl_to {σ : Type} {r : σ → σ → Prop} (R : σ → Shared → Prop) (End : σ → Prop) (c : σ) (hc : Acc r c) (hR : R c s) (hE : PassesOwn (model prog w) A env E)
    (turn : ∀ c s, (∀ c' s', r c' c → R c' s' → WhlRest prog w A E env test body orelse (fun f s' => Hold (f = .next ∧ ∃ c, R c s' ∧ End c)) 0 s') → R c s →
      wpAny (model prog w) A (isTrue test env (eval test env)) (fun b s₂ => WhlIf b (wpAny (model prog w) A (execs body env) (WhlPost prog w A E env test body orelse (fun f s' => Hold (f = .next ∧ ∃ c, R c s' ∧ End c)) 0) E s₂) (wpAny (model prog w) A (execs orelse env) (fun f s' => Hold (f = .next ∧ ∃ c, R c s' ∧ End c)) E s₂)) E s)
    (after : ∀ c s', R c s' → End c → Q .next s') :
    WhlRest prog w A E env test body orelse Q k s :=
  whl_mono (whl_ind R c hc hR hE turn) fun f s' ⟨e, c, h1, h2⟩ => by subst e; exact after c s' h1 h2
end
section
variable {prog : Program} {w : World} {A : Around} {E : Value → Shared → Prop} {s : Shared} {h₀ : Heap} {L : Addr} {news : List (Addr × Obj)} {b : Bool} {t u : Tok} {Q : Value → Shared → Prop}
theorem lt30 {x : Lt} (hb : x.isS = b) (h : Q (.bool b) s) : wpAny (model prog w) A (compareOp .Lt (.int x.code t) (.int 30 u)) Q E s := by
  refine PyProof.Rows.lt_int ?_
  have e : decide (x.code < 30) = b := by subst hb; cases x <;> rfl
  rw [e]; exact h
theorem gt30 {x : Lt} (hb : x.isS = !b) (h : Q (.bool b) s) : wpAny (model prog w) A (compareOp .Gt (.int x.code t) (.int 30 u)) Q E s := by
  refine PyProof.Rows.gt_int ?_
  have e : decide (x.code > 30) = b := by (have hb2 : b = !x.isS := by (rw [hb, Bool.not_not])); subst hb2; cases x <;> rfl
  rw [e]; exact h
theorem eq_code {x y : Lt} (hb : decide (x = y) = b) (h : Q (.bool b) s) : wpAny (model prog w) A (compareOp .Eq (.int x.code t) (.int y.code u)) Q E s := by
  refine PyProof.Rows.eq_int ?_
  have e : (x.code == y.code) = b := by subst hb; cases x <;> cases y <;> rfl
  rw [e]; exact h
theorem sub_last {p : List Lt} {y : Lt} (h : ∀ t tk, Q (.int ((p.length : Nat) : Int) t) { s with toks := tk }) : wpAny (model prog w) A (binaryOp .Sub (.int (((p ++ [y]).length : Nat) : Int) t) (.int 1 u)) Q E s := by
  refine PyProof.Rows.sub_int ?_
  have e : (((p ++ [y]).length : Nat) : Int) - 1 = ((p.length : Nat) : Int) := by simp
  rw [e]; exact h _ _
theorem isub_last {p : List Lt} {y : Lt} (h : ∀ t tk, Q (.int ((p.length : Nat) : Int) t) { s with toks := tk }) : wpAny (model prog w) A (inplaceOp .Sub (.int (((p ++ [y]).length : Nat) : Int) t) (.int 1 u)) Q E s := by
  refine PyProof.Rows.isub_int ?_
  have e : (((p ++ [y]).length : Nat) : Int) - 1 = ((p.length : Nat) : Int) := by simp
  rw [e]; exact h _ _
theorem truthy_len {n : Nat} {Q : Bool → Shared → Prop} (hb : decide (n ≠ 0) = b) (h : Q b s) : wpAny (model prog w) A (truthy (.int (n : Int) t)) Q E s := by
  refine PyProof.Rows.truthy_int ?_
  have e : ((n : Int) != 0) = b := by subst hb; rw [Bool.eq_iff_iff, decide_eq_true_iff, bne_iff_ne]; omega
  rw [e]; exact h
/-- a crossing of the row -/
theorem row_at {value slice : PySem.Expr} {R : Nat} {rv : List Value} {n : Nat} {row p : List Lt} {y : Lt} (N : News h₀ L s.heap news) (hm : (R, listOf rv.toArray n) ∈ news) (hi : IntsAre rv (row.map Lt.code)) (hy : row[p.length]? = some y) (hz : p.length ≤ 1000)
    (h : ∀ t, Q (.int y.code t) s)
    (hs : subscripted slice false (.ref R) (.int ((p.length : Nat) : Int) u) = operate [.ref R, .int ((p.length : Nat) : Int) u] (getItem (.ref R) (.int ((p.length : Nat) : Int) u)) := by with_unfolding_all rfl) :
    wpAny (model prog w) A (subscriptTail value slice (.ref R) (.int ((p.length : Nat) : Int) u)) Q E s := by
  obtain ⟨t, hx⟩ : ∃ t, rv[p.length]? = some (.int y.code t) := hi.get _ _ (by rw [List.getElem?_map, hy]; rfl)
  exact tail_any (led_list N hm).typeIs slot_list_getitem.lookup (wpAny_getItem_list (led_list N hm) (by omega) (by omega) (by simpa using hx) (h t)) hs
end
end
section
/-! behind the if of one turn -/
open PySem PySem.W PyProof.Rows PySem.Calls
section
variable {prog : Program} {w : World} {A : Around} {E : Value → Shared → Prop} {s : Shared} {h₀ h : Heap} {L : Addr} {m : Str → Option Value}
theorem if_hold {env : Env} {test : PySem.Expr} {body orelse : List Stmt} {pos : Pos} {Q : Flow → Shared → Prop} (h : Hold (wpAny (model prog w) A (exec (.If test body orelse pos) env) Q E s)) : wpAny (model prog w) A (exec (.If test body orelse pos) env) Q E s := h
theorem if_to {t : Sem Flow} {Q : Flow → Shared → Prop} (_ : Fr h₀ L h m) (P : Heap → Addr → Flow → Shared → Prop) (h1 : wpAny (model prog w) A t (fun f s' => Hold (P h₀ L f s')) E s) (h2 : ∀ f s', P h₀ L f s' → Q f s') : wpAny (model prog w) A t Q E s :=
  wpAny_mono h1 h2 (fun _ _ h => h)
end
/-- the state behind the if -/
inductive MInv (W : Lt → PySem.Str) (S : Lex) (ws ks : Nat) (wv kv : List Value) (n1 n2 : Nat) (oth : List (Addr × Obj)) (s : Shared) (row : List Lt) (x : Lt) (rest : List Lt) (total : Int) (g : Heap) (L : Nat) (f : Flow) (s' : Shared) : Prop
  | mk (h0 : f = .next) (u : PySem.Str → Option Value) (row' pb : List Lt) (tx : List (Lt × Bool)) (R : Nat) (rv : List Value) (rn : Nat) (pbv : List Value) (pbn : Nat) (sgv : List Value) (sgn : Nat) (lno : Int) (t1 : Tok) (h : Heap) (tk : Nat) (h1 : s' = { s with heap := h, toks := tk }) (h2 : Fr g L h (kstB u [(PySem.Str.ofString "line", .ref S.ln), (PySem.Str.ofString "words", .ref ws), (PySem.Str.ofString "kinds", .ref ks), (PySem.Str.ofString "row", .ref R)])) (h3 : News g L h ((S.upd pbv pbn sgv sgn lno t1).led ++ (ws, listOf wv.toArray n1) :: (ks, listOf kv.toArray n2) :: (R, listOf rv.toArray rn) :: oth)) (h4 : LS W (S.upd pbv pbn sgv sgn lno t1) pb tx) (h5 : IntsAre rv (row'.map Lt.code)) (h6 : lno + bare tx = total) (h7 : Turn row (x :: rest) row' (pb ++ tx.map (·.1))) (h8 : pb.length ≤ 100) (h9 : tx.length ≤ 100) (h10 : S.pb < R) (h11 : OffBase R oth) : MInv W S ws ks wv kv n1 n2 oth s row x rest total g L f s'
theorem inv_S {x : Lt} {run : List Lt} (h : ∀ l ∈ run, l.isS = false ∧ x.isS = true) : x.inv ∉ run := fun hm => by
  have := h _ hm
  rw [Lt.inv_isS] at this
  rw [this.1] at this
  exact absurd this.2 Bool.false_ne_true
theorem push_nil {x : Lt} {run : List Lt} (h : ∀ l ∈ run, l.isS = false ∧ x.isS = true) (rs : List Lt) : Turn run (x :: rs) (run ++ [x]) rs :=
  .push _ _ _ fun R run' _ e => inv_S h (by rw [e]; simp)
theorem push_ne {x y : Lt} {q run : List Lt} (h : ∀ l ∈ run, l.isS = false ∧ x.isS = true) (hy : x.isS = true → y.isS = true) (hne : y ≠ x.inv) (rs : List Lt) : Turn (q ++ y :: run) (x :: rs) ((q ++ y :: run) ++ [x]) rs :=
  .push _ _ _ fun R run' h' e => by
    cases hx : x.isS with
    | false =>
      have e1 : run = [] := List.eq_nil_iff_forall_not_mem.mpr fun l hl => by have := (h l hl).2; rw [hx] at this; cases this
      have e2 : run' = [] := List.eq_nil_iff_forall_not_mem.mpr fun l hl => by have := (h' l hl).2; rw [hx] at this; cases this
      subst e1 e2
      obtain ⟨_, e3⟩ := List.append_inj' e rfl
      cases e3
      exact hne rfl
    | true =>
      have hys := hy hx
      clear hy
      -- the two runs have one length
      induction run generalizing q run' R with
      | nil => 
        rcases List.eq_nil_or_concat run' with rfl | ⟨r2, z, rfl⟩
        · obtain ⟨_, e3⟩ := List.append_inj' e rfl
          cases e3
          exact hne rfl
        · have e' : q ++ [y] = (R ++ x.inv :: r2) ++ [z] := by rw [e]; simp
          obtain ⟨_, e3⟩ := List.append_inj' e' rfl
          cases e3
          have := (h' y (by simp)).1
          rw [hys] at this
          cases this
      | cons l t ih => 
        by_cases hlen : run'.length = (l :: t).length
        · obtain ⟨_, e3⟩ := List.append_inj' e (by simp only [List.length_cons] at hlen ⊢; omega)
          cases e3
          exact hne rfl
        · rcases Nat.lt_or_gt_of_ne hlen with hlt | hgt
          · -- x.inv stands in the run
            have e4 := congrArg (List.drop (q.length + 1)) e
            have hq : (q ++ y :: l :: t).length = (R ++ x.inv :: run').length := congrArg List.length e
            simp only [List.length_append, List.length_cons] at hq hlt
            have hm : x.inv ∈ List.drop (q.length + 1) (R ++ x.inv :: run') := by
              rw [List.drop_append]
              have : q.length + 1 - R.length = 0 := by omega
              rw [this]
              simp
            rw [← e4] at hm
            have e5 : List.drop (q.length + 1) (q ++ y :: l :: t) = l :: t := by
              rw [List.drop_append]
              simp
            rw [e5] at hm
            exact inv_S h hm
          · have hq : (q ++ y :: l :: t).length = (R ++ x.inv :: run').length := congrArg List.length e
            simp only [List.length_append, List.length_cons] at hq hgt
            have hm : y ∈ List.drop (R.length + 1) (q ++ y :: l :: t) := by
              rw [List.drop_append]
              have : R.length + 1 - q.length = 0 := by omega
              rw [this]
              simp
            rw [e] at hm
            have e5 : List.drop (R.length + 1) (R ++ x.inv :: run') = run' := by
              rw [List.drop_append]
              simp
            rw [e5] at hm
            have := (h' y hm).1
            rw [hys] at this
            cases this
end
section
/-! parts of a row -/
open PySem PySem.W PyProof.Rows PySem.Calls
section
variable {prog : Program} {w : World} {A : Around} {E : Value → Shared → Prop} {s : Shared} {h₀ : Heap} {L : Addr} {m : Str → Option Value} {news : List (Addr × Obj)} {value slice : PySem.Expr} {t : Tok} {Q : Value → Shared → Prop}
theorem slice_from {R n : Nat} {rv : List Value} {row p run : List Lt} (F : Fr h₀ L s.heap m) (N : News h₀ L s.heap news) (hm : (R, listOf rv.toArray n) ∈ news) (hi : IntsAre rv (row.map Lt.code)) (hr : row = p ++ run) (hz : rv.length ≤ 1000)
    (h : ∀ D vs h', Fr h₀ L h' m → News h₀ L h' ((D, listOf (List.toArray vs) 0) :: news) → (∀ q ∈ news, q.1 < D) → IntsAre vs (run.map Lt.code) → Q (.ref D) { s with heap := h' })
    (hs : subscripted slice false (.ref R) (.ref s.heap.objs.size) = operate [.ref s.heap.objs.size, .ref R] (getItem (.ref R) (.ref s.heap.objs.size))) (ht : ∀ r, letTemporaryGo value (.ref R) r = pure ()) :
    wpAny (model prog w) A (subscriptTail value slice (.ref R) (.ref s.heap.objs.size)) Q E { s with heap := s.heap.push { cls := .type "slice", data := .fields #[.int ((p.length : Nat) : Int) t, .none, .none] } } :=
  kmk_slice_ints (ms := (run.map Lt.code)) F N (led_list N hm) (.int _ _) .none hi (by
    have e := kmk_from (x := ((p.length : Nat) : Int)) hi (by omega)
    rw [hr, List.map_append, show ((p.length : Nat) : Int).toNat = (p.map Lt.code).length by simp, List.drop_left] at e
    exact e) rfl (fun D ws h' F' N' l hi' _ _ => h D ws h' F' N' l hi') hs ht (by rw [List.size_toArray, sizeLine_eq]; omega)
theorem slice_upto {R n : Nat} {rv : List Value} {row p run : List Lt} (F : Fr h₀ L s.heap m) (N : News h₀ L s.heap news) (hm : (R, listOf rv.toArray n) ∈ news) (hi : IntsAre rv (row.map Lt.code)) (hr : row = p ++ run) (hz : rv.length ≤ 1000)
    (h : ∀ D vs h', Fr h₀ L h' m → News h₀ L h' ((D, listOf (List.toArray vs) 0) :: news) → (∀ q ∈ news, q.1 < D) → IntsAre vs (p.map Lt.code) → Q (.ref D) { s with heap := h' })
    (hs : subscripted slice false (.ref R) (.ref s.heap.objs.size) = operate [.ref s.heap.objs.size, .ref R] (getItem (.ref R) (.ref s.heap.objs.size))) (ht : ∀ r, letTemporaryGo value (.ref R) r = pure ()) :
    wpAny (model prog w) A (subscriptTail value slice (.ref R) (.ref s.heap.objs.size)) Q E { s with heap := s.heap.push { cls := .type "slice", data := .fields #[.none, .int ((p.length : Nat) : Int) t, .none] } } :=
  kmk_slice_ints (ms := (p.map Lt.code)) F N (led_list N hm) .none (.int _ _) hi (by
    have e := kmk_upto (y := ((p.length : Nat) : Int)) hi (by omega)
    rw [hr, List.map_append, show ((p.length : Nat) : Int).toNat = (p.map Lt.code).length by simp, List.take_left] at e
    exact e) rfl (fun D ws h' F' N' l hi' _ _ => h D ws h' F' N' l hi') hs ht (by rw [List.size_toArray, sizeLine_eq]; omega)
/-- the truth of a row -/
theorem truthy_row {l n : Nat} {vs : List Value} {row : List Lt} {b : Bool} {Q : Bool → Shared → Prop} (N : News h₀ L s.heap news) (hm : (l, listOf vs.toArray n) ∈ news) (hi : IntsAre vs (row.map Lt.code)) (hz : row.length ≤ 1000) (hb : (!row.isEmpty) = b)
    (h : ∀ tk, Q b { s with toks := tk }) : wpAny (model prog w) A (truthy (.ref l)) Q E s := by
  have hl : vs.length = row.length := by rw [hi.length, List.length_map]
  refine truthy_led N hm (by omega) ?_ h
  rw [← hb]
  cases vs <;> cases row <;> simp_all
end
end
section
/-! the letters put back -/
open PySem PySem.W PyProof.Rows PySem.Calls
theorem ints_sub : ∀ {run : List Lt} {ys : List Value}, (∀ l ∈ run, l.isS = false) → CarriedAll ys (List.map (fun a => PyData.int (a - 13)) (run.map Lt.code)) → IntsAre ys ((run.map Lt.sh).map Lt.code)
  | [], _, _, h => by cases h; exact .nil
  | l :: r, _, hr, h => by
    cases h with
    | cons a b =>
      cases a
      rw [code_sh' (hr l (by simp))]
      exact .cons _ _ (ints_sub (fun y hy => hr y (by simp [hy])) b)
section
variable {prog : Program} {w : World} {A : Around} {E : Value → Shared → Prop} {s : Shared} {h₀ : Heap} {L : Addr} {m : Str → Option Value} {news : List (Addr × Obj)} {t : Tok} {Q : Value → Shared → Prop}
theorem add_row1 {x : Lt} {run : List Lt} {l D n : Nat} {ys : List Value} (F : Fr h₀ L s.heap m) (N : News h₀ L s.heap news) (hm : (l, listOf #[Value.int (x.code + 13) t] n) ∈ news) (hb : s.heap.IsList D ys.toArray)
    (hc : CarriedAll ys (List.map (fun a => PyData.int (a - 13)) (List.filter (fun _ => true) (run.map Lt.code)))) (hr : ∀ l ∈ run, l.isS = false ∧ x.isS = true) (hne : run ≠ []) (hz : run.length ≤ 1000)
    (h : ∀ D us h', Fr h₀ L h' m → News h₀ L h' ((D, listOf (List.toArray us) 0) :: news) → (∀ p ∈ news, p.1 < D) → IntsAre us ((x.sh :: run.map Lt.sh).map Lt.code) → Q (.ref D) { s with heap := h' }) :
    wpAny (model prog w) A (binaryOp .Add (.ref l) (.ref D)) Q E s := by
  have hx : x.isS = true := by
    obtain ⟨y, hy⟩ := List.exists_mem_of_ne_nil run hne
    exact (hr y hy).2
  rw [List.filter_eq_self.mpr (by simp)] at hc
  have hi : IntsAre [Value.int (x.code + 13) t] [x.sh.code] := by rw [code_sh hx]; exact .cons _ _ .nil
  exact kmk_add_ints F N (led_list (vs := [Value.int (x.code + 13) t]) N hm) hb hi (ints_sub (fun l hl => (hr l hl).1) hc) (fun D us h' F' N' l1 hu => h D us h' F' N' l1 hu) (by simp [sizeLine_eq]; omega)
theorem add_row2 {x : Lt} {ls : List Lt} {l D n k : Nat} {us : List Value} (F : Fr h₀ L s.heap m) (N : News h₀ L s.heap news) (ha : (D, listOf us.toArray k) ∈ news) (hm : (l, listOf #[Value.int (x.inv.code + 13) t] n) ∈ news) (hi : IntsAre us (ls.map Lt.code))
    (hx : x.isS = true) (hz : ls.length ≤ 1001)
    (h : ∀ D us h', Fr h₀ L h' m → News h₀ L h' ((D, listOf (List.toArray us) 0) :: news) → (∀ p ∈ news, p.1 < D) → IntsAre us ((ls ++ [x.inv.sh]).map Lt.code) → Q (.ref D) { s with heap := h' }) :
    wpAny (model prog w) A (binaryOp .Add (.ref D) (.ref l)) Q E s := by
  have hj : IntsAre [Value.int (x.inv.code + 13) t] [x.inv.sh.code] := by rw [code_sh (by rw [Lt.inv_isS, hx])]; exact .cons _ _ .nil
  exact kmk_add_ints F N (led_list N ha) (led_list (vs := [Value.int (x.inv.code + 13) t]) N hm) hi hj (fun D us h' F' N' l1 hu => h D us h' F' N' l1 (by simpa using hu)) (by simp [sizeLine_eq]; omega)
end
def PushC (w : World) (S : Lex) (pbv : List Value) (pbn : Nat) (sgv : List Value) (sgn : Nat) (lno : Int) (t1 : Tok) : Prop :=
  ∀ v, Con w 370 49 [.ref S.ln, v] (S.upd pbv pbn sgv sgn lno t1).led (fun r nx => r = .none ∧ nx = (S.upd (pbv ++ [v]) (pbn + 1) sgv sgn lno t1).led)
theorem push_any {w : World} {S : Lex} (ok : S.Ok w) (pbv : List Value) (pbn : Nat) (sgv : List Value) (sgn : Nat) (lno : Int) (t1 : Tok) (hz : pbv.length ≤ 4000) :
    PushC w S pbv pbn sgv sgn lno t1 := fun v =>
  push_con w (S.upd pbv pbn sgv sgn lno t1) (ok.upd ..) v hz
theorem strs_snoc {vs : List Value} {xs : List PySem.Str} {x : PySem.Str} {t : Tok} (h : StrsAre vs xs) : StrsAre (vs ++ [.str x t]) (xs ++ [x]) := by
  induction h with
  | nil => exact .cons _ _ .nil
  | cons y u h ih => exact .cons _ _ ih
/-- the state of the for over the made list -/
inductive PInv (W : Lt → PySem.Str) (S : Lex) (ws ks R M I : Nat) (wv kv rv mv : List Value) (n1 n2 rn mn : Nat) (oth : List (Addr × Obj)) (s : Shared) (pb : List Lt) (tx : List (Lt × Bool)) (sgv : List Value) (sgn : Nat) (lno : Int) (t1 tw : Tok) (ls : List Lt) (g : Heap) (L : Nat) (c : List Lt) (s' : Shared) : Prop
  | mk (u : PySem.Str → Option Value) (don : List Lt) (o : Obj) (pbv : List Value) (pbn : Nat) (h : Heap) (tk : Nat) (h0 : s' = { s with heap := h, toks := tk }) (h1 : Fr g L h (kstB u [(PySem.Str.ofString "line", .ref S.ln), (PySem.Str.ofString "words", .ref ws), (PySem.Str.ofString "kinds", .ref ks), (PySem.Str.ofString "row", .ref R), (PySem.Str.ofString "waiting", .int ((pb.length : Nat) : Int) tw)])) (h2 : News g L h ((S.upd pbv pbn sgv sgn lno t1).led ++ (ws, listOf wv.toArray n1) :: (ks, listOf kv.toArray n2) :: (R, listOf rv.toArray rn) :: (M, listOf mv.toArray mn) :: (I, o) :: oth)) (h3 : IsLi o M don.length) (h4 : ls = don ++ c) (h5 : LS W (S.upd pbv pbn sgv sgn lno t1) (pb ++ don) tx) : PInv W S ws ks R M I wv kv rv mv n1 n2 rn mn oth s pb tx sgv sgn lno t1 tw ls g L c s'
/-- the state of the for that turns what waited behind -/
inductive RInv (W : Lt → PySem.Str) (S : Lex) (ws ks R I : Nat) (wv kv rv : List Value) (n1 n2 rn : Nat) (oth : List (Addr × Obj)) (s : Shared) (pb : List Lt) (tx : List (Lt × Bool)) (total : Int) (ls : List Lt) (g : Heap) (L : Nat) (c : List Lt) (s' : Shared) : Prop
  | mk (u : PySem.Str → Option Value) (don : List Lt) (pbv : List Value) (pbn : Nat) (sgv : List Value) (sgn : Nat) (lno : Int) (t1 : Tok) (h : Heap) (tk : Nat) (h0 : s' = { s with heap := h, toks := tk }) (h1 : Fr g L h (kstB u [(PySem.Str.ofString "line", .ref S.ln), (PySem.Str.ofString "words", .ref ws), (PySem.Str.ofString "kinds", .ref ks), (PySem.Str.ofString "row", .ref R)])) (h2 : News g L h ((S.upd pbv pbn sgv sgn lno t1).led ++ (ws, listOf wv.toArray n1) :: (ks, listOf kv.toArray n2) :: (R, listOf rv.toArray rn) :: (I, riObj ((don.length : Nat) : Int) ((c.length : Nat) : Int)) :: oth)) (h3 : pb = don ++ c) (h4 : lno + bare tx = total) (h5 : LS W (S.upd pbv pbn sgv sgn lno t1) (c ++ (ls ++ don)) tx) : RInv W S ws ks R I wv kv rv n1 n2 rn oth s pb tx total ls g L c s'
end
section
open PySem PySem.W PyProof.Rows PySem.Calls
local macro_rules | `(tactic| k_all) => `(tactic| first | exact OwnOff.ne (by with_reducible assumption) (by k_memK) | exact off_lt0 (by walk_at "pick") | exact OffBase.ne (by with_reducible assumption) (by (try dsimp only); omega) | exact List.forall_mem_append.mpr ⟨by k_all, by k_all⟩)
local macro_rules | `(tactic| k_lt $h) => `(tactic| (replace $h := allLt_of $h; dsimp only [AllLt] at $h:ident))
local macro_rules | `(tactic| walk_at "off base") => `(tactic| first | with_reducible assumption | exact off_all (by walk_at "pick"))
abbrev tupObj (vs : Array Value) : Obj := { cls := .type "tuple", data := .seq vs }
/-- what _law_left gives: the row that is left, the empty word; all is read -/
inductive LeftPost (S : Lex) (ws ks : Nat) (wv kv : List Value) (n1 n2 : Nat) (braid : List Lt) (total : Int) (r : Value) (nx : List (Addr × Obj)) (b : Nat) : Prop
  | mk (T R : Nat) (row : List Lt) (t : Tok) (rv : List Value) (rn : Nat) (pbv : List Value) (pbn : Nat) (sgv : List Value) (sgn : Nat) (t1 : Tok) (h0 : r = .ref T) (h1 : nx = (S.upd pbv pbn sgv sgn total t1).led ++ [(ws, listOf wv.toArray n1), (ks, listOf kv.toArray n2), (R, listOf rv.toArray rn), (T, tupObj #[.ref R, .str (PySem.Str.ofString "") t])]) (h2 : IntsAre rv (row.map Lt.code)) (h3 : Left braid row) (h4 : b = R) (h5 : S.pb < R) (h6 : row.length ≤ 30) : LeftPost S ws ks wv kv n1 n2 braid total r nx b
theorem ints_snoc {vs : List Value} {row : List Lt} {x : Lt} {t : Tok} (h : IntsAre vs (row.map Lt.code)) : IntsAre (vs ++ [.int x.code t]) ((row ++ [x]).map Lt.code) := by
  rw [List.map_append]
  generalize row.map Lt.code = ns at h
  induction h with
  | nil => exact .cons _ _ .nil
  | cons y u h ih => exact .cons _ _ ih
local macro_rules | `(tactic| walk_at "exec While Compare cons nil") => `(tactic| (k_here; k_dflt (refine whl_hold ?_)))
local macro_rules | `(tactic| walk_at "exec While BoolOp cons nil") => `(tactic| (k_here; k_dflt (refine whl_hold ?_)))
local macro_rules | `(tactic| walk_at "lex call") => `(tactic| (k_dflt (refine' use_lex ?C ?B ?F ?X ?N ?I ?R ?T ?H ?kk ?hd ?hu ?_); (case C => ((try simp only [List.append_nil, List.cons_append, List.nil_append]); first | with_reducible assumption | ((with_reducible rename PushC _ _ _ _ _ _ _ _ => hq9); exact hq9 _))); (case B => k_asm); (case F => k_asm); (case X => k_asm); (case N => k_asm); (case T => k_asm); (case H => k_asm); (case I => k_dflt k_allIn); (case R => k_dflt k_ownIn); (case kk => exact rfl); (case hd => (simp only [depth_deeper]; omega)); (case hu => (simp only [units_deeper]; omega))))
local macro_rules | `(tactic| walk_at "call ref nil") => `(tactic| (k_here; walk_at "lex call"))
local macro_rules | `(tactic| walk_at "call ref cons nil") => `(tactic| (k_here; walk_at "lex call"))
local macro_rules | `(tactic| walk_at "compareOp In str ref") => `(tactic| (k_here; k_dflt (refine' in_word' ?g ?N ?m ?i ?b ?_; (case g => assumption); (case N => k_asm); (case m => k_mem); (case i => assumption); (case b => exact rfl))))
local macro_rules | `(tactic| walk_at "call builtin:list.index") => `(tactic| (k_here; first | (k_dflt (refine' index_word' ?g ?N ?m ?i ?_; (case g => assumption); (case N => k_asm); (case m => k_mem); (case i => assumption)); intro tk') | (k_dflt (refine' index_kind' ?N ?m ?i ?_; (case N => k_asm); (case m => k_mem); (case i => assumption)); intro tk')))
local macro_rules | `(tactic| walk_at "subscriptTail Name Call ref int") => `(tactic| (k_here; first | ((with_reducible show wpAny _ _ (subscriptTail _ _ _ (Value.int (Lt.idx _) _)) _ _ _); first | (k_dflt (refine' kinds_at ?N ?m ?i ?_; (case N => k_asm); (case m => k_mem); (case i => assumption)); intro t') | (k_dflt (refine' words_at ?N ?m ?i ?_; (case N => k_asm); (case m => k_mem); (case i => assumption)); intro t')) | ((with_reducible show wpAny _ _ (subscriptTail _ _ _ (Value.int (Nat.cast (List.length _)) _)) _ _ _); k_dflt (refine' row_at ?N ?m ?i ?y ?z ?_; (case N => k_asm); (case m => k_mem); (case i => assumption); (case y => assumption); (case z => omega)); intro t')))
local macro_rules | `(tactic| walk_at "subscriptTail Name BinOp ref int") => `(tactic| walk_at "subscriptTail Name Call ref int")
local macro_rules | `(tactic| walk_at "binaryOp BitXor int int") => `(tactic| (k_here; k_dflt (refine xor_idx ?_); intro t' tk'))
local macro_rules | `(tactic| walk_at "call builtin:len") => `(tactic| (k_here; (with_reducible show wpAny _ _ (call (Value.builtin _) [Value.ref _]) _ _ _); k_dflt (refine' len_led ?N ?m ?k ?z ?_; (case N => k_asm); (case m => k_mem); (case k => assumption); (case z => omega)); intro t' tk'))
local macro_rules | `(tactic| walk_at "compareOp Lt int int") => `(tactic| (k_here; k_dflt (refine' lt30 ?b ?_; (case b => assumption))))
local macro_rules | `(tactic| walk_at "compareOp Gt int int") => `(tactic| (k_here; k_dflt (refine' gt30 ?b ?_; (case b => assumption))))
local macro_rules | `(tactic| walk_at "compareOp Eq int int") => `(tactic| (k_here; k_dflt (refine' eq_code ?b ?_; (case b => assumption))))
local macro_rules | `(tactic| walk_at "binaryOp Sub int int") => `(tactic| (k_here; (with_reducible show wpAny _ _ (binaryOp _ (Value.int (Nat.cast (List.length _)) _) _) _ _ _); k_dflt (refine sub_last ?_); intro t' tk'))
local macro_rules | `(tactic| walk_at "inplaceOp Sub int int") => `(tactic| (k_here; k_dflt (refine isub_last ?_); intro t' tk'))
local macro_rules | `(tactic| walk_at "truthy int") => `(tactic| (k_here; k_dflt (refine' truthy_len ?b ?_; (case b => first | assumption | exact rfl))))
local macro_rules | `(tactic| walk_at "WhlPost") => `(tactic| (k_here; (refine whl_back ?_)))
local macro_rules | `(tactic| walk_at "exec If BoolOp cons cons") => `(tactic| (k_here; (refine if_hold ?_)))
local macro_rules | `(tactic| walk_at "subscriptTail Name Slice ref ref") => `(tactic| (k_here; first | ((with_reducible show wpAny _ _ (subscriptTail _ (PySem.Expr.Slice (some _) none none _) (Value.ref _) (Value.ref _)) _ _ _); k_dflt (refine' slice_from ?F ?N ?m ?i ?r ?z ?_ ?s ?t; (case F => k_asm); (case N => k_asm); (case m => k_mem); (case i => assumption); (case r => assumption); (case z => omega); (case s => with_unfolding_all rfl); (case t => (intro _; with_unfolding_all rfl)))) | ((with_reducible show wpAny _ _ (subscriptTail _ (PySem.Expr.Slice none (some _) none _) (Value.ref _) (Value.ref _)) _ _ _); k_dflt (refine' slice_upto ?F ?N ?m ?i ?r ?z ?_ ?s ?t; (case F => k_asm); (case N => k_asm); (case m => k_mem); (case i => assumption); (case r => assumption); (case z => omega); (case s => with_unfolding_all rfl); (case t => (intro _; with_unfolding_all rfl)))); intro D' vs' h' F' N' l1 hi'; (try k_lt l1); (try k_sweep)))
local macro_rules | `(tactic| walk_at "call builtin:list.append") => `(tactic| (k_here; (with_reducible show wpAny _ _ (call (Value.builtin _) [Value.ref _, _]) _ _ _); k_dflt (refine' append_led ?F ?N ?U ?z ?_; (case F => k_asm); (case N => k_asm); (case U => k_upd); (case z => first | assumption | omega)); intro h' F' N'; (try k_sweep)))
local macro_rules | `(tactic| walk_at "truthy ref") => `(tactic| (k_here; (with_reducible show wpAny _ _ (truthy (Value.ref _)) _ _ _); k_dflt (refine' truthy_row ?N ?m ?i ?z ?b ?_; (case N => k_asm); (case m => k_mem); (case i => assumption); (case z => (simp only [List.length_append, List.length_cons, List.length_nil] at *; omega)); (case b => first | exact (show _ = true from rfl) | exact (show _ = false from rfl))); intro tk'))
local macro_rules | `(tactic| walk_at "exec If Name cons nil") => `(tactic| (k_here; (refine if_hold ?_)))
local macro_rules | `(tactic| walk_at "exec For Name BinOp cons nil") => `(tactic| (k_here; k_dflt (refine for_start ?_)))
local macro_rules | `(tactic| walk_at "binaryOp Add ref ref") => `(tactic| (k_here; first | (k_dflt (refine' add_row1 ?F ?N ?m ?b ?c ?r ?e ?z ?_; (case F => k_asm); (case N => k_asm); (case b => with_reducible assumption); (case c => with_reducible assumption); (case m => k_mem); (case r => with_reducible assumption); (case e => exact List.cons_ne_nil _ _); (case z => assumption))) | (k_dflt (refine' add_row2 ?F ?N ?a ?m ?i ?x ?z ?_; (case F => k_asm); (case N => k_asm); (case a => k_mem); (case m => k_mem); (case i => with_reducible assumption); (case x => with_reducible assumption); (case z => (simp only [List.length_map, List.length_cons] at *; omega)))); intro D' us' h' F' N' l1 hi'; (try k_lt l1); (try k_sweep)))
local macro_rules | `(tactic| walk_at "pyIter ref") => `(tactic| (k_here; first | (k_dflt (refine' iter_range ?F ?N ?r ?n ?_; (case r => with_reducible assumption); (case F => k_asm); (case N => k_asm); (case n => omega)); intro I' h' F' N' l1; (try k_lt l1); (try k_sweep)) | (k_dflt (refine' iter_led ?F ?N ?m ?_; (case F => k_asm); (case N => k_asm); (case m => k_mem)); intro I' o' h' hLi' F' N' l1; (try k_lt l1); (try k_sweep))))
theorem all_ne {a c : Nat} {l : List Nat} (h : @Ne Nat a c) (r : ∀ b : Nat, b ∈ l → @Ne Nat a b) : ∀ b : Nat, b ∈ c :: l → @Ne Nat a b := fun b hb => (List.mem_cons.mp hb).elim (fun e => e ▸ h) (r b)
theorem Lex.Ok.low {w : World} {S : Lex} (ok : S.Ok w) {a : Nat} (h : a < S.C) : ∀ b : Nat, b ∈ [S.pb, S.ln, S.ld, S.f, S.cc, S.st, S.sd, S.sg, S.C] → @Ne Nat a b := by
  obtain ⟨n1, n2, n3, n4, n5, n6, n7, n8⟩ := ok.nd
  have e1 := Nat.lt_trans h n1
  have e2 := Nat.lt_trans e1 n2
  have e3 := Nat.lt_trans e2 n3
  have e4 := Nat.lt_trans e3 n4
  have e5 := Nat.lt_trans e4 n5
  have e6 := Nat.lt_trans e5 n6
  have e7 := Nat.lt_trans e6 n7
  exact all_ne (Nat.ne_of_lt (Nat.lt_trans e7 n8)) (all_ne (Nat.ne_of_lt e7) (all_ne (Nat.ne_of_lt e6) (all_ne (Nat.ne_of_lt e5) (all_ne (Nat.ne_of_lt e4) (all_ne (Nat.ne_of_lt e3) (all_ne (Nat.ne_of_lt e2) (all_ne (Nat.ne_of_lt e1) (all_ne (Nat.ne_of_lt h) (fun _ h => nomatch h)))))))))
theorem Lex.Ok.high {w : World} {S : Lex} (ok : S.Ok w) {a : Nat} (h : S.pb < a) : ∀ b : Nat, b ∈ [S.pb, S.ln, S.ld, S.f, S.cc, S.st, S.sd, S.sg, S.C] → @Ne Nat a b := by
  obtain ⟨n1, n2, n3, n4, n5, n6, n7, n8⟩ := ok.nd
  have e8 := Nat.lt_trans n8 h
  have e7 := Nat.lt_trans n7 e8
  have e6 := Nat.lt_trans n6 e7
  have e5 := Nat.lt_trans n5 e6
  have e4 := Nat.lt_trans n4 e5
  have e3 := Nat.lt_trans n3 e4
  have e2 := Nat.lt_trans n2 e3
  exact all_ne (Nat.ne_of_gt h) (all_ne (Nat.ne_of_gt e8) (all_ne (Nat.ne_of_gt e7) (all_ne (Nat.ne_of_gt e6) (all_ne (Nat.ne_of_gt e5) (all_ne (Nat.ne_of_gt e4) (all_ne (Nat.ne_of_gt e3) (all_ne (Nat.ne_of_gt e2) (all_ne (Nat.ne_of_gt (Nat.lt_trans n1 e2)) (fun _ h => nomatch h)))))))))
theorem Lex.Ok.lowU {w : World} {S : Lex} {pbv : List Value} {pbn : Nat} {sgv : List Value} {sgn : Nat} {lno : Int} {t1 : Tok} (ok : S.Ok w) {a : Nat} (h : a < S.C) : ∀ b : Nat, b ∈ [(S.upd pbv pbn sgv sgn lno t1).pb, (S.upd pbv pbn sgv sgn lno t1).ln, (S.upd pbv pbn sgv sgn lno t1).ld, (S.upd pbv pbn sgv sgn lno t1).f, (S.upd pbv pbn sgv sgn lno t1).cc, (S.upd pbv pbn sgv sgn lno t1).st, (S.upd pbv pbn sgv sgn lno t1).sd, (S.upd pbv pbn sgv sgn lno t1).sg, (S.upd pbv pbn sgv sgn lno t1).C] → @Ne Nat a b := ok.low h
theorem Lex.Ok.highU {w : World} {S : Lex} {pbv : List Value} {pbn : Nat} {sgv : List Value} {sgn : Nat} {lno : Int} {t1 : Tok} (ok : S.Ok w) {a : Nat} (h : S.pb < a) : ∀ b : Nat, b ∈ [(S.upd pbv pbn sgv sgn lno t1).pb, (S.upd pbv pbn sgv sgn lno t1).ln, (S.upd pbv pbn sgv sgn lno t1).ld, (S.upd pbv pbn sgv sgn lno t1).f, (S.upd pbv pbn sgv sgn lno t1).cc, (S.upd pbv pbn sgv sgn lno t1).st, (S.upd pbv pbn sgv sgn lno t1).sd, (S.upd pbv pbn sgv sgn lno t1).sg, (S.upd pbv pbn sgv sgn lno t1).C] → @Ne Nat a b := ok.high h
local macro_rules | `(tactic| k_ownIn) => `(tactic| first | ((with_reducible show Rest [_, _, _, _, _, _, _, _, _] (_ :: _) _); first | (refine' Rest.drop ?q1 ?q2; (case q1 => k_memK); (case q2 => k_ownIn)) | (refine' Rest.keep ?q1 ?q2; (case q1 => first | exact Lex.Ok.lowU (by with_reducible assumption) (by assumption) | exact Lex.Ok.highU (by with_reducible assumption) (by first | assumption | walk_at "pick") | exact Lex.Ok.low (by with_reducible assumption) (by assumption) | exact Lex.Ok.high (by with_reducible assumption) (by first | assumption | walk_at "pick") | (intro b hb; simp only [List.mem_cons, List.not_mem_nil, or_false] at hb; refine neN ?_; (try dsimp only); omega)); (case q2 => k_ownIn)) | fail) | fail)
local macro_rules | `(tactic| k_ownIn) => `(tactic| first | exact Rest.own (own_base (by with_reducible assumption) (by omega)) | fail)
local macro_rules | `(tactic| walk_at "exec For Name Call cons nil") => `(tactic| (k_here; k_dflt (refine for_start ?_)))
local macro_rules | `(tactic| walk_at "lexne") => `(tactic| first | exact Lex.Ok.high (by with_reducible assumption) (by with_reducible assumption) _ (by k_memK) | exact Lex.Ok.low (by with_reducible assumption) (by with_reducible assumption) _ (by k_memK))
local macro_rules | `(tactic| k_ne) => `(tactic| (refine neN ?_; (try dsimp only); first | with_reducible assumption | walk_at "lexne" | (refine Ne.symm ?_; first | with_reducible assumption | walk_at "lexne") | exact Nat.ne_of_lt (by walk_at "pick") | exact Nat.ne_of_gt (by walk_at "pick") | omega))
set_option maxHeartbeats 4000000 in
theorem left_con (w : World) (W : Lt → PySem.Str) (gw : GoodW W) (S : Lex) (ok : S.Ok w) (ws ks : Nat) (wv kv : List Value) (n1 n2 : Nat) (hwi : StrsAre wv (ws4 W)) (hki : IntsAre kv ks4) (tx : List (Lt × Bool)) (hS : LS W S [] tx) (hm : tx.length ≤ 30) (hwp : ks < S.C) (hws : ws < S.C) (hwk : ws ≠ ks) :
    ConF w 350 125 [.ref S.ln, .ref ws, .ref ks] (S.led ++ [(ws, listOf wv.toArray n1), (ks, listOf kv.toArray n2)]) (LeftPost S ws ks wv kv n1 n2 (tx.map (·.1)) (S.lno + bare tx)) := by
  unfold ConF KF PG
  k_fill
  intro p loose mean mg mb dp un gd cn cs a ccd cl outer A₀ base h₀ L m oth s Q E B F X N O T CH hk hdp hun hret
  obtain ⟨nd1, nd2, nd3, nd4, nd5, nd6, nd7, nd8⟩ := ok.nd
  dsimp only [Lex.led, List.cons_append, List.nil_append] at N
  simp only [Lex.led, List.cons_append, List.nil_append, List.map_cons, List.map_nil] at O
  have hC := get_tok gw S ok [] tx hS (by simp) (by omega)
  k_dflt k_enter
  k_steps
  unfold Hold
  rintro _ h9 tk9 _ F9 N9 ⟨o, pb', tx', k, pbv, pbn, sgv, sgn, t1, hnx, ⟨t, rfl⟩, rfl, hls⟩
  clear hC
  dsimp only [Lex.led, List.cons_append, List.nil_append] at N9
  k_steps
  unfold Hold
  rename Fr _ _ _ _ => F1
  rename News _ _ _ _ => N1
  refine whl_ind (r := Next) (LInv W S ws ks wv kv n1 n2 oth _ _ s (tx.map (·.1)) (S.lno + bare tx)) ([], tx.map (·.1)) (next_acc _)
    ⟨_, o, pb', tx', t, _, [], 0, pbv, pbn, sgv, sgn, S.lno + k, t1, _, _, rfl, fr_ps F1 (by k_dflt (repeat (first | exact List.forall_mem_nil _ | refine all_p rfl ?_))),
      cb_drop N1 (List.forall_mem_append.mpr ⟨by k_dflt k_allIn, all_cons (by k_dflt k_mem) (all_cons (by k_dflt k_mem) (all_cons (by k_dflt k_mem) (fun q hq => by (repeat (first | exact hq | apply List.mem_cons_of_mem)))))⟩), hls, .nil, hnx.rest.symm, fun h => by (subst h; (have e9 := hnx.rest); rw [(hnx.none rfl).1, (hnx.none rfl).2] at e9; exact e9.symm), by have := hnx.bare; omega, ⟨Good.nil, fun _ => rfl, fun _ => rfl, by simpa using hm⟩, by first | omega | walk_at "pick", by walk_at "off base"⟩ (by passes_own) ?turn
  case turn =>
    clear F1 N1 hnx hls t pb' tx' k pbv pbn sgv sgn t1 o
    rintro ⟨row, rest⟩ s1 IH ⟨u, o, pb, tx1, t, R, rv, rn, pbv, pbn, sgv, sgn, lno, t1, h2, tk2, rfl, F2, N2, hls, hri, hrest, hno, hbare, hkept, hR, hOB⟩
    dsimp only at F2 hri hrest hno hkept IH
    dsimp only [Lex.led, List.cons_append, List.nil_append] at N2
    cases o with
    | none =>
      have hr0 := hno rfl
      subst hr0
      have ht0 : pb = [] ∧ tx1 = [] := by
        have e9 := hrest.symm
        simp only [Option.toList_none, List.nil_append, List.append_eq_nil_iff, List.map_eq_nil_iff] at e9
        exact e9
      obtain ⟨rfl, rfl⟩ := ht0
      obtain rfl : lno = S.lno + bare tx := by simpa [bare] using hbare
      k_steps
      rename News _ _ _ _ => kN
      exact hret _ _ _ ((S.upd pbv pbn sgv sgn (S.lno + bare tx) t1).led ++ [(ws, listOf wv.toArray n1), (ks, listOf kv.toArray n2), (R, listOf rv.toArray rn), (_, tupObj #[.ref R, .str (PySem.Str.ofString "") t])]) R (by k_asm)
        (cb_drop kN (List.forall_mem_append.mpr ⟨List.forall_mem_append.mpr ⟨by k_dflt k_allIn, by k_dflt k_allIn⟩, fun q hq => by (repeat (first | exact hq | apply List.mem_cons_of_mem))⟩)) hOB
        ⟨_, R, row, t, rv, rn, pbv, pbn, sgv, sgn, t1, rfl, rfl, hri, hkept.left, rfl, hR, by (have e9 := hkept.len; omega)⟩
    | some x =>
      have hrl : rv.length = row.length := by (have := hri.length; rw [List.length_map] at this; exact this)
      have hl9 : row.length ≤ 30 := by (have := hkept.len; omega)
      k_steps
      unfold Hold
      rename Fr _ _ _ _ => F3
      rename News _ _ _ _ => N3
      refine whl_to (r := fun a b : List Lt => a.length < b.length) (CInv S ws ks R _ _ _ s x _ _ row) (fun p => x.isS = true → ∀ q y, p = q ++ [y] → y.isS = true) row ((measure fun c : List Lt => c.length).wf.apply _)
        ⟨_, _, _, _, [], rfl, fr_ps F3 (by k_dflt (repeat (first | exact List.forall_mem_nil _ | refine all_p rfl ?_))), N3, (List.append_nil _).symm, fun _ h => nomatch h⟩ (by passes_own) ?cturn ?after
      case cturn =>
        clear F3 N3
        rintro p s3 IH3 ⟨u3, t3, h3, tk3, run, rfl, F3, N3, hrow, hrun⟩
        rcases Bool.eq_false_or_eq_true x.isS with hx | hx
        · rcases List.eq_nil_or_concat p with rfl | ⟨q, y, rfl⟩
          · k_steps
            exact ⟨rfl, [], ⟨_, _, _, _, run, rfl, F3, by k_asm, hrow, hrun⟩, fun _ q y h => absurd h (by simp)⟩
          · rw [List.concat_eq_append] at *
            have hy9 : row[q.length]? = some y := by (rw [hrow]; simp)
            have hn9 : decide ((q ++ [y]).length ≠ 0) = true := by simp
            have hz9 : q.length ≤ 1000 := by (have := congrArg List.length hrow; simp only [List.length_append, List.length_cons, List.length_nil] at this; omega)
            cases hys : y.isS with
            | true =>
              have hys9 : y.isS = !false := hys
              k_steps
              exact ⟨rfl, q ++ [y], ⟨_, _, _, _, run, rfl, F3, by k_asm, hrow, hrun⟩, fun _ q' y' h => by (obtain ⟨_, e2⟩ := List.append_inj' h rfl; cases e2; exact hys)⟩
            | false =>
              have hys9 : y.isS = !true := hys
              k_steps
              rename Fr _ _ _ _ => F4
              unfold Hold
              exact IH3 q _ (show q.length < (q ++ [y]).length by simp) ⟨_, _, _, _, y :: run, rfl, fr_ps F4 (by k_dflt (repeat (first | exact List.forall_mem_nil _ | refine all_p rfl ?_))), by k_asm, by simpa using hrow, fun l hl => by (rcases List.mem_cons.mp hl with rfl | hl; exact ⟨hys, hx⟩; exact hrun l hl)⟩
        · k_steps
          exact ⟨rfl, p, ⟨_, _, _, _, run, rfl, F3, by k_asm, hrow, hrun⟩, fun h => by (rw [hx] at h; cases h)⟩
      case after =>
        clear F3 N3
        rintro p s3 ⟨u3, t3, h3, tk3, run, rfl, F3, N3, hrow, hrun⟩ hend
        k_steps
        unfold Hold
        have hpl : pbv.length = pb.length := by (have := hls.pb.len_eq; rw [List.length_map] at this; exact this)
        have hpz : pb.length + tx1.length ≤ 30 := by (have := hkept.len; rw [hrest] at this; simp only [List.length_append, List.length_map] at this; omega)
        refine if_to F3 (MInv W S ws ks wv kv n1 n2 oth s row x (pb ++ tx1.map (·.1)) (S.lno + bare tx)) ?ifs ?behind
        case ifs =>
          refine wpAny_If ?_
          rcases List.eq_nil_or_concat p with rfl | ⟨q, y, rfl⟩
          · have hz9 : rv.length ≤ 1000 := by omega
            have hT : Turn row (x :: (pb ++ tx1.map (·.1))) (row ++ [x]) (pb ++ tx1.map (·.1)) := by
              rw [hrow, List.nil_append]; exact push_nil hrun _
            k_steps
            rename Fr _ _ _ _ => F5
            rename News _ _ _ _ => N5
            exact ⟨rfl, _, row ++ [x], pb, tx1, R, _, _, pbv, pbn, sgv, sgn, lno, t1, _, _, rfl, fr_ps F5 (by k_dflt (repeat (first | exact List.forall_mem_nil _ | refine all_p rfl ?_))),
              cb_drop N5 (List.forall_mem_append.mpr ⟨by k_dflt k_allIn, all_cons (by k_dflt k_mem) (all_cons (by k_dflt k_mem) (all_cons (by k_dflt k_mem) (fun q hq => by (repeat (first | exact hq | apply List.mem_cons_of_mem)))))⟩), hls, ints_snoc hri, hbare, hT, by omega, by omega, hR, hOB⟩
          · rw [List.concat_eq_append] at *
            have hy9 : row[q.length]? = some y := by (rw [hrow]; simp)
            have hn9 : decide ((q ++ [y]).length ≠ 0) = true := by simp
            have hz9 : q.length ≤ 1000 := by (have := congrArg List.length hrow; simp only [List.length_append, List.length_cons, List.length_nil] at this; omega)
            have hrow2 : row = q ++ ([y] ++ run) := by (rw [hrow]; simp)
            rcases Classical.em (y = x.inv) with he | he
            · have hd9 : decide (y = x.inv) = true := decide_eq_true he
              have hpz9 : pb.length ≤ 1048576 := by omega
              k_steps
              unfold Hold
              refine wpAny_If ?_
              have hrz8 : run.length ≤ 30 := by (have := congrArg List.length hrow; simp only [List.length_append, List.length_cons, List.length_nil] at this; omega)
              have hrz9 : run.length ≤ 1000 := by (have := congrArg List.length hrow; simp only [List.length_append, List.length_cons, List.length_nil] at this; omega)
              cases run with
              | nil =>
                k_steps
                rename Fr _ _ _ _ => F5
                rename News _ _ _ _ => N5
                rename IntsAre _ (List.map Lt.code q) => hi5
                have hT : Turn row (x :: (pb ++ tx1.map (·.1))) q (pb ++ tx1.map (·.1)) := by (rw [hrow, he, List.append_nil]; exact .red0 _ _ _)
                exact ⟨rfl, _, q, pb, tx1, _, _, _, pbv, pbn, sgv, sgn, lno, t1, _, _, rfl, fr_ps F5 (by k_dflt (repeat (first | exact List.forall_mem_nil _ | refine all_p rfl ?_))),
                  cb_drop N5 (List.forall_mem_append.mpr ⟨by k_dflt k_allIn, all_cons (by k_dflt k_mem) (all_cons (by k_dflt k_mem) (all_cons (by k_dflt k_mem) (fun q hq => by (repeat (first | exact hq | apply List.mem_cons_of_mem)))))⟩), hls, hi5, hbare, hT, by omega, by omega, by first | omega | walk_at "pick", by walk_at "off base"⟩
              | cons r0 rs =>
                have hxs : x.isS = true := (hrun r0 (by simp)).2
                k_steps
                rename Fr _ _ _ _ => F5
                rename News _ _ _ _ => N5
                rename IsLi _ _ _ => hLi5
                rename IntsAre _ (List.map Lt.code q) => hi5
                rename IntsAre _ (List.map Lt.code (_ ++ [x.inv.sh])) => hm5
                refine for_ind (r := fun a b : List Lt => a.length < b.length) (PInv W S ws ks _ _ _ wv kv _ _ n1 n2 _ _ oth s pb tx1 sgv sgn lno t1 _ (x.sh :: (r0 :: rs).map Lt.sh ++ [x.inv.sh]) _ _) (x.sh :: (r0 :: rs).map Lt.sh ++ [x.inv.sh]) ((measure fun c : List Lt => c.length).wf.apply _)
                  ⟨_, [], _, pbv, pbn, _, _, rfl, fr_ps F5 (by k_dflt (repeat (first | exact List.forall_mem_nil _ | refine all_p rfl ?_))),
                    cb_drop N5 (List.forall_mem_append.mpr ⟨by k_dflt k_allIn, all_cons (by k_dflt k_mem) (all_cons (by k_dflt k_mem) (all_cons (by k_dflt k_mem) (all_cons (by k_dflt k_mem) (all_cons (by k_dflt k_mem) (fun q hq => by (repeat (first | exact hq | apply List.mem_cons_of_mem)))))))⟩), hLi5, rfl, by rw [List.append_nil]; exact hls⟩ (by passes_own) ?pturn
                case pturn =>
                  clear F5 N5 hLi5
                  rintro c s5 IH5 ⟨u5, don, o5, pbv5, pbn5, h5, tk5, rfl, F5, N5, hLi5, hls5, hLS5⟩
                  dsimp only [Lex.led, List.cons_append, List.nil_append] at N5
                  cases c with
                  | nil =>
                    refine' next_led_end ?en1 ?en2 ?en3 ?en4 ?en5 hLi5 ?en6 ?en7 ?_
                    case en1 => exact rfl
                    case en2 => exact F5
                    case en3 => exact N5
                    case en4 => k_dflt k_mem
                    case en5 => k_dflt k_ownIn
                    case en6 => k_dflt k_mem
                    case en7 => (rw [hm5.length, List.length_map, hls5, List.append_nil]; exact Nat.le_refl _)
                    intro h6 F6 N6
                    dsimp only [ForTurn]
                    k_steps
                    rename Fr _ _ _ _ => F7
                    rename News _ _ _ _ => N7
                    refine for_ind (r := fun a b : List Lt => a.length < b.length) (RInv W S ws ks _ _ wv kv _ n1 n2 _ oth s pb tx1 (S.lno + bare tx) (x.sh :: (r0 :: rs).map Lt.sh ++ [x.inv.sh]) _ _) pb ((measure fun c : List Lt => c.length).wf.apply _)
                      ⟨_, [], pbv5, pbn5, sgv, sgn, lno, t1, _, _, rfl, fr_ps F7 (by k_dflt (repeat (first | exact List.forall_mem_nil _ | refine all_p rfl ?_))),
                        cb_drop N7 (List.forall_mem_append.mpr ⟨by k_dflt k_allIn, all_cons (by k_dflt k_mem) (all_cons (by k_dflt k_mem) (all_cons (by k_dflt k_mem) (all_cons (by k_dflt k_mem) (fun q hq => by (repeat (first | exact hq | apply List.mem_cons_of_mem))))))⟩), rfl, hbare, by rw [List.append_nil, hls5, List.append_nil]; exact hLS5⟩ (by passes_own) ?rturn
                    case rturn =>
                      clear F7 N7
                      rintro c s7 IH7 ⟨u7, don7, pbv7, pbn7, sgv7, sgn7, lno7, t17, h7, tk7, rfl, F7, N7, hpb7, hb7, hLS7⟩
                      dsimp only [Lex.led, List.cons_append, List.nil_append] at N7
                      cases c with
                      | nil =>
                        refine' next_range_end ?rn1 ?rn2 ?rn3 ?rn4 ?rn5 ?rn6 ?_
                        case rn1 => exact rfl
                        case rn2 => exact F7
                        case rn3 => exact N7
                        case rn4 => k_dflt k_mem
                        case rn5 => k_dflt k_ownIn
                        case rn6 => exact Int.le_refl _
                        intro h8 F8 N8
                        dsimp only [ForTurn]
                        k_steps
                        have hT : Turn row (x :: (pb ++ tx1.map (·.1))) q (((x.sh :: (r0 :: rs).map Lt.sh ++ [x.inv.sh]) ++ pb) ++ tx1.map (·.1)) := by
                          have e8 := Turn.red q (r0 :: rs) x (pb ++ tx1.map (·.1)) hxs (fun l hl => (hrun l hl).1) (List.cons_ne_nil _ _)
                          have e9 : row = q ++ x.inv :: r0 :: rs := by (rw [hrow, he]; simp)
                          rw [e9]
                          simpa using e8
                        exact ⟨rfl, _, q, _, tx1, _, _, _, pbv7, pbn7, sgv7, sgn7, lno7, t17, _, _, rfl, fr_ps F8 (by k_dflt (repeat (first | exact List.forall_mem_nil _ | refine all_p rfl ?_))),
                          cb_drop N8 (List.forall_mem_append.mpr ⟨by k_dflt k_allIn, all_cons (by k_dflt k_mem) (all_cons (by k_dflt k_mem) (all_cons (by k_dflt k_mem) (fun q hq => by (repeat (first | exact hq | apply List.mem_cons_of_mem)))))⟩), by (rw [List.append_nil] at hpb7; subst hpb7; exact hLS7), hi5, hb7, hT, by (simp only [List.length_append, List.length_cons, List.length_nil, List.length_map] at hrz8 ⊢; omega), by omega, by first | omega | walk_at "pick", by walk_at "off base"⟩
                      | cons y7 c7 =>
                        have hC7 := get_tok gw (S.upd pbv7 pbn7 sgv7 sgn7 lno7 t17) (ok.upd ..) (y7 :: (c7 ++ (x.sh :: (r0 :: rs).map Lt.sh ++ [x.inv.sh] ++ don7))) tx1 hLS7 (by (have e7 := congrArg List.length hpb7; simp only [List.length_append, List.length_cons, List.length_nil, List.length_map] at e7 hrz8 ⊢; omega)) (by omega)
                        refine' next_range ?rc1 ?rc2 ?rc3 ?rc4 ?_
                        case rc1 => exact F7
                        case rc2 => exact N7
                        case rc3 => k_dflt k_upd
                        case rc4 => (simp only [List.length_cons]; omega)
                        intro h8 t8 tk8 F8 N8
                        dsimp only [ForTurn]
                        k_steps
                        unfold Hold
                        rintro _ h9 tk9 _ F9 N9 ⟨o9, pb9, tx9, k9, pbv9, pbn9, sgv9, sgn9, t19, hnx9, ⟨t9, rfl⟩, rfl, hls9⟩
                        clear hC7
                        cases hnx9
                        have hpl9 : pbv9.length ≤ 200 := by (have e9 := hls9.pb.len_eq; rw [List.length_map] at e9; (have e7 := congrArg List.length hpb7); simp only [List.length_append, List.length_cons, List.length_nil, List.length_map] at e7 e9 hrz8; omega)
                        have hP9 := push_any ok pbv9 pbn9 sgv9 sgn9 (lno7 + 0) t19 (by omega)
                        dsimp only [Lex.led, List.cons_append, List.nil_append] at N9
                        k_steps
                        unfold Hold
                        rintro _ h10 tk10 _ F10 N10 ⟨rfl, rfl⟩
                        clear hP9
                        dsimp only [Lex.led, List.cons_append, List.nil_append] at N10
                        k_steps
                        rename Fr _ _ _ _ => F11
                        rename News _ _ _ _ => N11
                        dsimp only [ForFlow]
                        have e1 : ((don7.length : Nat) : Int) + 1 = (((don7 ++ [y7]).length : Nat) : Int) := by simp
                        have e2 : (((y7 :: c7).length : Nat) : Int) - 1 = ((c7.length : Nat) : Int) := by simp
                        rw [e1, e2] at N11
                        exact IH7 c7 _ (by simp) ⟨_, don7 ++ [y7], pbv9 ++ [.str (wordOf W (some y7)) t9], pbn9 + 1, sgv9, sgn9, lno7 + 0, t19, _, _, rfl, fr_ps F11 (by k_dflt (repeat (first | exact List.forall_mem_nil _ | refine all_p rfl ?_))),
                          cb_drop N11 (List.forall_mem_append.mpr ⟨by k_dflt k_allIn, all_cons (by k_dflt k_mem) (all_cons (by k_dflt k_mem) (all_cons (by k_dflt k_mem) (all_cons (by k_dflt k_mem) (fun q hq => by (repeat (first | exact hq | apply List.mem_cons_of_mem))))))⟩), by rw [hpb7]; simp, by omega,
                          ⟨by (have e9 := strs_snoc (x := W y7) (t := t9) hls9.pb; (have e10 : (c7 ++ ((x.sh :: (r0 :: rs).map Lt.sh ++ [x.inv.sh]) ++ (don7 ++ [y7]))).map W = (c7 ++ ((x.sh :: (r0 :: rs).map Lt.sh ++ [x.inv.sh]) ++ don7)).map W ++ [W y7] := by simp); rw [e10]; exact e9), hls9.txt⟩⟩
                  | cons y5 c5 =>
                    obtain ⟨t6, hx6⟩ := hm5.get don.length y5.code (by (rw [hls5]; simp))
                    refine' next_led ?cn1 ?cn2 ?cn3 hLi5 ?cn4 hx6 ?_
                    case cn1 => exact F5
                    case cn2 => exact N5
                    case cn3 => k_dflt k_updF
                    case cn4 => k_dflt k_mem
                    intro h6 o6 hLi6 F6 N6
                    dsimp only [ForTurn]
                    have hdl : don.length ≤ 100 := by (have e6 := congrArg List.length hls5; simp only [List.length_append, List.length_cons, List.length_nil, List.length_map] at e6 hrz8; omega)
                    have hpl5 : pbv5.length = pb.length + don.length := by (have e6 := hLS5.pb.len_eq; rw [List.length_map, List.length_append] at e6; exact e6)
                    have hP := push_any ok pbv5 pbn5 sgv sgn lno t1 (by omega)
                    k_steps
                    unfold Hold
                    rename Tok => tw9
                    rintro _ h9 tk9 _ F9 N9 ⟨rfl, rfl⟩
                    clear hP
                    dsimp only [Lex.led, List.cons_append, List.nil_append] at N9
                    k_steps
                    rename Fr _ _ _ _ => F11
                    rename News _ _ _ _ => N11
                    dsimp only [ForFlow]
                    exact IH5 c5 _ (by simp) ⟨_, don ++ [y5], o6, pbv5 ++ [.str (W y5) tw9], pbn5 + 1, _, _, rfl, fr_ps F11 (by k_dflt (repeat (first | exact List.forall_mem_nil _ | refine all_p rfl ?_))),
                      cb_drop N11 (List.forall_mem_append.mpr ⟨by k_dflt k_allIn, all_cons (by k_dflt k_mem) (all_cons (by k_dflt k_mem) (all_cons (by k_dflt k_mem) (all_cons (by k_dflt k_mem) (all_cons (by k_dflt k_mem) (fun q hq => by (repeat (first | exact hq | apply List.mem_cons_of_mem)))))))⟩), by (rw [List.length_append]; exact hLi6), by rw [hls5]; simp, ⟨by (have e9 := strs_snoc (x := W y5) (t := tw9) hLS5.pb; (have e10 : (pb ++ (don ++ [y5])).map W = (pb ++ don).map W ++ [W y5] := by simp); rw [e10]; exact e9), hLS5.txt⟩⟩
            · have hd9 : decide (y = x.inv) = false := decide_eq_false he
              have hz8 : rv.length ≤ 1000 := by omega
              have hT : Turn row (x :: (pb ++ tx1.map (·.1))) (row ++ [x]) (pb ++ tx1.map (·.1)) := by
                have e8 := push_ne (q := q) hrun (fun h => hend h q y rfl) he (pb ++ tx1.map (·.1))
                have e9 : row = q ++ y :: run := by (rw [hrow]; simp)
                rw [e9]; exact e8
              k_steps
              rename Fr _ _ _ _ => F5
              rename News _ _ _ _ => N5
              exact ⟨rfl, _, row ++ [x], pb, tx1, R, _, _, pbv, pbn, sgv, sgn, lno, t1, _, _, rfl, fr_ps F5 (by k_dflt (repeat (first | exact List.forall_mem_nil _ | refine all_p rfl ?_))),
              cb_drop N5 (List.forall_mem_append.mpr ⟨by k_dflt k_allIn, all_cons (by k_dflt k_mem) (all_cons (by k_dflt k_mem) (all_cons (by k_dflt k_mem) (fun q hq => by (repeat (first | exact hq | apply List.mem_cons_of_mem)))))⟩), hls, ints_snoc hri, hbare, hT, by omega, by omega, hR, hOB⟩
        case behind =>
          rintro f s4 ⟨rfl, u4, row', pb', tx', R', rv', rn', pbv4, pbn4, sgv4, sgn4, lno4, t14, h4, tk4, rfl, F4, N4, hls4, hri4, hb4, hT, hz1, hz2, hR4, hOB4⟩
          dsimp only [Lex.led, List.cons_append, List.nil_append] at N4
          have hC := get_tok gw (S.upd pbv4 pbn4 sgv4 sgn4 lno4 t14) (ok.upd ..) pb' tx' hls4 (by omega) (by omega)
          k_steps
          unfold Hold
          rintro _ h9 tk9 _ F9 N9 ⟨o9, pb9, tx9, k9, pbv9, pbn9, sgv9, sgn9, t19, hnx9, ⟨t9, rfl⟩, rfl, hls9⟩
          clear hC
          dsimp only [Lex.led, List.cons_append, List.nil_append] at N9
          k_steps
          unfold Hold
          rename Fr _ _ _ _ => F5
          rename News _ _ _ _ => N5
          have hT9 : Turn row rest row' (pb' ++ tx'.map (·.1)) := by (rw [hrest]; exact hT)
          exact IH (row', pb' ++ tx'.map (·.1)) _ ⟨hkept.good, hT9⟩ ⟨_, o9, pb9, tx9, t9, R', rv', _, pbv9, pbn9, sgv9, sgn9, lno4 + k9, t19, _, _, rfl, fr_ps F5 (by k_dflt (repeat (first | exact List.forall_mem_nil _ | refine all_p rfl ?_))),
            cb_drop N5 (List.forall_mem_append.mpr ⟨by k_dflt k_allIn, all_cons (by k_dflt k_mem) (all_cons (by k_dflt k_mem) (all_cons (by k_dflt k_mem) (fun q hq => by (repeat (first | exact hq | apply List.mem_cons_of_mem)))))⟩), hls9, hri4, hnx9.rest.symm, fun h => by (subst h; (have e9 := hnx9.rest); rw [(hnx9.none rfl).1, (hnx9.none rfl).2] at e9; exact e9.symm), by (have := hnx9.bare; omega), hkept.turn hT9, hR4, hOB4⟩
end
section
/-! the state of _law_square's for -/
open PySem PySem.W PyProof.Rows PySem.Calls
abbrev Sq.start : Sq := ⟨1, 0, 0, 1, 0⟩
inductive SqInv (R I : Nat) (rv : List Value) (n : Nat) (oth : List (Addr × Obj)) (s : Shared) (row : List Lt) (g : Heap) (L : Nat) (c : List Lt) (s' : Shared) : Prop
  | mk (u : PySem.Str → Option Value) (don : List Lt) (q : Sq) (o : Obj) (t1 t2 t3 t4 t5 : Tok) (h : Heap) (tk : Nat) (h0 : s' = { s with heap := h, toks := tk }) (h1 : Fr g L h (kstB u [(PySem.Str.ofString "one", .int q.one t1), (PySem.Str.ofString "two", .int q.two t2), (PySem.Str.ofString "three", .int q.three t3), (PySem.Str.ofString "four", .int q.four t4), (PySem.Str.ofString "rise", .int q.rise t5)])) (h2 : News g L h ((R, listOf rv.toArray n) :: (I, o) :: oth)) (h3 : IsLi o R don.length) (h4 : row = don ++ c) (h5 : q = Sq.start.run don) (h6 : R < I) (h7 : OffBase I oth) : SqInv R I rv n oth s row g L c s'
/-- what _law_square gives -/
inductive SqPost (R : Nat) (rv : List Value) (n : Nat) (row : List Lt) (r : Value) (nx : List (Addr × Obj)) : Prop
  | mk (T : Nat) (t1 t2 t3 t4 t5 : Tok) (h0 : r = .ref T) (h1 : nx = [(R, listOf rv.toArray n), (T, ({ cls := .type "tuple", data := .seq #[.int (Sq.start.run row).one t1, .int (Sq.start.run row).two t2, .int (Sq.start.run row).three t3, .int (Sq.start.run row).four t4, .int (Sq.start.run row).rise t5] } : Obj))]) : SqPost R rv n row r nx
end
section
open PySem PySem.W PyProof.Rows PySem.Calls
local macro_rules | `(tactic| k_ownIn) => `(tactic| first | exact Rest.own (own_base (by with_reducible assumption) (by omega)) | fail)
local macro_rules | `(tactic| walk_at "off base") => `(tactic| first | with_reducible assumption | ((repeat ((with_reducible rename _ ∧ _ => hq9); obtain ⟨_, _⟩ := hq9)); exact off_all (by with_reducible assumption)))
local macro_rules | `(tactic| walk_at "pyIter ref") => `(tactic| (k_here; (k_dflt (refine' iter_led ?F ?N ?m ?_; (case F => k_asm); (case N => k_asm); (case m => k_mem)); intro I' o' h' hLi' F' N' l1; (try k_lt l1); (try k_sweep))))
set_option maxHeartbeats 4000000 in
theorem square_con (w : World) (R : Nat) (rv : List Value) (n : Nat) (row : List Lt) (hi : IntsAre rv (row.map Lt.code)) (hl : row.length ≤ 1000) :
    Con w 350 132 [.ref R] [(R, listOf rv.toArray n)] (SqPost R rv n row) := by
  unfold Con KF PG
  k_fill
  intro p loose mean mg mb dp un gd cn cs a ccd cl outer A₀ base h₀ L m oth s Q E B F X N O T CH hk hdp hun hret
  dsimp only [List.cons_append, List.nil_append] at N
  simp only [List.map_cons, List.map_nil] at O
  k_dflt k_enter
  k_steps
  rename Fr _ _ _ _ => F1
  rename News _ _ _ _ => N1
  rename IsLi _ _ _ => hLi1
  refine for_ind (r := fun a b : List Lt => a.length < b.length) (SqInv R _ rv n oth s row _ _) row ((measure fun c : List Lt => c.length).wf.apply _)
    ⟨_, [], Sq.start, _, _, _, _, _, _, _, _, rfl, fr_ps F1 (by k_dflt (repeat (first | exact List.forall_mem_nil _ | refine all_p rfl ?_))),
      cb_drop N1 (List.forall_mem_cons.mpr ⟨by k_dflt k_mem, List.forall_mem_cons.mpr ⟨by k_dflt k_mem, fun q hq => by (repeat (first | exact hq | apply List.mem_cons_of_mem))⟩⟩), hLi1, rfl, rfl, by omega, by walk_at "off base"⟩ (by passes_own) ?turn
  case turn =>
    clear F1 N1 hLi1
    rintro c s1 IH ⟨u, don, q, o, t1, t2, t3, t4, t5, h1, tk1, rfl, F2, N2, hLi, hrow, hq, hRI, hOB⟩
    cases c with
    | nil =>
      refine' next_led_end ?en1 ?en2 ?en3 ?en4 ?en5 hLi ?en6 ?en7 ?_
      case en1 => exact rfl
      case en2 => exact F2
      case en3 => exact N2
      case en4 => k_dflt k_mem
      case en5 => k_dflt k_ownIn
      case en6 => k_dflt k_mem
      case en7 => (rw [hi.length, List.length_map, hrow, List.append_nil]; exact Nat.le_refl _)
      intro h3 F3 N3
      dsimp only [ForTurn]
      rw [List.append_nil] at hrow
      subst hrow hq
      k_steps
      rename News _ _ _ _ => kN
      exact hret _ _ _ [(R, listOf rv.toArray n), (_, _)] (by k_asm) (cb_drop kN (List.forall_mem_append.mpr ⟨by k_dflt k_allIn, fun q hq => by (repeat (first | exact hq | apply List.mem_cons_of_mem))⟩)) ⟨_, t1, t2, t3, t4, t5, rfl, rfl⟩
    | cons y c =>
      obtain ⟨t6, hx6⟩ := hi.get don.length y.code (by (rw [hrow]; simp))
      refine' next_led ?cn1 ?cn2 ?cn3 hLi ?cn4 hx6 ?_
      case cn1 => exact F2
      case cn2 => exact N2
      case cn3 => k_dflt k_updF
      case cn4 => k_dflt k_mem
      intro h3 o3 hLi3 F3 N3
      dsimp only [ForTurn]
      cases y
      all_goals simp only [Lt.code]
      all_goals k_steps
      · rename Fr _ _ _ _ => F4
        rename News _ _ _ _ => N4
        dsimp only [ForFlow]
        exact IH c _ (by simp) ⟨_, don ++ [.a], ⟨q.one, q.two + 1 * q.one, q.three, q.four + 1 * q.three, q.rise + 1⟩, o3, _, _, _, _, _, _, _, rfl, fr_ps F4 (by k_dflt (repeat (first | exact List.forall_mem_nil _ | refine all_p rfl ?_))),
          cb_drop N4 (List.forall_mem_cons.mpr ⟨by k_dflt k_mem, List.forall_mem_cons.mpr ⟨by k_dflt k_mem, fun q hq => by (repeat (first | exact hq | apply List.mem_cons_of_mem))⟩⟩), by (rw [List.length_append]; exact hLi3), by rw [hrow]; simp, by (rw [Sq.run_append, ← hq]; simp only [Sq.run, List.foldl_cons, List.foldl_nil]; apply Sq.ext <;> simp only [Sq.step] <;> omega), hRI, hOB⟩
      · rename Fr _ _ _ _ => F4
        rename News _ _ _ _ => N4
        dsimp only [ForFlow]
        exact IH c _ (by simp) ⟨_, don ++ [.A], ⟨q.one, q.two + -1 * q.one, q.three, q.four + -1 * q.three, q.rise + -1⟩, o3, _, _, _, _, _, _, _, rfl, fr_ps F4 (by k_dflt (repeat (first | exact List.forall_mem_nil _ | refine all_p rfl ?_))),
          cb_drop N4 (List.forall_mem_cons.mpr ⟨by k_dflt k_mem, List.forall_mem_cons.mpr ⟨by k_dflt k_mem, fun q hq => by (repeat (first | exact hq | apply List.mem_cons_of_mem))⟩⟩), by (rw [List.length_append]; exact hLi3), by rw [hrow]; simp, by (rw [Sq.run_append, ← hq]; simp only [Sq.run, List.foldl_cons, List.foldl_nil]; apply Sq.ext <;> simp only [Sq.step] <;> omega), hRI, hOB⟩
      · rename Fr _ _ _ _ => F4
        rename News _ _ _ _ => N4
        dsimp only [ForFlow]
        exact IH c _ (by simp) ⟨_, don ++ [.b], ⟨q.one - 1 * q.two, q.two, q.three - 1 * q.four, q.four, q.rise + 1⟩, o3, _, _, _, _, _, _, _, rfl, fr_ps F4 (by k_dflt (repeat (first | exact List.forall_mem_nil _ | refine all_p rfl ?_))),
          cb_drop N4 (List.forall_mem_cons.mpr ⟨by k_dflt k_mem, List.forall_mem_cons.mpr ⟨by k_dflt k_mem, fun q hq => by (repeat (first | exact hq | apply List.mem_cons_of_mem))⟩⟩), by (rw [List.length_append]; exact hLi3), by rw [hrow]; simp, by (rw [Sq.run_append, ← hq]; simp only [Sq.run, List.foldl_cons, List.foldl_nil]; apply Sq.ext <;> simp only [Sq.step] <;> omega), hRI, hOB⟩
      · rename Fr _ _ _ _ => F4
        rename News _ _ _ _ => N4
        dsimp only [ForFlow]
        exact IH c _ (by simp) ⟨_, don ++ [.B], ⟨q.one - -1 * q.two, q.two, q.three - -1 * q.four, q.four, q.rise + -1⟩, o3, _, _, _, _, _, _, _, rfl, fr_ps F4 (by k_dflt (repeat (first | exact List.forall_mem_nil _ | refine all_p rfl ?_))),
          cb_drop N4 (List.forall_mem_cons.mpr ⟨by k_dflt k_mem, List.forall_mem_cons.mpr ⟨by k_dflt k_mem, fun q hq => by (repeat (first | exact hq | apply List.mem_cons_of_mem))⟩⟩), by (rw [List.length_append]; exact hLi3), by rw [hrow]; simp, by (rw [Sq.run_append, ← hq]; simp only [Sq.run, List.foldl_cons, List.foldl_nil]; apply Sq.ext <;> simp only [Sq.step] <;> omega), hRI, hOB⟩
end
section
/-! the letters of a braid as a text -/
open PySem PySem.W PyProof.Rows PySem.Calls
def Lt.ch : Lt → Nat
  | .a => 97 | .A => 65 | .b => 98 | .B => 66
def wstr (w : List Lt) : PySem.Str := ⟨(w.map Lt.ch).toArray⟩
def pcs : List (List Lt) := [[.a], [.b], [.a, .A], [.A, .a], [.b, .B], [.B, .b], [.a, .b, .a, .B, .A, .B], [.b, .a, .b, .A, .B, .A]]
theorem pcs_len {q : List Lt} (h : q ∈ pcs) : q.length ≤ 6 := by
  simp only [pcs, List.mem_cons, List.not_mem_nil, or_false] at h
  rcases h with rfl | rfl | rfl | rfl | rfl | rfl | rfl | rfl <;> decide
theorem pcs_put {u v q : List Lt} {k : Nat} (h : Ins (u ++ v) k) (hq : q ∈ pcs) : Ins (u ++ q ++ v) (k + q.length % 2) := by
  refine .put u v q k _ h ?_
  simp only [pcs, List.mem_cons, List.not_mem_nil, or_false] at hq
  rcases hq with rfl | rfl | rfl | rfl | rfl | rfl | rfl | rfl
  · exact .inl ⟨rfl, rfl⟩
  · exact .inr (.inl ⟨rfl, rfl⟩)
  all_goals exact .inr (.inr ⟨rfl, by decide⟩)
theorem pcs_strs {t1 t2 t3 t4 t5 t6 t7 t8 : Tok} : StrsAre [.str (PySem.Str.ofString "a") t1, .str (PySem.Str.ofString "b") t2, .str (PySem.Str.ofString "aA") t3, .str (PySem.Str.ofString "Aa") t4, .str (PySem.Str.ofString "bB") t5, .str (PySem.Str.ofString "Bb") t6, .str (PySem.Str.ofString "abaBAB") t7, .str (PySem.Str.ofString "babABA") t8] (pcs.map wstr) := by
  have e : pcs.map wstr = [PySem.Str.ofString "a", PySem.Str.ofString "b", PySem.Str.ofString "aA", PySem.Str.ofString "Aa", PySem.Str.ofString "bB", PySem.Str.ofString "Bb", PySem.Str.ofString "abaBAB", PySem.Str.ofString "babABA"] := by decide +kernel
  rw [e]
  exact .cons _ _ (.cons _ _ (.cons _ _ (.cons _ _ (.cons _ _ (.cons _ _ (.cons _ _ (.cons _ _ .nil)))))))
/-- the state of the for over the numbers -/
inductive StInv (l P I : Nat) (nv pv : List Value) (nn pn : Nat) (oth : List (Addr × Obj)) (s : Shared) (ns : List Int) (g : Heap) (L : Nat) (c : List Int) (s' : Shared) : Prop
  | mk (u : PySem.Str → Option Value) (don : List Int) (br : List Lt) (k : Nat) (o : Obj) (t1 t2 : Tok) (h : Heap) (tk : Nat) (h0 : s' = { s with heap := h, toks := tk }) (h1 : Fr g L h (kstB u [(PySem.Str.ofString "pieces", .ref P), (PySem.Str.ofString "braid", .str (wstr br) t1), (PySem.Str.ofString "alone", .int (k : Int) t2)])) (h2 : News g L h ((l, listOf nv.toArray nn) :: (P, listOf pv.toArray pn) :: (I, o) :: oth)) (h3 : IsLi o l don.length) (h4 : ns = don ++ c) (h5 : Ins br k) (h6 : br.length ≤ 6 * don.length) (h7 : k ≤ don.length) (h8 : l < P) (h9 : P < I) (h10 : OffBase I oth) : StInv l P I nv pv nn pn oth s ns g L c s'
end
section
/-! list comprehensions over a text -/
open PySem PySem.W PyProof.Rows PySem.Calls
open PyProof.Rows.LCg
section
variable {prog : Program} {w : World} {A : Around} {E : Value → Shared → Prop} {s : Shared} {h₀ : Heap} {L : Addr} {m : Str → Option Value} {env : Env}
def SrcS (prog : Program) (w : World) (A : Around) (h₀ : Heap) (L : Addr) (m : Str → Option Value) (env : Env) (elt : Expr) (x : Str) (scope : Scope) (cl : List (Str × Addr)) (Fin : Shared → List Value → List (Addr × Obj) → Prop) (xv : Value) (s₁ : Shared) : Prop :=
  ∃ (z : Str) (t : Tok) (news : List (Addr × Obj)), xv = .str z t ∧ A.handled = none ∧ Fr h₀ L s₁.heap m ∧ News h₀ L s₁.heap news ∧ z.cps.all (· < 128) = true ∧ z.cps.size ≤ sizeLine ∧
    ∀ s₂ : Shared, (∃ h, s₂ = { s₁ with heap := h }) → CompRest prog w A h₀ L m env elt x scope cl s₂ (fun _ => True) (SignAt z) (Fin s₂) z.cps.size 0 [] news
theorem ListComp_S {elt iter : Expr} {x : Str} {px : Pos} {scope : Scope} {cl : List (Str × Addr)} {pos : Pos} {Q : Value → Shared → Prop} (_ : Fr h₀ L s.heap m)
    (hclos : closureFor scope env = pure cl) (hcell : ∀ y ∈ scope.names, y.2 ≠ .cell) (hkind : scope.kind = .function)
    (hnames : ∀ y ∈ scope.names, y.2 = .local → scope.names.lookup y.1 = some .local) (hx : scope.names.lookup x = some .local)
    (h : wpAny (model prog w) A (eval iter env) (SrcS prog w A h₀ L m env elt x scope cl (fun s₂ => FinE h₀ L m s₂ Q)) E s)
    (hs : ∀ x, foldedSetIterable iter env x = pure x := by intro _; rfl) :
    wpAny (model prog w) A (eval (.ListComp elt [⟨.Name x px, iter, [], 0⟩] scope pos) env) Q E s := by
  rw [eval_ListComp]
  refine wpAny_comprehension_free (use := none) rfl hs hclos hkind hnames (wpAny_mono h (fun xv s₁ h₁ => ?_) fun _ _ e => e)
  obtain ⟨z, t, news, rfl, hh, F, N, ha, hsz, R⟩ := h₁
  refine wpAny_pyIter_ascii ha ?_
  have up : ∀ b o, s₁.heap.get? b = some o → (s₁.heap.push { cls := .type "str_ascii_iterator", data := .fields #[.str z t, .int 0 0] }).get? b = some o := fun b o e => Heap.get?_push_of_some _ e
  refine block_U (Walks.strAscii hh s₁.heap.objs.size z t) hsz (fun i h st => by obtain ⟨o, e, _⟩ := st; exact ⟨o, e⟩)
    (fun i h h' o nw st e e' _ _ _ => by obtain ⟨o₁, e₁, r⟩ := st; exact ⟨o₁, by rw [e'] ; rw [e] at e₁; exact e₁, r⟩) hcell hkind hx ⟨_, Heap.get?_push_size _ rfl, rfl, rfl⟩ (fun b hb => ?_)
    (F.keeps up) (N.grown up) (Nat.ne_of_lt F.ns.lt) (next_is_new F) (fun p hp => Nat.ne_of_lt (Heap.lt_size (N p hp).1)) trivial (R _ ⟨_, rfl⟩) ?_
  · show b < (s₁.heap.push _).objs.size
    rw [Heap.size_push, List.mem_singleton.mp hb]
    exact Nat.lt_succ_self _
  · intro D C h tk m' ys news' F' N' o1 hn hC₀ hD₀ hCL hDL hCD offC fin
    refine ⟨m', hn, fun h'' hs'' => fin D h'' tk (F'.change hs'' hCL hC₀) (fun p hp => ?_) o1⟩
    refine ⟨hs''.extBut _ _ ?_ (N' p hp).1, (N' p hp).2⟩
    rcases List.mem_cons.mp hp with rfl | hp
    · exact Ne.symm hCD
    · exact offC p hp
theorem ints_snoc' {vs : List Value} {ns : List Int} {x : Int} {t : Tok} (h : IntsAre vs ns) : IntsAre (vs ++ [.int x t]) (ns ++ [x]) := by
  induction h with
  | nil => exact .cons _ _ .nil
  | cons y u h ih => exact .cons _ _ ih
/-- the turns over a text of letters -/
theorem comp_wstr {elt : Expr} {x : Str} {scope : Scope} {cl : List (Str × Addr)} {S : List (Addr × Obj) → Prop} {Fin : List Value → List (Addr × Obj) → Prop} {news : List (Addr × Obj)} (br : List Lt) (g : Lt → Int)
    (turn : ∀ (l : Lt) t (I : Nat) oI (C : Nat) oC (D : Nat) m₂ ys h tk (E' : Value → Shared → Prop), NsObj oC m₂ → m₂ x = some (.str ⟨#[l.ch]⟩ t) → Fr h₀ L h m → News h₀ L h ((I, oI) :: (C, oC) :: (D, lst ys) :: news) → Off3 I C D news → ((@Ne Nat I C) ∧ (@Ne Nat I D) ∧ (@Ne Nat C D)) →
      wpAny (model prog w) A (eval elt (compEnvC scope cl C env)) (fun y s₂ => Hold (CompEnd h₀ L m { s with heap := h, toks := tk } I oI C oC D (lst ys) S (fun y news' => news' = news ∧ ∃ t, y = .int (g l) t) y s₂)) E' { s with heap := h, toks := tk })
    (fin : ∀ ys, IntsAre ys (br.map g) → Fin ys news) :
    CompRest prog w A h₀ L m env elt x scope cl s S (SignAt (wstr br)) Fin (wstr br).cps.size 0 [] news := by
  have key : ∀ (j i : Nat) (ys : List Value), i + j = br.length → IntsAre ys ((br.take i).map g) → CompRest prog w A h₀ L m env elt x scope cl s S (SignAt (wstr br)) Fin j i ys news := by
    intro j
    induction j with
    | zero =>
      intro i ys hi hy
      have e : i = br.length := by omega
      subst e
      rw [List.take_length] at hy
      exact CompRest.zero (fin ys hy)
    | succ j ih =>
      intro i ys hi hy
      refine CompRest.succ ?_
      intro v I oI C oC D m₂ h tk E' hv hC hx F N off ne
      obtain ⟨c, u, hc, rfl⟩ := hv
      have hlt : i < br.length := by omega
      have hc' : c = (br[i]).ch := by
        have : (wstr br).cps[i]? = some (br[i]).ch := by simp [wstr, hlt]
        rw [this] at hc
        exact (Option.some.inj hc).symm
      subst hc'
      refine wpAny_mono (turn br[i] u I oI C oC D m₂ ys h tk E' hC hx F N off ne) (fun y s₂ hq => ?_) fun _ _ e => e
      obtain ⟨h', tk', nw, e, F', N', off', hS, hn, t', hy'⟩ := hq
      rw [hn] at N' off' hS
      refine ⟨h', tk', news, e, F', N', off', hS, ?_⟩
      rw [hy']
      refine ih (i + 1) _ (by omega) ?_
      rw [List.take_add_one, List.getElem?_eq_getElem hlt]
      rw [List.map_append]
      exact ints_snoc' hy
  have hz : (wstr br).cps.size = br.length := by simp [wstr]
  rw [hz]
  exact key br.length 0 [] (by omega) (by simp only [List.take_zero, List.map_nil]; exact .nil)
theorem wstr_ascii (br : List Lt) : (wstr br).cps.all (· < 128) = true := by
  simp [wstr]
  intro l _
  cases l <;> decide
end
section
variable {prog : Program} {w : World} {A : Around} {E : Value → Shared → Prop} {s : Shared} {h₀ : Heap} {L : Addr} {m : Str → Option Value} {news : List (Addr × Obj)} {t u : Tok} {Q : Value → Shared → Prop}
theorem index_letter {l : Lt} (hA : A.handled = none) (h : ∀ tk, Q (.int l.idx s.toks) { s with toks := tk }) : wpAny (model prog w) A (call (.builtin "str.index") [.str (PySem.Str.ofString "aAbB") t, .str ⟨#[l.ch]⟩ u]) Q E s := by
  refine index_or hA (fun hf => ?_) (fun _ _ => ?_)
  · exfalso; revert hf; cases l <;> decide +kernel
  · have e : Txt.find (PySem.Str.ofString "aAbB") ⟨#[l.ch]⟩ = l.idx := by cases l <;> decide +kernel
    rw [e]; exact h _
theorem mod_nn {a b : Int} (hb : 0 < b) (h : ∀ t tk, Q (.int (a % b) t) { s with toks := tk }) : wpAny (model prog w) A (binaryOp .Mod (.int a t) (.int b u)) Q E s := by
  refine mod_int' (by omega) ?_
  rw [Int.fmod_eq_emod_of_nonneg a (by omega)]
  exact h _ _
theorem div_nn {a b : Int} (hb : 0 < b) (hz : b < 1000000) (h : ∀ t tk, Q (.int (a / b) t) { s with toks := tk }) : wpAny (model prog w) A (binaryOp .FloorDiv (.int a t) (.int b u)) Q E s := by
  refine floordiv_int (by omega) ?_ (Or.inl (PyProof.noPylong_small (by omega)))
  rw [Int.fdiv_eq_ediv_of_nonneg a (by omega)]
  exact h _ _
theorem braid_piece {value slice : PySem.Expr} {P n : Nat} {pv : List Value} {k : Int} (N : News h₀ L s.heap news) (hm : (P, listOf pv.toArray n) ∈ news) (hi : StrsAre pv (pcs.map wstr)) (h0 : 0 ≤ k) (h8 : k < 8)
    (h : ∀ q t, q ∈ pcs → Q (.str (wstr q) t) s)
    (hs : subscripted slice false (.ref P) (.int k u) = operate [.ref P, .int k u] (getItem (.ref P) (.int k u)) := by with_unfolding_all rfl) :
    wpAny (model prog w) A (subscriptTail value slice (.ref P) (.int k u)) Q E s := by
  have hlt : k.toNat < pcs.length := by show k.toNat < 8; omega
  obtain ⟨t, hx⟩ : ∃ t, pv[k.toNat]? = some (.str (wstr pcs[k.toNat]) t) := hi.at (by rw [List.getElem?_map, List.getElem?_eq_getElem hlt]; rfl)
  exact tail_any (led_list N hm).typeIs slot_list_getitem.lookup (wpAny_getItem_list (led_list N hm) h0 (by omega) (by simpa using hx) (h _ t (List.getElem_mem hlt))) hs
theorem len_wstr {br : List Lt} (hz : br.length ≤ 1000) (h : ∀ t tk, Q (.int (br.length : Int) t) { s with toks := tk }) : wpAny (model prog w) A (call (.builtin "len") [.str (wstr br) t]) Q E s := by
  have e : (wstr br).length = br.length := by simp [wstr, Str.length]
  refine PyProof.Rows.len_str (by rw [e]; omega) ?_
  rw [e]
  exact h _ _
theorem add_wstr {x y : List Lt} (hz : x.length + y.length ≤ 1000) (h : ∀ t tk, Q (.str (wstr (x ++ y)) t) { s with toks := tk }) : wpAny (model prog w) A (binaryOp .Add (.str (wstr x) t) (.str (wstr y) u)) Q E s := by
  have e : wstr x ++ wstr y = wstr (x ++ y) := by apply Str.ext'; simp [Str.cps_append, wstr]
  refine PyProof.Rows.add_str (fun t' tk => ?_) (by simp [wstr, Str.length, sizeLine_eq]; omega)
  rw [e]
  exact h _ _
theorem slice_is (x : Str) (l u : Option Int) : Txt.slice x l u = StrLaws.sliceText x l u := rfl
theorem wstr_to {value slice : PySem.Expr} {br : List Lt} {j : Int} {uj : Tok} (hF : Fr h₀ L s.heap m) (hN : News h₀ L s.heap news) (h0 : 0 ≤ j) (h1 : j ≤ br.length) (hz : br.length ≤ 1000)
    (h : ∀ h' t' k, Fr h₀ L h' m → News h₀ L h' news → Q (.str (wstr (br.take j.toNat)) t') { s with heap := h', toks := k })
    (hs : subscripted slice false (.str (wstr br) t) (.ref s.heap.objs.size) = operate [.ref s.heap.objs.size, .str (wstr br) t] (getItem (.str (wstr br) t) (.ref s.heap.objs.size)))
    (ht : ∀ r, letTemporaryGo value (.str (wstr br) t) r = pure ()) :
    wpAny (model prog w) A (subscriptTail value slice (.str (wstr br) t) (.ref s.heap.objs.size)) Q E { s with heap := s.heap.push { cls := .type "slice", data := .fields #[.none, .int j uj, .none] } } := by
  refine slice_strN_ns hF hN (fun h' t' k F' N' => ?_) hs ht (by simp [wstr, Str.length, sizeLine_eq]; omega)
  have e : Txt.slice (wstr br) none (some j) = wstr (br.take j.toNat) := by
    rw [slice_is, StrLaws.sliceText_to ⟨h0, by simpa [wstr] using h1⟩]
    simp [wstr, List.map_take]
  rw [e]
  exact h h' t' k F' N'
theorem wstr_from {value slice : PySem.Expr} {br : List Lt} {j : Int} {uj : Tok} (hF : Fr h₀ L s.heap m) (hN : News h₀ L s.heap news) (h0 : 0 ≤ j) (h1 : j ≤ br.length) (hz : br.length ≤ 1000)
    (h : ∀ h' t' k, Fr h₀ L h' m → News h₀ L h' news → Q (.str (wstr (br.drop j.toNat)) t') { s with heap := h', toks := k })
    (hs : subscripted slice false (.str (wstr br) t) (.ref s.heap.objs.size) = operate [.ref s.heap.objs.size, .str (wstr br) t] (getItem (.str (wstr br) t) (.ref s.heap.objs.size)))
    (ht : ∀ r, letTemporaryGo value (.str (wstr br) t) r = pure ()) :
    wpAny (model prog w) A (subscriptTail value slice (.str (wstr br) t) (.ref s.heap.objs.size)) Q E { s with heap := s.heap.push { cls := .type "slice", data := .fields #[.int j uj, .none, .none] } } := by
  refine slice_strN_sn hF hN (fun h' t' k F' N' => ?_) hs ht (by simp [wstr, Str.length, sizeLine_eq]; omega)
  have e : Txt.slice (wstr br) (some j) none = wstr (br.drop j.toNat) := by
    rw [slice_is, StrLaws.sliceText_from ⟨h0, by simpa [wstr] using h1⟩]
    have e2 : ((wstr br).cps.toList.length : Int) = (br.length : Int) := by simp [wstr]
    rw [e2]
    have e3 : (wstr br).cps.toList = br.map Lt.ch := by simp [wstr]
    rw [e3, ← List.map_drop, List.take_of_length_le (by simp; omega)]
    rfl
  rw [e]
  exact h h' t' k F' N'
end
end
section
open PySem PySem.W PyProof.Rows PySem.Calls
local macro_rules | `(tactic| k_ownIn) => `(tactic| first | exact Rest.own (own_base (by with_reducible assumption) (by omega)) | fail)
local macro_rules | `(tactic| walk_at "off base") => `(tactic| first | with_reducible assumption | ((repeat ((with_reducible rename _ ∧ _ => hq9); obtain ⟨_, _⟩ := hq9)); exact off_all (by with_reducible assumption)))
local macro_rules | `(tactic| walk_at "pyIter ref") => `(tactic| (k_here; (k_dflt (refine' iter_led ?F ?N ?m ?_; (case F => k_asm); (case N => k_asm); (case m => k_mem)); intro I' o' h' hLi' F' N' l1; (try k_lt l1); (try k_sweep))))
local macro_rules | `(tactic| walk_at "subscriptTail Name BinOp ref int") => `(tactic| (k_here; k_dflt (refine' braid_piece ?N ?m ?i ?z0 ?z8 ?_; (case N => k_asm); (case m => k_mem); (case i => exact pcs_strs); (case z0 => omega); (case z8 => omega)); intro q' t' hq'))
local macro_rules | `(tactic| walk_at "binaryOp Mod int int") => `(tactic| (k_here; k_dflt (refine' mod_nn ?b ?_; (case b => omega)); intro t' tk'))
local macro_rules | `(tactic| walk_at "binaryOp FloorDiv int int") => `(tactic| (k_here; k_dflt (refine' div_nn ?b ?z ?_; (case b => omega); (case z => omega)); intro t' tk'))
local macro_rules | `(tactic| walk_at "call builtin:len") => `(tactic| (k_here; k_dflt (refine' len_wstr ?z ?_; (case z => first | assumption | ((with_reducible rename _ ∈ pcs => hq9); (have hq8 := pcs_len hq9); omega))); intro t' tk'))
local macro_rules | `(tactic| walk_at "binaryOp Add str str") => `(tactic| (k_here; k_dflt (refine' add_wstr ?z ?_; (case z => ((with_reducible rename _ ∈ pcs => hq9); (have hq8 := pcs_len hq9); (simp only [List.length_append, List.length_take, List.length_drop]); omega))); intro t' tk'))
local macro_rules | `(tactic| walk_at "subscriptTail Name Slice str ref") => `(tactic| (k_here; k_dflt ((first | ((with_reducible show wpAny _ _ (subscriptTail _ (PySem.Expr.Slice none (some _) none _) _ _) _ _ _); refine' wstr_to ?F ?N ?z0 ?z1 ?z ?_ ?s ?t) | ((with_reducible show wpAny _ _ (subscriptTail _ (PySem.Expr.Slice (some _) none none _) _ _) _ _ _); refine' wstr_from ?F ?N ?z0 ?z1 ?z ?_ ?s ?t)); (case F => k_asm); (case N => k_asm); (case z0 => assumption); (case z1 => assumption); (case z => assumption); (case s => with_unfolding_all rfl); (case t => (intro _; with_unfolding_all rfl))); intro h' t' tk' F' N'; (try k_sweep)))
local macro_rules | `(tactic| walk_at "call builtin:str.index") => `(tactic| (k_here; k_dflt (refine' index_letter ?a ?_; (case a => exact rfl)); intro tk'))
local macro_rules | `(tactic| walk_at "eval ListComp") => `(tactic| (k_here; k_dflt (refine ListComp_S (by k_asm) (by with_unfolding_all rfl) (by decide) (by rfl) (by decide) (by rfl) ?_)))
/-- what _law_strands gives -/
inductive StrandsPost (l : Nat) (nv : List Value) (n : Nat) (r : Value) (nx : List (Addr × Obj)) : Prop
  | mk (T D : Nat) (bv : List Value) (bn : Nat) (br : List Lt) (k : Nat) (t : Tok) (h0 : r = .ref T) (h1 : nx = [(l, listOf nv.toArray n), (D, listOf bv.toArray bn), (T, ({ cls := .type "tuple", data := .seq #[.ref D, .int (k : Int) t] } : Obj))]) (h2 : IntsAre bv (br.map Lt.idx)) (h3 : Ins br k) (h4 : br.length ≤ 30) : StrandsPost l nv n r nx
set_option maxHeartbeats 4000000 in
theorem strands_con (w : World) (l : Nat) (nv : List Value) (n : Nat) (ns : List Int) (hi : IntsAre nv ns) (hl : ns.length ≤ 5) (h0 : ∀ x ∈ ns, 0 ≤ x ∧ x < 1000000000) :
    Con w 350 120 [.ref l] [(l, listOf nv.toArray n)] (StrandsPost l nv n) := by
  unfold Con KF PG
  k_fill
  intro p loose mean mg mb dp un gd cn cs a ccd cl outer A₀ base h₀ L m oth s Q E B F X N O T CH hk hdp hun hret
  dsimp only [List.cons_append, List.nil_append] at N
  simp only [List.map_cons, List.map_nil] at O
  k_dflt k_enter
  k_steps
  rename Fr _ _ _ _ => F1
  rename News _ _ _ _ => N1
  rename IsLi _ _ _ => hLi1
  refine for_ind (r := fun a b : List Int => a.length < b.length) (StInv l _ _ nv _ n _ oth s ns _ _) ns ((measure fun c : List Int => c.length).wf.apply _)
    ⟨_, [], [], 0, _, _, _, _, _, rfl, fr_ps F1 (by k_dflt (repeat (first | exact List.forall_mem_nil _ | refine all_p rfl ?_))),
      cb_drop N1 (List.forall_mem_cons.mpr ⟨by k_dflt k_mem, List.forall_mem_cons.mpr ⟨by k_dflt k_mem, List.forall_mem_cons.mpr ⟨by k_dflt k_mem, fun q hq => by (repeat (first | exact hq | apply List.mem_cons_of_mem))⟩⟩⟩), hLi1, rfl, .nil, by simp, by simp, by omega, by omega, by walk_at "off base"⟩ (by passes_own) ?turn
  case turn =>
    clear F1 N1 hLi1
    rintro c s1 IH ⟨u, don, br, k, o, t1, t2, h1, tk1, rfl, F2, N2, hLi, hns, hins, hbl, hkl, hlP, hPI, hOB⟩
    cases c with
    | nil =>
      refine' next_led_end ?en1 ?en2 ?en3 ?en4 ?en5 hLi ?en6 ?en7 ?_
      case en1 => exact rfl
      case en2 => exact F2
      case en3 => exact N2
      case en4 => k_dflt k_mem
      case en5 => k_dflt k_ownIn
      case en6 => k_dflt k_mem
      case en7 => (rw [hi.length, hns, List.append_nil]; exact Nat.le_refl _)
      intro h3 F3 N3
      dsimp only [ForTurn]
      k_steps
      rename Fr _ _ _ _ => F4
      rename News _ _ _ _ => N4
      refine ⟨_, _, _, rfl, rfl, F4, N4, wstr_ascii br, ?hsz, ?src⟩
      case hsz => (have hz := congrArg List.length hns; simp only [List.length_append, List.length_nil] at hz; simp [wstr, sizeLine_eq]; omega)
      case src =>
        rintro s₂ ⟨h5, rfl⟩
        refine comp_wstr br Lt.idx (fun l' t5 I5 oI5 C5 oC5 D5 m5 ys h6 tk6 E6 hC5 hx5 F5 N5 off5 ne5 => ?elt) (fun ys hys => ?fin)
        case elt =>
          k_steps
          unfold Hold
          rename Fr _ _ _ _ => F6
          rename News _ _ _ _ => N6
          exact ⟨_, _, _, rfl, F6, N6, off5, trivial, rfl, _, rfl⟩
        case fin =>
          unfold LCg.FinE
          intro D5 h6 tk6 F5 N5 off5
          simp only [LCg.Off1] at off5
          k_steps
          rename News _ _ _ _ => kN
          have hkk : k ≤ 1000 := by (have := congrArg List.length hns; simp only [List.length_append, List.length_nil] at this; omega)
          exact hret _ _ _ [(l, listOf nv.toArray n), (_, listOf ys.toArray _), (_, _)] (by k_asm) (cb_drop kN (List.forall_mem_append.mpr ⟨by k_dflt k_allIn, fun q hq => by (repeat (first | exact hq | apply List.mem_cons_of_mem))⟩))
            ⟨_, _, ys, _, br, k, _, rfl, rfl, hys, hins, by (have := congrArg List.length hns; simp only [List.length_append, List.length_nil] at this; omega)⟩

    | cons y c =>
      obtain ⟨t6, hx6⟩ := hi.get don.length y (by (rw [hns]; simp))
      refine' next_led ?cn1 ?cn2 ?cn3 hLi ?cn4 hx6 ?_
      case cn1 => exact F2
      case cn2 => exact N2
      case cn3 => k_dflt k_updF
      case cn4 => k_dflt k_mem
      intro h3 o3 hLi3 F3 N3
      dsimp only [ForTurn]
      have hy := h0 y (by (rw [hns]; simp))
      have hz9 : br.length ≤ 1000 := by (have := congrArg List.length hns; simp only [List.length_append, List.length_cons] at this; omega)
      have hz7 : br.length ≤ 40 := by (have := congrArg List.length hns; simp only [List.length_append, List.length_cons] at this; omega)
      have hj0 : 0 ≤ y / 8 % ((br.length : Int) + 1) := Int.emod_nonneg _ (by omega)
      have hj1 : y / 8 % ((br.length : Int) + 1) ≤ br.length := by (have := Int.emod_lt_of_pos (y / 8) (show 0 < ((br.length : Int) + 1) by omega); omega)
      k_steps
      rename Fr _ _ _ _ => F5
      rename News _ _ _ _ => N5
      rename _ ∈ pcs => hq9
      dsimp only [ForFlow]
      rename List Lt => q9
      have e9 : ((k : Int) + (q9.length : Int) % 2) = ((k + q9.length % 2 : Nat) : Int) := by omega
      rw [e9] at F5
      have hj : (y / 8 % ((br.length : Int) + 1)).toNat ≤ br.length := by omega
      have hin9 := pcs_put (u := br.take (y / 8 % ((br.length : Int) + 1)).toNat) (v := br.drop (y / 8 % ((br.length : Int) + 1)).toNat) (by rw [List.take_append_drop]; exact hins) hq9
      have hq8 := pcs_len hq9
      exact IH c _ (by simp) ⟨_, don ++ [y], _, k + q9.length % 2, o3, _, _, _, _, rfl, fr_ps F5 (by k_dflt (repeat (first | exact List.forall_mem_nil _ | refine all_p rfl ?_))),
        cb_drop N5 (List.forall_mem_cons.mpr ⟨by k_dflt k_mem, List.forall_mem_cons.mpr ⟨by k_dflt k_mem, List.forall_mem_cons.mpr ⟨by k_dflt k_mem, fun q hq => by (repeat (first | exact hq | apply List.mem_cons_of_mem))⟩⟩⟩), by (rw [List.length_append]; exact hLi3), by rw [hns]; simp, hin9,
        by (simp only [List.length_append, List.length_take, List.length_drop, List.length_cons, List.length_nil]; omega), by (simp only [List.length_append, List.length_cons, List.length_nil]; omega), hlP, hPI, hOB⟩
end
section
open PySem PySem.W PyProof.Rows PySem.Calls
theorem gen_toks {α : Type} {M : Model} {A : Around} {t : Sem α} {Q : α → Shared → Prop} {E : Value → Shared → Prop} {h g d o} {x : Nat} (H : ∀ tk : Nat, 0 < tk → wpAny M A t Q E ⟨h, g, d, tk, o⟩) : wpAny M A t Q E ⟨h, g, d, x + 1, o⟩ := H _ (Nat.succ_pos _)
def sgn (d k : Bool) : PySem.Str := match d, k with
  | true, false => PySem.Str.ofString "<" | false, false => PySem.Str.ofString ">" | true, true => PySem.Str.ofString "<<" | false, true => PySem.Str.ofString ">>"
def escd (d k : Bool) : PySem.Str := match d, k with
  | true, false => PySem.Str.ofString "&lt;" | false, false => PySem.Str.ofString "&gt;" | true, true => PySem.Str.ofString "&lt;&lt;" | false, true => PySem.Str.ofString "&gt;&gt;"
theorem str_ex {x y : PySem.Str} {t : Tok} (h : x = y) : ∃ u, Value.str x t = .str y u := ⟨t, by rw [h]⟩
section
variable {prog : Program} {w : World} {A : Around} {E : Value → Shared → Prop} {s : Shared} {x y z : PySem.Str} {t u v : Tok} {Q : Value → Shared → Prop}
theorem in_f (hb : (!(Builtin.Str.occurrences x y 0 x.length 1).isEmpty) = false) (h : Q (.bool false) s) : wpAny (model prog w) A (compareOp .In (.str y u) (.str x t)) Q E s :=
  PyProof.Rows.in_str (by rw [hb]; exact h)
theorem in_t (hb : (!(Builtin.Str.occurrences x y 0 x.length 1).isEmpty) = true) (h : Q (.bool true) s) : wpAny (model prog w) A (compareOp .In (.str y u) (.str x t)) Q E s :=
  PyProof.Rows.in_str (by rw [hb]; exact h)
theorem rep_lit {k : Nat} (hk : 0 < k) (hyz : (y == z) = false) (hb : x.length + (x.length + 1) * z.length ≤ 16777216)
    (hq : ∀ t' k, Q (.str (Txt.replace x y z) t') { s with toks := k }) : wpAny (model prog w) A (call (.builtin "str.replace") [.str x t, .str y k, .str z (k + 1)]) Q E s :=
  SC.replace (by show k ≠ 0; omega) (by show k + 1 ≠ 0; omega) (by show k ≠ k + 1; omega) hyz hb hq
end
local macro_rules | `(tactic| walk_at "compareOp In str str") => `(tactic| (k_here; k_dflt (first | (refine' in_f ?hb ?_; (case hb => ((rename Bool => kb9); cases kb9 <;> decide +kernel))) | (refine' in_t ?hb ?_; (case hb => ((rename Bool => kb9); cases kb9 <;> decide +kernel))))))
local macro_rules | `(tactic| walk_at "call builtin:str.replace") => `(tactic| (k_here; k_dflt (refine' rep_lit ?hk ?hyz ?hb ?_; (case hk => with_reducible assumption); (case hyz => exact (by decide +kernel)); (case hb => ((rename Bool => kb9); cases kb9 <;> decide +kernel))); intro t' tk'))
local macro_rules | `(tactic| walk_at "execs cons") => `(tactic| (k_here; (with_reducible refine gen_toks ?_); intro tk' htk'))
local macro_rules | `(tactic| walk_at "execs nil") => `(tactic| (k_here; (with_reducible refine gen_toks ?_); intro tk' htk'))
set_option maxHeartbeats 4000000 in
theorem esc_73_true (w : World) (k : Bool) (t : Tok) : Con w 370 73 [.str (sgn true k) t] [] (fun r nx => (∃ t, r = .str (escd true k) t) ∧ nx = []) := by
  unfold Con KF PG
  k_fill
  intro p loose mean mg mb dp un gd cn cs a ccd cl outer A₀ base h₀ L m oth s Q E B F X N O T CH hk hdp hun hret
  simp only [List.nil_append] at N
  simp only [List.map_nil] at O
  k_dflt k_enter
  k_steps
  exact hret _ _ _ [] (by k_asm) (by k_asm) ⟨str_ex (by first | rfl | (cases k <;> decide +kernel)), rfl⟩
set_option maxHeartbeats 4000000 in
theorem esc_73_false (w : World) (k : Bool) (t : Tok) : Con w 370 73 [.str (sgn false k) t] [] (fun r nx => (∃ t, r = .str (escd false k) t) ∧ nx = []) := by
  unfold Con KF PG
  k_fill
  intro p loose mean mg mb dp un gd cn cs a ccd cl outer A₀ base h₀ L m oth s Q E B F X N O T CH hk hdp hun hret
  simp only [List.nil_append] at N
  simp only [List.map_nil] at O
  k_dflt k_enter
  k_steps
  exact hret _ _ _ [] (by k_asm) (by k_asm) ⟨str_ex (by first | rfl | (cases k <;> decide +kernel)), rfl⟩
set_option maxHeartbeats 4000000 in
theorem esc_80_true (w : World) (k : Bool) (t : Tok) : Con w 370 80 [.str (sgn true k) t] [] (fun r nx => (∃ t, r = .str (escd true k) t) ∧ nx = []) := by
  unfold Con KF PG
  k_fill
  intro p loose mean mg mb dp un gd cn cs a ccd cl outer A₀ base h₀ L m oth s Q E B F X N O T CH hk hdp hun hret
  simp only [List.nil_append] at N
  simp only [List.map_nil] at O
  k_dflt k_enter
  k_steps
  exact hret _ _ _ [] (by k_asm) (by k_asm) ⟨str_ex (by first | rfl | (cases k <;> decide +kernel)), rfl⟩
set_option maxHeartbeats 4000000 in
theorem esc_80_false (w : World) (k : Bool) (t : Tok) : Con w 370 80 [.str (sgn false k) t] [] (fun r nx => (∃ t, r = .str (escd false k) t) ∧ nx = []) := by
  unfold Con KF PG
  k_fill
  intro p loose mean mg mb dp un gd cn cs a ccd cl outer A₀ base h₀ L m oth s Q E B F X N O T CH hk hdp hun hret
  simp only [List.nil_append] at N
  simp only [List.map_nil] at O
  k_dflt k_enter
  k_steps
  exact hret _ _ _ [] (by k_asm) (by k_asm) ⟨str_ex (by first | rfl | (cases k <;> decide +kernel)), rfl⟩
set_option maxHeartbeats 4000000 in
theorem esc_87_true (w : World) (k : Bool) (t : Tok) : Con w 370 87 [.str (sgn true k) t] [] (fun r nx => (∃ t, r = .str (sgn true k) t) ∧ nx = []) := by
  unfold Con KF PG
  k_fill
  intro p loose mean mg mb dp un gd cn cs a ccd cl outer A₀ base h₀ L m oth s Q E B F X N O T CH hk hdp hun hret
  simp only [List.nil_append] at N
  simp only [List.map_nil] at O
  k_dflt k_enter
  k_steps
  exact hret _ _ _ [] (by k_asm) (by k_asm) ⟨str_ex (by first | rfl | (cases k <;> decide +kernel)), rfl⟩
set_option maxHeartbeats 4000000 in
theorem esc_87_false (w : World) (k : Bool) (t : Tok) : Con w 370 87 [.str (sgn false k) t] [] (fun r nx => (∃ t, r = .str (escd false k) t) ∧ nx = []) := by
  unfold Con KF PG
  k_fill
  intro p loose mean mg mb dp un gd cn cs a ccd cl outer A₀ base h₀ L m oth s Q E B F X N O T CH hk hdp hun hret
  simp only [List.nil_append] at N
  simp only [List.map_nil] at O
  k_dflt k_enter
  k_steps
  exact hret _ _ _ [] (by k_asm) (by k_asm) ⟨str_ex (by first | rfl | (cases k <;> decide +kernel)), rfl⟩
set_option maxHeartbeats 4000000 in
theorem esc_94_true (w : World) (k : Bool) (t : Tok) : Con w 370 94 [.str (sgn true k) t] [] (fun r nx => (∃ t, r = .str (escd true k) t) ∧ nx = []) := by
  unfold Con KF PG
  k_fill
  intro p loose mean mg mb dp un gd cn cs a ccd cl outer A₀ base h₀ L m oth s Q E B F X N O T CH hk hdp hun hret
  simp only [List.nil_append] at N
  simp only [List.map_nil] at O
  k_dflt k_enter
  k_steps
  exact hret _ _ _ [] (by k_asm) (by k_asm) ⟨str_ex (by first | rfl | (cases k <;> decide +kernel)), rfl⟩
set_option maxHeartbeats 4000000 in
theorem esc_94_false (w : World) (k : Bool) (t : Tok) : Con w 370 94 [.str (sgn false k) t] [] (fun r nx => (∃ t, r = .str (escd false k) t) ∧ nx = []) := by
  unfold Con KF PG
  k_fill
  intro p loose mean mg mb dp un gd cn cs a ccd cl outer A₀ base h₀ L m oth s Q E B F X N O T CH hk hdp hun hret
  simp only [List.nil_append] at N
  simp only [List.map_nil] at O
  k_dflt k_enter
  k_steps
  exact hret _ _ _ [] (by k_asm) (by k_asm) ⟨str_ex (by first | rfl | (cases k <;> decide +kernel)), rfl⟩
set_option maxHeartbeats 4000000 in
theorem esc_101_true (w : World) (k : Bool) (t : Tok) : Con w 370 101 [.str (sgn true k) t] [] (fun r nx => (∃ t, r = .str (escd true k) t) ∧ nx = []) := by
  unfold Con KF PG
  k_fill
  intro p loose mean mg mb dp un gd cn cs a ccd cl outer A₀ base h₀ L m oth s Q E B F X N O T CH hk hdp hun hret
  simp only [List.nil_append] at N
  simp only [List.map_nil] at O
  k_dflt k_enter
  k_steps
  exact hret _ _ _ [] (by k_asm) (by k_asm) ⟨str_ex (by first | rfl | (cases k <;> decide +kernel)), rfl⟩
set_option maxHeartbeats 4000000 in
theorem esc_101_false (w : World) (k : Bool) (t : Tok) : Con w 370 101 [.str (sgn false k) t] [] (fun r nx => (∃ t, r = .str (sgn false k) t) ∧ nx = []) := by
  unfold Con KF PG
  k_fill
  intro p loose mean mg mb dp un gd cn cs a ccd cl outer A₀ base h₀ L m oth s Q E B F X N O T CH hk hdp hun hret
  simp only [List.nil_append] at N
  simp only [List.map_nil] at O
  k_dflt k_enter
  k_steps
  exact hret _ _ _ [] (by k_asm) (by k_asm) ⟨str_ex (by first | rfl | (cases k <;> decide +kernel)), rfl⟩
end
section
open PySem PySem.W PyProof.Rows PySem.Calls
def lsgn (l : Lt) : PySem.Str := sgn l.up (!l.isS)
def hW (lo hi : Bool) (l : Lt) : PySem.Str := if (if l.up then lo else hi) then escd l.up (!l.isS) else sgn l.up (!l.isS)
theorem hW_good (lo hi : Bool) (h : (lo, hi) ∈ [(true, true), (false, true), (true, false)]) : GoodW (hW lo hi) := by
  simp only [List.mem_cons, List.not_mem_nil, or_false, Prod.mk.injEq] at h
  rcases h with ⟨rfl, rfl⟩ | ⟨rfl, rfl⟩ | ⟨rfl, rfl⟩
  all_goals
    refine ⟨fun l => ?_, fun l => ?_, fun l k => ?_, fun l => ?_⟩
    · cases l <;> decide +kernel
    · cases l <;> decide +kernel
    · cases l <;> cases k <;> decide +kernel
    · cases l <;> decide +kernel
/-- one of the five: its function, its words -/
structure Hand (w : World) (f : Nat) (W : Lt → PySem.Str) : Prop where
  lay : PySem.SeqAt.shaped (.list [.str (W .a), .str (W .A), .str (W .b), .str (W .B)]) = true
  keep : keepIn (KF w) (.ref f) = true
  good : GoodW W
  twice : ∀ d : Bool, (if d then W .b else W .B).cps = (if d then W .a else W .A).cps ++ (if d then W .a else W .A).cps
  esc : ∀ l t, Con w 370 f [.str (lsgn l) t] [] (fun r nx => (∃ t, r = .str (W l) t) ∧ nx = [])
theorem Hand.of {w : World} {f : Nat} {lo hi : Bool} (hly : PySem.SeqAt.shaped (.list [.str (hW lo hi .a), .str (hW lo hi .A), .str (hW lo hi .b), .str (hW lo hi .B)]) = true) (hk : keepIn (KF w) (.ref f) = true) (h : (lo, hi) ∈ [(true, true), (false, true), (true, false)])
    (hu : ∀ k t, Con w 370 f [.str (sgn true k) t] [] (fun r nx => (∃ t, r = .str (if lo then escd true k else sgn true k) t) ∧ nx = []))
    (hd : ∀ k t, Con w 370 f [.str (sgn false k) t] [] (fun r nx => (∃ t, r = .str (if hi then escd false k else sgn false k) t) ∧ nx = [])) : Hand w f (hW lo hi) := by
  refine ⟨hly, hk, hW_good lo hi h, ?_, fun l t => ?_⟩
  · simp only [List.mem_cons, List.not_mem_nil, or_false, Prod.mk.injEq] at h
    rcases h with ⟨rfl, rfl⟩ | ⟨rfl, rfl⟩ | ⟨rfl, rfl⟩ <;> decide +kernel
  · cases l
    · exact hu false t
    · exact hd false t
    · exact hu true t
    · exact hd true t
theorem hand_73 (w : World) : Hand w 73 (hW true true) := .of (by decide +kernel) (by kernel_rfl) (by decide) (esc_73_true w) (esc_73_false w)
theorem hand_80 (w : World) : Hand w 80 (hW true true) := .of (by decide +kernel) (by kernel_rfl) (by decide) (esc_80_true w) (esc_80_false w)
theorem hand_87 (w : World) : Hand w 87 (hW false true) := .of (by decide +kernel) (by kernel_rfl) (by decide) (esc_87_true w) (esc_87_false w)
theorem hand_94 (w : World) : Hand w 94 (hW true true) := .of (by decide +kernel) (by kernel_rfl) (by decide) (esc_94_true w) (esc_94_false w)
theorem hand_101 (w : World) : Hand w 101 (hW true false) := .of (by decide +kernel) (by kernel_rfl) (by decide) (esc_101_true w) (esc_101_false w)
inductive HandPost (w : World) (r : Value) (nx : List (Addr × Obj)) : Prop
  | mk (T f : Nat) (W : Lt → PySem.Str) (t1 t2 : Tok) (h0 : Hand w f W) (h1 : r = .ref T) (h2 : nx = [(T, ({ cls := .type "tuple", data := .seq #[.ref f, .str (W .a) t1, .str (W .A) t2] } : Obj))]) : HandPost w r nx
section
variable {prog : Program} {w : World} {A : Around} {E : Value → Shared → Prop} {s : Shared} {h₀ : Heap} {L : Addr} {m : Str → Option Value} {news : List (Addr × Obj)}
theorem tail_hold {value slice : PySem.Expr} {l : Nat} {k : Int} {u : Tok} {Q : Value → Shared → Prop} (h : Hold (wpAny (model prog w) A (subscriptTail value slice (.ref l) (.int k u)) Q E s)) : wpAny (model prog w) A (subscriptTail value slice (.ref l) (.int k u)) Q E s := h
theorem list_at {value slice : PySem.Expr} {l : Nat} {vs : List Value} {n : Nat} {k : Int} {u : Tok} {v : Value} {Q : Value → Shared → Prop} (N : News h₀ L s.heap news) (hm : (l, listOf vs.toArray n) ∈ news) (h0 : 0 ≤ k) (hx : vs[k.toNat]? = some v) (h1 : k < 1000)
    (h : Q v s)
    (hs : subscripted slice false (.ref l) (.int k u) = operate [.ref l, .int k u] (getItem (.ref l) (.int k u)) := by with_unfolding_all rfl) :
    wpAny (model prog w) A (subscriptTail value slice (.ref l) (.int k u)) Q E s :=
  tail_any (led_list N hm).typeIs slot_list_getitem.lookup (wpAny_getItem_list (led_list N hm) h0 (by omega) (by simpa using hx) h) hs
end
local macro_rules | `(tactic| walk_at "subscriptTail Name Name ref int") => `(tactic| (k_here; (refine tail_hold ?_)))
set_option maxHeartbeats 4000000 in
theorem hand_con (w : World) (k : Int) (t : Tok) (h0 : 0 ≤ k) (h5 : k < 5) : Con w 360 115 [.int k t] [] (HandPost w) := by
  unfold Con KF PG
  k_fill
  intro p loose mean mg mb dp un gd cn cs a ccd cl outer A₀ base h₀ L m oth s Q E B F X N O T CH hk hdp hun hret
  simp only [List.nil_append] at N
  simp only [List.map_nil] at O
  k_dflt k_enter
  k_steps
  unfold Hold
  have e : k = 0 ∨ k = 1 ∨ k = 2 ∨ k = 3 ∨ k = 4 := by omega
  rename News _ _ _ _ => N1
  rcases e with rfl | rfl | rfl | rfl | rfl
  · refine' list_at N1 ?hm1 (by decide) ?hx1 (by decide) ?_
    case hm1 => k_dflt k_mem
    case hx1 => exact rfl
    k_steps
    rename News _ _ _ _ => kN
    exact hret _ _ _ [(_, _)] (by k_asm) (cb_drop kN (List.forall_mem_cons.mpr ⟨by k_dflt k_mem, fun q hq => by (repeat (first | exact hq | apply List.mem_cons_of_mem))⟩)) ⟨_, 73, hW true true, _, _, hand_73 w, rfl, rfl⟩
  · refine' list_at N1 ?hm2 (by decide) ?hx2 (by decide) ?_
    case hm2 => k_dflt k_mem
    case hx2 => exact rfl
    k_steps
    rename News _ _ _ _ => kN
    exact hret _ _ _ [(_, _)] (by k_asm) (cb_drop kN (List.forall_mem_cons.mpr ⟨by k_dflt k_mem, fun q hq => by (repeat (first | exact hq | apply List.mem_cons_of_mem))⟩)) ⟨_, 80, hW true true, _, _, hand_80 w, rfl, rfl⟩
  · refine' list_at N1 ?hm3 (by decide) ?hx3 (by decide) ?_
    case hm3 => k_dflt k_mem
    case hx3 => exact rfl
    k_steps
    rename News _ _ _ _ => kN
    exact hret _ _ _ [(_, _)] (by k_asm) (cb_drop kN (List.forall_mem_cons.mpr ⟨by k_dflt k_mem, fun q hq => by (repeat (first | exact hq | apply List.mem_cons_of_mem))⟩)) ⟨_, 87, hW false true, _, _, hand_87 w, rfl, rfl⟩
  · refine' list_at N1 ?hm4 (by decide) ?hx4 (by decide) ?_
    case hm4 => k_dflt k_mem
    case hx4 => exact rfl
    k_steps
    rename News _ _ _ _ => kN
    exact hret _ _ _ [(_, _)] (by k_asm) (cb_drop kN (List.forall_mem_cons.mpr ⟨by k_dflt k_mem, fun q hq => by (repeat (first | exact hq | apply List.mem_cons_of_mem))⟩)) ⟨_, 94, hW true true, _, _, hand_94 w, rfl, rfl⟩
  · refine' list_at N1 ?hm5 (by decide) ?hx5 (by decide) ?_
    case hm5 => k_dflt k_mem
    case hx5 => exact rfl
    k_steps
    rename News _ _ _ _ => kN
    exact hret _ _ _ [(_, _)] (by k_asm) (cb_drop kN (List.forall_mem_cons.mpr ⟨by k_dflt k_mem, fun q hq => by (repeat (first | exact hq | apply List.mem_cons_of_mem))⟩)) ⟨_, 101, hW true false, _, _, hand_101 w, rfl, rfl⟩
end
section
/-! enumerate, in the ledger -/
open PySem PySem.W PyProof.Rows PySem.Calls
open PyProof.Rows.LCg
abbrev enumO (it : Nat) (i : Int) (old : Value) : Obj := { cls := .type "enumerate", dict := none, data := .fields #[.none, .bool false, .ref it, rawInt i, .none, old], slots := #[] }
theorem fr_off {h₀ h h' : Heap} {L : Addr} {m : Str → Option Value} {wr : List Nat} (F : Fr h₀ L h m) (hk : ∀ (b : Nat) o, b ∉ wr → h.get? b = some o → h'.get? b = some o) (hL : L ∉ wr) (h0 : ∀ b ∈ wr, h₀.get? b = none) : Fr h₀ L h' m :=
  ⟨F.ns.at' fun o e => hk L o hL e, fun b o e => hk b o (fun hm => by rw [h0 b hm] at e; cases e) (F.keep b o e), F.above⟩
theorem news_off {h₀ h h' : Heap} {L : Addr} {news : List (Addr × Obj)} {wr : List Nat} (N : News h₀ L h news) (hk : ∀ (b : Nat) o, b ∉ wr → h.get? b = some o → h'.get? b = some o) (off : ∀ p ∈ news, p.1 ∉ wr) : News h₀ L h' news :=
  fun p hp => ⟨hk _ _ (off p hp) (N p hp).1, (N p hp).2⟩
section
variable {prog : Program} {w : World} {A : Around} {E : Value → Shared → Prop} {s : Shared} {h₀ : Heap} {L : Addr} {m : Str → Option Value} {news rest : List (Addr × Obj)}
theorem enum_led {l : Nat} {vs : List Value} {n : Nat} {Q : Value → Shared → Prop} (F : Fr h₀ L s.heap m) (N : News h₀ L s.heap news) (hm : (l, listOf vs.toArray n) ∈ news)
    (h : ∀ (e it : Nat) oi h', IsLi oi l 0 → Fr h₀ L h' m → News h₀ L h' ((e, enumO it 0 .none) :: (it, oi) :: news) → (∀ p ∈ (it, oi) :: news, p.1 < e) → (∀ p ∈ news, p.1 < it) → Q (.ref e) { s with heap := h' }) :
    wpAny (model prog w) A (call (.type "enumerate") [.ref l]) Q E s := by
  refine call_enumerate_list (led_list N hm) fun h' he hit hz hk => ?_
  obtain ⟨oi, ei, hc, hd⟩ := hit
  have hL : L < s.heap.objs.size := F.ns.lt
  have up : ∀ q, s.heap.objs.size ≤ q → h₀.get? q = none := fun q hq => by
    cases e : h₀.get? q with
    | none => rfl
    | some o => exact absurd (Heap.lt_size (F.keep q o e)) (Nat.not_lt.mpr hq)
  have F' : Fr h₀ L h' m := F.keeps hk
  refine h (s.heap.objs.size + 1) s.heap.objs.size oi h' ⟨hc, hd⟩ F' (fun p hp => ?_) (fun p hp => ?_) (fun p hp => Heap.lt_size (N p hp).1)
  · rcases List.mem_cons.mp hp with rfl | hp
    · exact ⟨he, Nat.ne_of_gt (Nat.lt_succ_of_lt hL), up _ (Nat.le_succ _)⟩
    · rcases List.mem_cons.mp hp with rfl | hp
      · exact ⟨ei, Nat.ne_of_gt hL, up _ (Nat.le_refl _)⟩
      · exact ⟨hk _ _ (N p hp).1, (N p hp).2⟩
  · rcases List.mem_cons.mp hp with rfl | hp
    · exact Nat.lt_succ_self _
    · exact Nat.lt_succ_of_lt (Heap.lt_size (N p hp).1)
theorem enum_iter {e it : Nat} {i : Int} {old : Value} {Q : Value → Shared → Prop} (N : News h₀ L s.heap news) (hm : (e, enumO it i old) ∈ news) (h : Q (.ref e) s) : wpAny (model prog w) A (pyIter (.ref e)) Q E s :=
  wpAny_pyIter_enum (N _ hm).1 h
/-- the next pair -/
def EnumGo (prog : Program) (w : World) (A : Around) (E : Value → Shared → Prop) (elts : List Expr) (x1 : Tok) (pos : Pos) (e : Nat) (Q : Value → Shared → Prop) (r : Option Value) (s₁ : Shared) : Prop := match r with
  | none => False
  | some T => wpAny (model prog w) A (letOwnedTupleGo (.Tuple elts x1 pos) (.ref e) T) (fun _ s₂ => Q T s₂) E s₁
theorem enum_next {e it l i : Nat} {old : Value} {oi : Obj} {vs : List Value} {n : Nat} {v : Value} {elts : List Expr} {x1 : Tok} {pos : Pos} {Q : Value → Shared → Prop} (F : Fr h₀ L s.heap m) (N : News h₀ L s.heap ((e, enumO it (i : Int) old) :: (it, oi) :: rest))
    (hi : IsLi oi l i) (hl : (l, listOf vs.toArray n) ∈ rest) (hx : vs[i]? = some v) (hne : e ≠ it) (off : ∀ p ∈ rest, p.1 ≠ e ∧ p.1 ≠ it)
    (h : ∀ (T : Nat) h' tk t oi', IsLi oi' l (i + 1) → Fr h₀ L h' m → News h₀ L h' ((T, { cls := .type "tuple", data := .seq #[.int (i : Int) t, v] }) :: (e, enumO it ((i + 1 : Nat) : Int) v) :: (it, oi') :: rest) →
      (∀ p ∈ rest, p.1 < T) → e < T → it < T → Q (.ref T) { s with heap := h', toks := tk }) :
    wpAny (model prog w) A (pyNext (.ref e)) (EnumGo prog w A E elts x1 pos e Q) E s := by
  have ze := N (e, enumO it (i : Int) old) (by simp)
  have zi := N (it, oi) (by simp)
  have zr : News h₀ L s.heap rest := fun p hp => N p (List.mem_cons_of_mem _ (List.mem_cons_of_mem _ hp))
  have hL : L < s.heap.objs.size := F.ns.lt
  have hT0 : h₀.get? s.heap.objs.size = none := by
    cases q : h₀.get? s.heap.objs.size with
    | none => rfl
    | some o => exact absurd (Heap.lt_size (F.keep _ o q)) (Nat.lt_irrefl _)
  have hTe : (s.heap.objs.size : Nat) ≠ e := Nat.ne_of_gt (Heap.lt_size ze.1)
  refine wpAny_pyNext_enum_item ze.1 ⟨oi, zi.1, hi.1, hi.2⟩ (led_list zr hl) (by simpa using hx) hne fun h' ho hit' hT _ hk => ?_
  show wpAny _ _ _ _ _ _
  refine wpAny_letOwnedTupleGo_enum ho fun h'' he'' hs'' => ?_
  obtain ⟨oi', ei', hc', hd'⟩ := hit'
  have k1 : ∀ (b : Nat) o, b ∉ [e, it] → s.heap.get? b = some o → h'.get? b = some o := fun b o hb q => hk b o (fun q' => hb (by simp [q'])) (fun q' => hb (by simp [q'])) q
  have k2 : ∀ (b : Nat) o, b ∉ [e] → h'.get? b = some o → h''.get? b = some o := fun b o hb q => hs''.extBut b o (fun q' => hb (by rw [List.mem_singleton]; exact q')) q
  have F1 := fr_off F k1 (by simp only [List.mem_cons, List.not_mem_nil, or_false, not_or]; exact ⟨Ne.symm ze.2.1, Ne.symm zi.2.1⟩) (by simp only [List.mem_cons, List.not_mem_nil, or_false]; rintro b (rfl | rfl); exact ze.2.2; exact zi.2.2)
  have F2 := fr_off F1 k2 (by rw [List.mem_singleton]; exact Ne.symm ze.2.1) (by intro b hb; rw [List.mem_singleton.mp hb]; exact ze.2.2)
  refine h s.heap.objs.size h'' (s.toks + 1) s.toks oi' ⟨hc', hd'⟩ F2 (fun p hp => ?_) (fun p hp => Heap.lt_size (zr p hp).1) (Heap.lt_size ze.1) (Heap.lt_size zi.1)
  rcases List.mem_cons.mp hp with rfl | hp
  · exact ⟨k2 _ _ (by rw [List.mem_singleton]; exact hTe) hT, Nat.ne_of_gt hL, hT0⟩
  · rcases List.mem_cons.mp hp with rfl | hp
    · exact ⟨by rw [show (((i + 1 : Nat) : Int)) = (i : Int) + 1 from rfl]; exact he'', ze.2⟩
    · rcases List.mem_cons.mp hp with rfl | hp
      · exact ⟨k2 _ _ (by rw [List.mem_singleton]; exact Ne.symm hne) ei', zi.2⟩
      · have z := zr p hp
        refine ⟨k2 _ _ (by rw [List.mem_singleton]; exact (off p hp).1) (k1 _ _ ?_ z.1), z.2⟩
        simp only [List.mem_cons, List.not_mem_nil, or_false, not_or]
        exact off p hp
theorem enum_end {e it l i : Nat} {old : Value} {oi : Obj} {vs : List Value} {n : Nat} {Q : Option Value → Shared → Prop} (hh : A.handled = none) (F : Fr h₀ L s.heap m) (N : News h₀ L s.heap ((e, enumO it (i : Int) old) :: (it, oi) :: rest))
    (hi : IsLi oi l i) (hl : (l, listOf vs.toArray n) ∈ rest) (hx : vs.length ≤ i) (off : ∀ p ∈ rest, p.1 ≠ e ∧ p.1 ≠ it)
    (h : ∀ h', Fr h₀ L h' m → News h₀ L h' rest → Q none { s with heap := h' }) : wpAny (model prog w) A (pyNext (.ref e)) Q E s := by
  have ze := N (e, enumO it (i : Int) old) (by simp)
  have zi := N (it, oi) (by simp)
  have zr : News h₀ L s.heap rest := fun p hp => N p (List.mem_cons_of_mem _ (List.mem_cons_of_mem _ hp))
  refine wpAny_pyNext_enum_end hh ze.1 ⟨oi, zi.1, hi.1, hi.2⟩ (led_list zr hl) (by simp; omega) fun h' hx' => ?_
  have k1 : ∀ (b : Nat) o, b ∉ [it] → s.heap.get? b = some o → h'.get? b = some o := fun b o hb q => hx' b o (fun q' => hb (by rw [List.mem_singleton]; exact q')) q
  exact h h' (fr_off F k1 (by rw [List.mem_singleton]; exact Ne.symm zi.2.1) (by intro b hb; rw [List.mem_singleton.mp hb]; exact zi.2.2)) (news_off zr k1 fun p hp => by rw [List.mem_singleton]; exact (off p hp).2)
end
section
variable {prog : Program} {w : World} {A : Around} {E : Value → Shared → Prop} {s : Shared} {env : Env} {elts : List Expr} {x1 : Tok} {tp : Pos} {body : List Stmt} {Q : Flow → Shared → Prop} {it : Value}
/-- a for over a pair, at a turn's start -/
def ForRestT (prog : Program) (w : World) (A : Around) (E : Value → Shared → Prop) (env : Env) (elts : List Expr) (x1 : Tok) (tp : Pos) (body : List Stmt) (Q : Flow → Shared → Prop) (it : Value) (s : Shared) : Prop :=
  codeAny (model prog w) A (.forLoop (.Tuple elts x1 tp) it body [] env) (fun r s' => match r with | .ok f => Q f s' | .error e => cameBackBy (model prog w) A env E e s') s
def ForFlowT (prog : Program) (w : World) (A : Around) (E : Value → Shared → Prop) (env : Env) (elts : List Expr) (x1 : Tok) (tp : Pos) (body : List Stmt) (Q : Flow → Shared → Prop) (it : Value) (f : Flow) (s : Shared) : Prop := match f with
  | .next => ForRestT prog w A E env elts x1 tp body Q it s
  | .cont => ForRestT prog w A E env elts x1 tp body Q it s
  | .brk => Q .next s
  | .ret v => Q (.ret v) s
def ForTurnT (prog : Program) (w : World) (A : Around) (E : Value → Shared → Prop) (env : Env) (elts : List Expr) (x1 : Tok) (tp : Pos) (body : List Stmt) (Q : Flow → Shared → Prop) (it : Value) (r : Option Value) (s : Shared) : Prop := match r with
  | none => Q .next s
  | some v => wpAny (model prog w) A (letOwnedTupleGo (.Tuple elts x1 tp) it v) (fun _ s₁ => wpAny (model prog w) A (assign (.Tuple elts x1 tp) env v) (fun _ s₂ => wpAny (model prog w) A (execs body env) (ForFlowT prog w A E env elts x1 tp body Q it) E s₂) E s₁) E s
theorem for_startT {iter : Expr} {pos : Pos} (h : Hold (wpAny (model prog w) A (eval iter env) (fun xv s₁ => wpAny (model prog w) A (pyIter xv) (fun it s₂ => Hold (ForRestT prog w A E env elts x1 tp body Q it s₂)) E s₁) E s))
    (hs : ∀ x, foldedSetIterable iter env x = pure x := by intro _; rfl) : wpAny (model prog w) A (exec (.For (.Tuple elts x1 tp) iter body [] pos) env) Q E s :=
  wpAny_For h hs
theorem for_turnT (hE : PassesOwn (model prog w) A env E) (h : wpAny (model prog w) A (pyNext it) (ForTurnT prog w A E env elts x1 tp body Q it) E s) : ForRestT prog w A E env elts x1 tp body Q it s := by
  refine codeAny_of_tree ?_
  show wpAny _ A ((forTurn (.Tuple elts x1 tp) it body [] env).onRaise (fun x => do noteFrame x env; theTreesLotGoes x)) _ _ s
  refine wpAny_noted ?_
  simp only [forTurn]
  refine wpAny_bind (wpAny_standAt (wpAny_bind (wpAny_onRaise (wpAny_mono h (fun r s₁ h₁ => ?_) fun e s' h' => wpAny_standAt (hE e s' h')))))
  cases r with
  | none => exact wpAny_pure ⟨rfl, codeAny_block (wpAny_execs_nil h₁)⟩
  | some v =>
    refine wpAny_bind (wpAny_mono h₁ (fun _ s₁' h₁' => ?_) hE)
    refine wpAny_bind (wpAny_mono h₁' (fun _ s₂ h₂ => wpAny_bind (wpAny_mono h₂ (fun f s₃ h₃ => ?_) hE)) hE)
    cases f with
    | next => exact wpAny_pure ⟨rfl, h₃⟩
    | cont => exact wpAny_pure ⟨rfl, h₃⟩
    | brk => exact wpAny_pure h₃
    | ret v => exact wpAny_pure h₃
theorem for_indT {σ : Type} {r : σ → σ → Prop} (R : σ → Shared → Prop) (c : σ) (hc : Acc r c) (hR : R c s) (hE : PassesOwn (model prog w) A env E)
    (turn : ∀ c s, (∀ c' s', r c' c → R c' s' → ForRestT prog w A E env elts x1 tp body Q it s') → R c s → wpAny (model prog w) A (pyNext it) (ForTurnT prog w A E env elts x1 tp body Q it) E s) :
    ForRestT prog w A E env elts x1 tp body Q it s := by
  induction hc generalizing s with
  | intro c _ ih => exact for_turnT hE (turn c s (fun c' s' hr hR' => ih c' hr hR') hR)
theorem enum_turn {e : Nat} {r : Option Value} {K : Value → Shared → Prop} (h : EnumGo prog w A E elts x1 tp e K r s) (hk : ∀ v s₁, K v s₁ → wpAny (model prog w) A (assign (.Tuple elts x1 tp) env v) (fun _ s₂ => wpAny (model prog w) A (execs body env) (ForFlowT prog w A E env elts x1 tp body Q (.ref e)) E s₂) E s₁) :
    ForTurnT prog w A E env elts x1 tp body Q (.ref e) r s := by
  cases r with
  | none => exact h.elim
  | some v => exact wpAny_mono h (fun _ s₁ h₁ => hk v s₁ h₁) fun _ _ h => h
end
end
section
/-! a list comprehension over enumerate of a list -/
open PySem PySem.W PyProof.Rows PySem.Calls PySem.Spec
open PyProof.Rows.LCg
theorem off1_of {D : Nat} : ∀ {l : List (Addr × Obj)}, (∀ p ∈ l, p.1 ≠ D) → Off1 D l
  | [], _ => trivial
  | _ :: _, h => ⟨h _ List.mem_cons_self, off1_of fun p hp => h p (List.mem_cons_of_mem _ hp)⟩
section
variable {prog : Program} {w : World} {A : Around} {E : Value → Shared → Prop} {s : Shared} {h₀ : Heap} {L : Addr} {m : Str → Option Value} {env : Env}
theorem block_E {elt iter : Expr} {x x₂ : Str} {px px₂ tp : Pos} {tk9 : Tok} {scope : Scope} {cl : List (Str × Addr)} {pos : Pos} {s₂ : Shared} {e it l : Nat} {oi : Obj} {vs : List Value} {n : Nat} {news : List (Addr × Obj)} {g : Nat → Int}
    {RR : Value → Addr → Result → Shared → Prop}
    (F : Fr h₀ L s₂.heap m) (N : News h₀ L s₂.heap ((e, enumO it ((0 : Nat) : Int) .none) :: (it, oi) :: news)) (hi : IsLi oi l 0) (hl : (l, listOf vs.toArray n) ∈ news) (hne : e ≠ it) (off : ∀ p ∈ news, p.1 ≠ e ∧ p.1 ≠ it) (hsz : vs.length ≤ sizeLine)
    (hcell : ∀ y ∈ scope.names, y.2 ≠ .cell) (hkind : scope.kind = .function) (hx : scope.names.lookup x = some .local) (hx₂ : scope.names.lookup x₂ = some .local) (hxx : x ≠ x₂) (hh : A.handled = none)
    (turn : ∀ (i : Nat) v, vs[i]? = some v → ∀ t (C : Nat) oC (D : Nat) ys oi' m₂ h tk (E' : Value → Shared → Prop), NsObj oC m₂ → m₂ x = some (.int (i : Int) t) → m₂ x₂ = some v → Fr h₀ L h m →
      News h₀ L h ((C, oC) :: (D, lst ys) :: (e, enumO it ((i + 1 : Nat) : Int) v) :: (it, oi') :: news) →
      wpAny (model prog w) A (eval elt (compEnvC scope cl C env)) (fun y s' => Hold (∃ h' tk' t', s' = { s₂ with heap := h', toks := tk' } ∧ y = .int (g i) t' ∧ Fr h₀ L h' m ∧ News h₀ L h' ((C, oC) :: (D, lst ys) :: (e, enumO it ((i + 1 : Nat) : Int) v) :: (it, oi') :: news))) E' { s₂ with heap := h, toks := tk })
    (hRR : ∀ (D C : Nat) h tk m' ys, Fr h₀ L h m → News h₀ L h ((D, lst ys) :: news) → (∀ p ∈ news, p.1 ≠ D) → h.Ns C m' → h₀.get? C = none → C ≠ L → C ≠ D → (∀ p ∈ news, p.1 ≠ C) → IntsAre ys ((List.range vs.length).map g) → RR (.ref D) C (.ok .next) { s₂ with heap := h, toks := tk }) :
    wpAny (model prog w) A (newList []) (fun acc s₃ => wpAny (model prog w) A (newFunctionEnv scope env.globals cl [] env.qual none .none (some env)) (fun cenv s₄ =>
      codeAny (model prog w) A (.compStart (.ListComp elt [⟨.Tuple [.Name x px, .Name x₂ px₂] tk9 tp, iter, [], 0⟩] scope pos) 0 (.ref e) acc { cenv with scope := relabel scope env }) (RR acc cenv.locals) s₄) E s₃) E s₂ := by
  refine wpAny_newObj_type (wpAny_newFunctionEnv hcell (by intro y hy; simp at hy) (fun h₁ hns₁ hsb₁ => ?_) hkind)
  dsimp only at hns₁ hsb₁ ⊢
  generalize hH2 : s₂.heap.push { cls := .type "list", dict := none, data := .seq ([] : List Value).toArray } = H2 at hns₁ hsb₁ ⊢
  have hC : H2.objs.size = s₂.heap.objs.size + 1 := by rw [← hH2, Heap.size_push]
  have hDC : s₂.heap.objs.size ≠ H2.objs.size := by rw [hC]; exact Nat.ne_of_lt (Nat.lt_succ_self _)
  have below : ∀ b : Nat, b < s₂.heap.objs.size → b ≠ H2.objs.size ∧ b ≠ s₂.heap.objs.size := fun b hb => ⟨by rw [hC]; exact Nat.ne_of_lt (Nat.lt_succ_of_lt hb), Nat.ne_of_lt hb⟩
  have old : ∀ (b : Nat) o, s₂.heap.get? b = some o → h₁.get? b = some o := fun b o e => hsb₁.extBut b o (below b (Heap.lt_size e)).1 (Heap.get?_push_of_some _ (hH2 ▸ Heap.get?_push_of_some _ e))
  have hacc : h₁.get? s₂.heap.objs.size = some (lst []) := hsb₁.extBut _ _ hDC (Heap.get?_push_of_some _ (hH2 ▸ Heap.get?_push_size _ rfl))
  have fresh₀ : ∀ a, s₂.heap.objs.size ≤ a → h₀.get? a = none := fun a ha => by
    cases q : h₀.get? a with
    | none => rfl
    | some o' => exact absurd (Heap.lt_size (F.keep a o' q)) (Nat.not_lt.mpr ha)
  have hD₀ : h₀.get? s₂.heap.objs.size = none := fresh₀ _ (Nat.le_refl _)
  have hC₀ : h₀.get? H2.objs.size = none := fresh₀ _ (by rw [hC]; exact Nat.le_succ _)
  have hLlt : L < s₂.heap.objs.size := F.ns.lt
  have hDL : s₂.heap.objs.size ≠ L := Ne.symm (below L hLlt).2
  have hCL : H2.objs.size ≠ L := Ne.symm (below L hLlt).1
  have lt0 : ∀ p ∈ (e, enumO it ((0 : Nat) : Int) .none) :: (it, oi) :: news, p.1 < s₂.heap.objs.size := fun p hp => Heap.lt_size (N p hp).1
  have heC := below e (lt0 (e, enumO it ((0 : Nat) : Int) .none) (by k_dflt k_mem))
  have hitC := below it (lt0 (it, oi) (by k_dflt k_mem))
  have hnC : ∀ p ∈ news, p.1 ≠ H2.objs.size ∧ p.1 ≠ s₂.heap.objs.size := fun p hp => below p.1 (lt0 p (List.mem_cons_of_mem _ (List.mem_cons_of_mem _ hp)))
  generalize hDD : s₂.heap.objs.size = D at hDC hacc hD₀ hDL heC hitC hnC ⊢
  generalize hCC : H2.objs.size = C at hDC hC₀ hCL heC hitC hnC hns₁ ⊢
  have loop : ∀ s₃ : Shared, s₃ = { s₂ with heap := h₁, toks := s₂.toks + ([] : List (Str × Value)).length } →
      codeAny (model prog w) A (.compLoop (.ListComp elt [⟨.Tuple [.Name x px, .Name x₂ px₂] tk9 tp, iter, [], 0⟩] scope pos) 0 (.ref e) (.ref D) (compEnvC scope cl C env))
        (RR (.ref D) C) s₃ := by
    rintro s₃ rfl
    obtain ⟨I, hI⟩ : ∃ I : Nat → Shared → Prop, I = fun k s' => ∃ h' tk i ys m' oC oi' ol, s' = { s₂ with heap := h', toks := tk } ∧ i ≤ vs.length ∧ k = vs.length + 1 - i ∧ IntsAre ys ((List.range i).map g) ∧ Fr h₀ L h' m ∧ NsObj oC m' ∧ IsLi oi' l i ∧
        News h₀ L h' ((C, oC) :: (D, lst ys) :: (e, enumO it ((i : Nat) : Int) ol) :: (it, oi') :: news) := ⟨_, rfl⟩
    refine LCp.codeAny_compLoop_pair I ?_ (vs.length + 1) ?_
    · intro k s' hk
      rw [hI] at hk
      obtain ⟨h', tk, i, ys, m', oC, oi', ol, rfl, hi', rfl, hys, F', hoC, hLi, N'⟩ := hk
      have N1 : News h₀ L h' ((e, enumO it ((i : Nat) : Int) ol) :: (it, oi') :: (C, oC) :: (D, lst ys) :: news) := fun p hp => N' p (by
        simp only [List.mem_cons] at hp ⊢
        rcases hp with h9 | h9 | h9 | h9 | h9
        · exact .inr (.inr (.inl h9))
        · exact .inr (.inr (.inr (.inl h9)))
        · exact .inl h9
        · exact .inr (.inl h9)
        · exact .inr (.inr (.inr (.inr h9))))
      have off1 : ∀ p ∈ (C, oC) :: (D, lst ys) :: news, p.1 ≠ e ∧ p.1 ≠ it := fun p hp => by
        rcases List.mem_cons.mp hp with rfl | hp
        · exact ⟨Ne.symm heC.1, Ne.symm hitC.1⟩
        · rcases List.mem_cons.mp hp with rfl | hp
          · exact ⟨Ne.symm heC.2, Ne.symm hitC.2⟩
          · exact off p hp
      by_cases hlt : i < vs.length
      · refine wpAny_mono (enum_next (elts := [.Name x px, .Name x₂ px₂]) (x1 := tk9) (pos := tp) F' N1 hLi (List.mem_cons_of_mem _ (List.mem_cons_of_mem _ hl)) (List.getElem?_eq_getElem hlt) hne off1 (Q := fun v s₁' => wpAny (model prog w) A (assign (.Tuple [.Name x px, .Name x₂ px₂] tk9 tp) (compEnvC scope cl C env) v) (fun _ s₂' =>
          wpAny (model prog w) A (eval elt (compEnvC scope cl C env)) (fun y s₄ =>
              wpAny (model prog w) A (call (.builtin "list.append") [.ref D, y]) (fun _ s₅ => ∃ m, m < vs.length + 1 - i ∧ I m s₅) (notedBy (model prog w) A (compEnvC scope cl C env) fun e s' => RR (.ref D) C (.error e) s') s₄) (notedBy (model prog w) A (compEnvC scope cl C env) fun e s' => RR (.ref D) C (.error e) s') s₂')
          (notedBy (model prog w) A (compEnvC scope cl C env) fun e s' => RR (.ref D) C (.error e) s') s₁') ?_) (fun r s₁ h₁ => ?_) fun _ _ h => h
        · intro T h₂ tk₂ t oi₂ hLi₂ F₂ N₂ hT1 hT2 hT3
          have ht : IsTup h₂ T #[.int (i : Int) t, vs[i]] := ⟨_, (N₂ _ (List.mem_cons_self ..)).1, rfl, _, rfl⟩
          have zC := N₂ (C, oC) (by k_dflt k_mem)
          refine assign_Tuple_tuple hh ht rfl rfl fun h₅ he => ?_
          have he' : ∀ (b : Nat) o, h₂.get? b = some o → h₅.get? b = some o := fun b o q => he b o (Nat.ne_of_lt (Heap.lt_size q)) q
          have hn5 : h₅.Ns C m' := hoC.ns (he' _ _ zC.1)
          refine assignInOrder_cons (wpAny_assign_Name (wpAny_storeName_local (lookup_relabel_local hx) hn5 (fun h₆ hn₆ hs₆ => ?_) (by simp [compEnvC, relabel, hkind])))
          refine assignInOrder_cons (wpAny_assign_Name (wpAny_storeName_local (lookup_relabel_local hx₂) hn₆ (fun h₇ hn₇ hs₇ => ?_) (by simp [compEnvC, relabel, hkind])))
          refine assignInOrder_nil ?_
          have k7 : ∀ (b : Nat) o, b ∉ [C] → h₂.get? b = some o → h₇.get? b = some o := fun b o hb q =>
            have hb' : b ≠ C := fun q' => hb (by rw [List.mem_singleton]; exact q')
            hs₇.extBut b o hb' (hs₆.extBut b o hb' (he' b o q))
          obtain ⟨oC', eC', hoC'⟩ := ns_obj hn₇
          have F₇ : Fr h₀ L h₇ m := fr_off F₂ k7 (by rw [List.mem_singleton]; exact Ne.symm hCL) (by intro b hb; rw [List.mem_singleton.mp hb]; exact hC₀)
          have z : ∀ p ∈ (D, lst ys) :: (e, enumO it ((i + 1 : Nat) : Int) vs[i]) :: (it, oi₂) :: news, p ∈ (T, ({ cls := .type "tuple", data := .seq #[.int (i : Int) t, vs[i]] } : Obj)) :: (e, enumO it ((i + 1 : Nat) : Int) vs[i]) :: (it, oi₂) :: (C, oC) :: (D, lst ys) :: news ∧ p.1 ≠ C := fun p hp => by
            rcases List.mem_cons.mp hp with rfl | hp
            · exact ⟨by k_dflt k_mem, hDC⟩
            · rcases List.mem_cons.mp hp with rfl | hp
              · exact ⟨by k_dflt k_mem, heC.1⟩
              · rcases List.mem_cons.mp hp with rfl | hp
                · exact ⟨by k_dflt k_mem, hitC.1⟩
                · exact ⟨by (repeat (first | exact hp | apply List.mem_cons_of_mem)), (hnC p hp).1⟩
          have N₇ : News h₀ L h₇ ((C, oC') :: (D, lst ys) :: (e, enumO it ((i + 1 : Nat) : Int) vs[i]) :: (it, oi₂) :: news) := fun p hp => by
            rcases List.mem_cons.mp hp with rfl | hp
            · exact ⟨eC', hCL, hC₀⟩
            · obtain ⟨z1, z2⟩ := z p hp
              exact ⟨k7 _ _ (by rw [List.mem_singleton]; exact z2) (N₂ p z1).1, (N₂ p z1).2⟩
          refine wpAny_mono (turn i vs[i] (List.getElem?_eq_getElem hlt) t C oC' D ys oi₂ _ h₇ _ _ hoC' (by simp [hxx]) (by simp) F₇ N₇) (fun y s₄ h₄ => ?_) fun _ _ q => q
          obtain ⟨h₈, tk₈, t₈, rfl, rfl, F₈, N₈⟩ := h₄
          have zD := (N₈ (D, lst ys) (by k_dflt k_mem)).1
          have hyl : ys.length ≤ vs.length := by have := hys.length; simp at this; omega
          refine append_at (hsz := by show ys.toArray.size ≤ sizeLine; rw [List.size_toArray]; omega) zD fun h₉ hs₉ hD₉ => ?_
          have k9 : ∀ (b : Nat) o, b ∉ [D] → h₈.get? b = some o → h₉.get? b = some o := fun b o hb q => hs₉.extBut b o (fun q' => hb (by rw [List.mem_singleton]; exact q')) q
          refine ⟨vs.length + 1 - (i + 1), by omega, ?_⟩
          rw [hI]
          refine ⟨h₉, tk₈, i + 1, ys ++ [.int (g i) t₈], _, oC', oi₂, vs[i], rfl, hlt, rfl, by rw [List.range_succ, List.map_append]; exact ints_snoc' hys,
            fr_off F₈ k9 (by rw [List.mem_singleton]; exact Ne.symm hDL) (by intro b hb; rw [List.mem_singleton.mp hb]; exact hD₀), hoC', hLi₂, fun p hp => ?_⟩
          have zz : p = (D, lst (ys ++ [.int (g i) t₈])) ∨ (p ∈ (C, oC') :: (D, lst ys) :: (e, enumO it ((i + 1 : Nat) : Int) vs[i]) :: (it, oi₂) :: news ∧ p.1 ≠ D) := by
            rcases List.mem_cons.mp hp with rfl | hp
            · exact .inr ⟨by k_dflt k_mem, Ne.symm hDC⟩
            · rcases List.mem_cons.mp hp with rfl | hp
              · exact .inl rfl
              · rcases List.mem_cons.mp hp with rfl | hp
                · exact .inr ⟨by k_dflt k_mem, heC.2⟩
                · rcases List.mem_cons.mp hp with rfl | hp
                  · exact .inr ⟨by k_dflt k_mem, hitC.2⟩
                  · exact .inr ⟨by (repeat (first | exact hp | apply List.mem_cons_of_mem)), (hnC p hp).2⟩
          rcases zz with rfl | ⟨zz, zn⟩
          · exact ⟨hD₉.trans (congrArg some (lst_snoc ys _)), hDL, hD₀⟩
          · exact ⟨k9 _ _ (by rw [List.mem_singleton]; exact zn) (N₈ p zz).1, (N₈ p zz).2⟩
        · cases r with
          | none => exact h₁.elim
          | some v => exact h₁
      · obtain rfl : i = vs.length := Nat.le_antisymm hi' (Nat.not_lt.mp hlt)
        refine enum_end hh F' N1 hLi (List.mem_cons_of_mem _ (List.mem_cons_of_mem _ hl)) (Nat.le_refl _) off1 fun h₂ F₂ N₂ => ?_
        exact hRR D C h₂ _ _ ys F₂ (fun p hp => N₂ p (List.mem_cons_of_mem _ hp)) (fun p hp => (hnC p hp).2) (hoC.ns (N₂ (C, oC) (by k_dflt k_mem)).1) hC₀ hCL (Ne.symm hDC) (fun p hp => (hnC p hp).1) hys
    · obtain ⟨oC, eC, hoC⟩ := ns_obj hns₁
      rw [hI]
      refine ⟨h₁, _, 0, [], _, oC, oi, .none, rfl, Nat.zero_le _, rfl, .nil, F.keeps old, hoC, hi, fun p hp => ?_⟩
      rcases List.mem_cons.mp hp with rfl | hp
      · exact ⟨eC, hCL, hC₀⟩
      · rcases List.mem_cons.mp hp with rfl | hp
        · exact ⟨hacc, hDL, hD₀⟩
        · exact ⟨old _ _ (N p hp).1, (N p hp).2⟩
  have ze := N (e, enumO it ((0 : Nat) : Int) .none) (by k_dflt k_mem)
  exact codeAny_compStart_list (loop _ rfl) (wpAny_pyIter_enum (old _ _ ze.1) (loop _ rfl))
def SrcE (prog : Program) (w : World) (A : Around) (h₀ : Heap) (L : Addr) (m : Str → Option Value) (env : Env) (elt : Expr) (x x₂ : Str) (scope : Scope) (cl : List (Str × Addr)) (Fin : Shared → List Value → List (Addr × Obj) → Prop) (xv : Value) (s₁ : Shared) : Prop :=
  ∃ (e it l : Nat) (oi : Obj) (vs : List Value) (n : Nat) (news : List (Addr × Obj)) (g : Nat → Int), xv = .ref e ∧ A.handled = none ∧ Fr h₀ L s₁.heap m ∧ News h₀ L s₁.heap ((e, enumO it ((0 : Nat) : Int) .none) :: (it, oi) :: news) ∧ IsLi oi l 0 ∧ (l, listOf vs.toArray n) ∈ news ∧ e ≠ it ∧ (∀ p ∈ news, p.1 ≠ e ∧ p.1 ≠ it) ∧ vs.length ≤ sizeLine ∧
    (∀ (i : Nat) v, vs[i]? = some v → ∀ t (C : Nat) oC (D : Nat) ys oi' m₂ h tk (E' : Value → Shared → Prop), NsObj oC m₂ → m₂ x = some (.int (i : Int) t) → m₂ x₂ = some v → Fr h₀ L h m →
      News h₀ L h ((C, oC) :: (D, lst ys) :: (e, enumO it ((i + 1 : Nat) : Int) v) :: (it, oi') :: news) →
      wpAny (model prog w) A (eval elt (compEnvC scope cl C env)) (fun y s' => Hold (∃ h' tk' t', s' = { s₁ with heap := h', toks := tk' } ∧ y = .int (g i) t' ∧ Fr h₀ L h' m ∧ News h₀ L h' ((C, oC) :: (D, lst ys) :: (e, enumO it ((i + 1 : Nat) : Int) v) :: (it, oi') :: news))) E' { s₁ with heap := h, toks := tk }) ∧
    (∀ ys, IntsAre ys ((List.range vs.length).map g) → Fin s₁ ys news)
theorem Assign_ListComp_E {elt iter : Expr} {x x₂ y : Str} {px px₂ tp py : Pos} {tk : Tok} {scope : Scope} {cl : List (Str × Addr)} {pos spos : Pos} {Q : Flow → Shared → Prop} (_ : Fr h₀ L s.heap m) (hLe : env.locals = L)
    (hsw : swapsWith (.ListComp elt [⟨.Tuple [.Name x px, .Name x₂ px₂] tk tp, iter, [], 0⟩] scope pos) (some (.Name y py)) spos.line env = pure true)
    (hclos : closureFor scope env = pure cl) (hcell : ∀ z ∈ scope.names, z.2 ≠ .cell) (hkind : scope.kind = .function)
    (hnames : ∀ z ∈ scope.names, z.2 = .local → scope.names.lookup z.1 = some .local) (hx : scope.names.lookup x = some .local) (hx₂ : scope.names.lookup x₂ = some .local) (hxx : x ≠ x₂)
    (hy : env.kindOf y = some .local) (hp : (env.scope.kind == .class || (env.scope.kind == .module && env.locals != env.globals)) = false)
    (h : wpAny (model prog w) A (eval iter env) (SrcE prog w A h₀ L m env elt x x₂ scope cl (fun s₂ => FinA h₀ L m s₂ y Q)) E s)
    (hs : ∀ x, foldedSetIterable iter env x = pure x := by intro _; rfl) :
    wpAny (model prog w) A (exec (.Assign [.Name y py] (.ListComp elt [⟨.Tuple [.Name x px, .Name x₂ px₂] tk tp, iter, [], 0⟩] scope pos) spos) env) Q E s := by
  subst hLe
  rw [exec_Assign_Name_used _ _ _ _ hsw]
  refine wpAny_bind (wpAny_standAt (wpAny_bind ?_))
  show wpAny _ A (do let _ ← comprehension (.ListComp elt [⟨.Tuple [.Name x px, .Name x₂ px₂] tk tp, iter, [], 0⟩] scope pos) scope env _ (newList []) false (eval iter env) (some (assign (.Name y py) env))) _ _ s
  refine wpAny_bind (wpAny_mono (wpAny_comprehension_free (use := some (assign (.Name y py) env)) (Q := fun _ s' => Q .next s') rfl hs hclos hkind hnames
    (wpAny_mono h (fun xv s₁ h₁ => ?_) fun _ _ e => e)) (fun _ s' hq => wpAny_pure (wpAny_pure hq)) fun _ _ e => e)
  obtain ⟨e, it, l, oi, vs, n, news, g, rfl, hh, F, N, hi, hl, hne, off, hsz, turn, fin⟩ := h₁
  have ze := N (e, enumO it ((0 : Nat) : Int) .none) (by simp)
  refine wpAny_pyIter_enum ze.1 ?_
  refine block_E (g := g) F N hi hl hne off hsz hcell hkind hx hx₂ hxx hh turn ?_
  intro D C h' tk m' ys F' N' o1 hn hC₀ hCL hCD offC hys
  show wpAny _ A (assign (.Name y py) env (.ref D)) _ _ _
  refine wpAny_assign_Name (wpAny_storeName_local hy F'.ns (fun h₂ hn₂ hs₂ => ?_) hp)
  have hL₀ : h₀.get? env.locals = none := Heap.get?_none_of_le F'.above
  have F₂ : Fr h₀ env.locals h₂ (fun z => if z = y then some (.ref D) else m z) := ⟨hn₂, fun b o e => hs₂.extBut b o (fun q => by rw [q, hL₀] at e; cases e) (F'.keep b o e), F'.above⟩
  refine ⟨m', hn.sameBut hs₂ hCL, fun h'' hs'' => fin ys hys D h'' _ (F₂.change hs'' hCL hC₀) (fun p hp => ?_) (off1_of o1)⟩
  have z : h₂.get? p.1 = some p.2 := hs₂.extBut _ _ (N' p hp).2.1 (N' p hp).1
  refine ⟨hs''.extBut _ _ ?_ z, (N' p hp).2⟩
  rcases List.mem_cons.mp hp with rfl | hp
  · exact Ne.symm hCD
  · exact offC p hp
end
end
section
/-! how many line feeds a text has -/
open PySem PySem.W PyProof.Rows PySem.Calls
open Builtin Builtin.Str StrLaws
theorem occ_run (x : Str) (c n limit : Nat) (hn : n = x.length) : ∀ (l : List Nat) (arr : Array Nat) (free : Nat), (∀ i ∈ l, free ≤ i) → l.Pairwise (· < ·) → arr.size + l.length ≤ limit →
    (forIn l (arr, free) (occBody x ⟨#[c]⟩ n limit)).run.fst.size = arr.size + (l.filter fun i => decide (x.cps.toList[i]? = some c)).length
  | [], arr, free, _, _, _ => by simp
  | a :: l, arr, free, hf, hp, hl => by
    rw [List.forIn_cons]
    have ha : free ≤ a := hf a (List.mem_cons_self ..)
    have hs := subAt_one x c a
    rw [← hn] at hs
    obtain ⟨hp1, hp2⟩ := List.pairwise_cons.mp hp
    unfold occBody
    by_cases hc : x.cps.toList[a]? = some c
    · have h1 := hs.mpr hc
      have hlt : arr.size < limit := by simp at hl; omega
      have c1 : (((arr, free) : Array Nat × Nat).fst.size < limit ∧ ((arr, free) : Array Nat × Nat).snd ≤ a) ∧ a + (⟨#[c]⟩ : Str).length ≤ n := ⟨⟨hlt, ha⟩, h1.1⟩
      rw [if_pos ⟨c1, h1.2⟩]
      have ih := occ_run x c n limit hn l (arr.push a) (a + (⟨#[c]⟩ : Str).length) (fun i hi => by have := hp1 i hi; show a + 1 ≤ i; omega) hp2 (by simp at hl ⊢; omega)
      rw [List.filter_cons_of_pos (by simpa using hc)]
      simp only [List.length_cons]
      refine Eq.trans ih ?_
      rw [Array.size_push]
      omega
    · have c2 : ¬ (((((arr, free) : Array Nat × Nat).fst.size < limit ∧ ((arr, free) : Array Nat × Nat).snd ≤ a) ∧ a + (⟨#[c]⟩ : Str).length ≤ n) ∧ subAt x ⟨#[c]⟩ a = true) := fun h => hc (hs.mp ⟨h.1.2, h.2⟩)
      rw [if_neg c2]
      have ih := occ_run x c n limit hn l arr free (fun i hi => hf i (List.mem_cons_of_mem _ hi)) hp2 (by simp at hl ⊢; omega)
      rw [List.filter_cons_of_neg (by simpa using hc)]
      exact ih
theorem range_count (c : Nat) : ∀ (xs pre : List Nat), ((List.range' pre.length (xs.length + 1)).filter fun i => decide ((pre ++ xs)[i]? = some c)).length = (xs.filter (· == c)).length
  | [], pre => by simp [List.range']
  | a :: xs, pre => by
    rw [List.length_cons, List.range'_succ]
    have ih := range_count c xs (pre ++ [a])
    have e1 : (pre ++ [a]).length = pre.length + 1 := by simp
    have e2 : pre ++ [a] ++ xs = pre ++ a :: xs := by simp
    rw [e1, e2] at ih
    have e3 : (pre ++ a :: xs)[pre.length]? = some a := by simp
    by_cases h : a = c
    · subst h
      rw [List.filter_cons_of_pos (by simp), List.filter_cons_of_pos (by simp), List.length_cons, List.length_cons, ih]
    · rw [List.filter_cons_of_neg (by rw [e3]; simpa using h), List.filter_cons_of_neg (by simpa using h), ih]
theorem count_one (x : Str) (c : Nat) : Txt.count x ⟨#[c]⟩ = (((x.cps.toList.filter (· == c)).length : Nat) : Int) := by
  unfold Txt.count
  rw [occ_eq, Array.length_toList, occ_run x c x.length (x.length + 1) rfl (List.range' 0 (x.length + 1 - 0)) #[] 0 (fun _ _ => Nat.zero_le _) List.pairwise_lt_range' (by simp)]
  have := range_count c x.cps.toList []
  simp only [List.length_nil, List.nil_append] at this
  have e : x.length = x.cps.toList.length := by simp [Str.length]
  rw [Nat.sub_zero, e, this]
  simp
theorem enc_count {W : Lt → Str} (g : GoodW W) : ∀ tx : List (Lt × Bool), (((encs W tx).filter (· == 10)).length : Int) = bare tx
  | [] => rfl
  | (l, q) :: r => by
    have ih := enc_count g r
    have hW : ((W l).cps.toList.filter (· == 10)) = [] := by
      rw [List.filter_eq_nil_iff]
      intro c hc h10
      have := (g.ok l c hc).1
      rw [beq_iff_eq] at h10
      subst h10
      simp [isWs] at this
    have e : encs W ((l, q) :: r) = enc W (l, q) ++ encs W r := rfl
    rw [e, List.filter_append, List.length_append]
    cases q with
    | true =>
      have : (enc W (l, true)).filter (· == 10) = [] := by simp [enc, hW]
      rw [this]
      simpa [Mine.bare] using ih
    | false =>
      have : (enc W (l, false)).filter (· == 10) = [10] := by simp [enc, hW]
      rw [this]
      simp only [Mine.bare] at ih ⊢
      simp
      omega
end
section
/-! rules for the later statements of law -/
open PySem PySem.W PyProof.Rows PySem.Calls PySem.Spec
open PyProof.Rows.LCg
section
variable {prog : Program} {w : World} {A : Around} {E : Value → Shared → Prop} {s : Shared} {h₀ : Heap} {L : Addr} {m : Str → Option Value} {news : List (Addr × Obj)} {t u : Tok} {Q : Value → Shared → Prop}
theorem mul_twice {x y : PySem.Str} (hy : y.cps = x.cps ++ x.cps) (hx : x.cps.toList.length ≤ 8) (hne : x.cps.toList ≠ []) (h : ∀ t' tk, Q (.str y t') { s with toks := tk }) : wpAny (model prog w) A (binaryOp .Mult (.str x t) (.int 2 u)) Q E s := by
  refine SB.mul (mulOk_of 8 2 (by simpa [Str.length] using hx) (by decide) (by decide) (by decide) (by decide)) fun t' k => ?_
  have e : Txt.mul x 2 = y := by
    apply Str.ext'
    rw [hy]
    have h0 : x.length ≠ 0 := by
      intro h0
      apply hne
      rw [← List.length_eq_zero_iff]
      simpa [Str.length] using h0
    unfold Txt.mul
    rw [if_neg (by decide), if_neg (by simp [h0])]
    show (List.replicate 2 x.cps).foldl (· ++ ·) #[] = _
    simp
  rw [e]
  exact h _ _
theorem ints_at {value slice : PySem.Expr} {l : Nat} {vs : List Value} {n : Nat} {ns : List Int} {k : Int} (N : News h₀ L s.heap news) (hm : (l, listOf vs.toArray n) ∈ news) (hi : IntsAre vs ns) (h0 : 0 ≤ k) (h1 : k < ns.length) (hz : ns.length ≤ 1000)
    (h : ∀ t, Q (.int (ns.getD k.toNat 0) t) s)
    (hs : subscripted slice false (.ref l) (.int k u) = operate [.ref l, .int k u] (getItem (.ref l) (.int k u)) := by with_unfolding_all rfl) :
    wpAny (model prog w) A (subscriptTail value slice (.ref l) (.int k u)) Q E s := by
  have hlt : k.toNat < ns.length := by omega
  obtain ⟨t, hx⟩ : ∃ t, vs[k.toNat]? = some (.int (ns.getD k.toNat 0) t) := hi.get _ _ (by rw [List.getD_eq_getElem?_getD, List.getElem?_eq_getElem hlt]; rfl)
  exact tail_any (led_list N hm).typeIs slot_list_getitem.lookup (wpAny_getItem_list (led_list N hm) h0 (by omega) (by simpa using hx) (h t)) hs
theorem truthy_is {n : Int} {b : Bool} {Q : Bool → Shared → Prop} (hb : (n != 0) = b) (h : Q b s) : wpAny (model prog w) A (truthy (.int n t)) Q E s := by
  refine PyProof.Rows.truthy_int ?_
  rw [hb]; exact h
theorem add_len {x y : PySem.Str} {a b : Nat} (hx : x.cps.toList.length ≤ a) (hy : y.cps.toList.length ≤ b) (hz : a + b ≤ 100000) (h : ∀ t' tk, Q (.str (x ++ y) t') { s with toks := tk }) : wpAny (model prog w) A (binaryOp .Add (.str x t) (.str y u)) Q E s := by
  refine PyProof.Rows.add_str h ?_
  rw [sizeLine_eq]
  simp [Str.length] at hx hy ⊢
  omega
theorem iadd_len {x y : PySem.Str} {a b : Nat} (hx : x.cps.toList.length ≤ a) (hy : y.cps.toList.length ≤ b) (hz : a + b ≤ 100000) (h : ∀ t' tk, Q (.str (x ++ y) t') { s with toks := tk }) : wpAny (model prog w) A (inplaceOp .Add (.str x t) (.str y u)) Q E s := by
  refine PyProof.Rows.iadd_str h ?_
  rw [sizeLine_eq]
  simp [Str.length] at hx hy ⊢
  omega
theorem app_len {x y : PySem.Str} {a b : Nat} (hx : x.cps.toList.length ≤ a) (hy : y.cps.toList.length ≤ b) : (x ++ y).cps.toList.length ≤ a + b := by
  rw [Str.cps_append]
  simp at hx hy ⊢
  omega
theorem enc_q (W : Lt → PySem.Str) (l : Lt) (z : PySem.Str) : (z ++ (PySem.Str.ofString "\"" ++ W l ++ PySem.Str.ofString "\"")).cps.toList = z.cps.toList ++ enc W (l, true) := by
  have e : (PySem.Str.ofString "\"").cps.toList = [34] := by decide +kernel
  simp only [Str.cps_append, Array.toList_append, e, enc, if_true]
  simp
theorem enc_b (W : Lt → PySem.Str) (l : Lt) (z : PySem.Str) : (z ++ (W l ++ PySem.Str.ofString "\n")).cps.toList = z.cps.toList ++ enc W (l, false) := by
  have e : (PySem.Str.ofString "\n").cps.toList = [10] := by decide +kernel
  simp only [Str.cps_append, Array.toList_append, e, enc]
  simp
theorem encs_snoc (W : Lt → PySem.Str) (tx : List (Lt × Bool)) (p : Lt × Bool) : encs W (tx ++ [p]) = encs W tx ++ enc W p := by
  unfold encs; simp
theorem count_nl {W : Lt → PySem.Str} {z : PySem.Str} {tx : List (Lt × Bool)} (g : GoodW W) (hz : z.cps.toList = encs W tx) (h : ∀ t' tk, Q (.int (bare tx) t') { s with toks := tk }) : wpAny (model prog w) A (call (.builtin "str.count") [.str z t, .str (PySem.Str.ofString "\n") u]) Q E s := by
  refine call_gives F.slot_str_count (typeIs_str _ _ _) F.entry_str_count (F.args_str_count_2 _ _) (gives_str_count z (PySem.Str.ofString "\n") t u) ?_
  have e0 : PySem.Str.ofString "\n" = ⟨#[10]⟩ := by decide +kernel
  have e := count_one z 10
  rw [hz, enc_count g, ← e0] at e
  unfold Txt.count at e
  show Q (.int _ _) _
  rw [e]
  exact h _ _
theorem ne_same {a b : Int} (hb : a = b) (h : Q (.bool false) s) : wpAny (model prog w) A (compareOp .NotEq (.int a t) (.int b u)) Q E s := by
  refine PyProof.Rows.ne_int ?_
  subst hb
  simpa using h
theorem ne_empty (h : Q (.bool false) s) : wpAny (model prog w) A (compareOp .NotEq (.str (PySem.Str.ofString "") t) (.str (PySem.Str.ofString "") u)) Q E s := by
  refine PyProof.Rows.ne_str ?_
  have e : (PySem.Str.ofString "" != PySem.Str.ofString "") = false := by decide +kernel
  rw [e]; exact h
theorem not_in {l n : Nat} {vs : List Value} {ns : List Int} {k : Int} (N : News h₀ L s.heap news) (hm : (l, listOf vs.toArray n) ∈ news) (hi : IntsAre vs ns) (hk : ∀ x ∈ ns, x ≠ k) (h : Q (.bool true) s) : wpAny (model prog w) A (compareOp .NotIn (.int k t) (.ref l)) Q E s := by
  refine PyProof.Rows.notin_list_ints (led_list N hm) hi ?_
  have e : (ns.any (· == k)) = false := by
    rw [List.any_eq_false]
    intro x hx
    simpa using hk x hx
  rw [e]; exact h
theorem row_empty {a b n : Nat} {vs : List Value} {k : Nat} (N : News h₀ L s.heap news) (hm : (a, listOf vs.toArray n) ∈ news) (hm' : (b, listOf #[] k) ∈ news) (hi : IntsAre vs []) (hu : A.units + 64 < cLine) (h : Q (.bool true) s) : wpAny (model prog w) A (compareOp .Eq (.ref a) (.ref b)) Q E s := by
  refine eq_intsK (led_list N hm) hi (led_list (vs := []) N hm') .nil hu ?_
  exact h
/-- the turns over the letters' places -/
theorem comp_lts {env : Env} {elt : Expr} {x : Str} {scope : Scope} {cl : List (Str × Addr)} {S : List (Addr × Obj) → Prop} {Fin : List Value → List (Addr × Obj) → Prop} {news : List (Addr × Obj)} {bv : List Value} (br : List Lt) (g : Lt → Int) (hbv : IntsAre bv (br.map Lt.idx))
    (turn : ∀ (l : Lt) t (I : Nat) oI (C : Nat) oC (D : Nat) m₂ ys h tk (E' : Value → Shared → Prop), NsObj oC m₂ → m₂ x = some (.int l.idx t) → Fr h₀ L h m → News h₀ L h ((I, oI) :: (C, oC) :: (D, lst ys) :: news) → Off3 I C D news → ((@Ne Nat I C) ∧ (@Ne Nat I D) ∧ (@Ne Nat C D)) →
      wpAny (model prog w) A (eval elt (compEnvC scope cl C env)) (fun y s₂ => Hold (CompEnd h₀ L m { s with heap := h, toks := tk } I oI C oC D (lst ys) S (fun y news' => news' = news ∧ ∃ t, y = .int (g l) t) y s₂)) E' { s with heap := h, toks := tk })
    (fin : ∀ ys, IntsAre ys (br.map g) → Fin ys news) :
    CompRest prog w A h₀ L m env elt x scope cl s S (fun i v => bv.toArray[i]? = some v) Fin bv.toArray.size 0 [] news := by
  have hlen : bv.length = br.length := by rw [hbv.length, List.length_map]
  have key : ∀ (j i : Nat) (ys : List Value), i + j = br.length → IntsAre ys ((br.take i).map g) → CompRest prog w A h₀ L m env elt x scope cl s S (fun i v => bv.toArray[i]? = some v) Fin j i ys news := by
    intro j
    induction j with
    | zero =>
      intro i ys hi hy
      have e : i = br.length := by omega
      subst e
      rw [List.take_length] at hy
      exact CompRest.zero (fin ys hy)
    | succ j ih =>
      intro i ys hi hy
      refine CompRest.succ ?_
      intro v I oI C oC D m₂ h tk E' hv hC hx F N off ne
      have hlt : i < br.length := by omega
      obtain ⟨k, u, rfl, hk⟩ := IntsAre.at hbv i v (by simpa using hv)
      have hk' : k = (br[i]).idx := by
        rw [List.getElem?_map, List.getElem?_eq_getElem hlt] at hk
        exact (Option.some.inj hk).symm
      subst hk'
      refine wpAny_mono (turn br[i] u I oI C oC D m₂ ys h tk E' hC hx F N off ne) (fun y s₂ hq => ?_) fun _ _ e => e
      obtain ⟨h', tk', nw, e, F', N', off', hS, hn, t', hy'⟩ := hq
      rw [hn] at N' off' hS
      refine ⟨h', tk', news, e, F', N', off', hS, ?_⟩
      rw [hy']
      refine ih (i + 1) _ (by omega) ?_
      rw [List.take_add_one, List.getElem?_eq_getElem hlt, List.map_append]
      exact ints_snoc' hy
  have hz : bv.toArray.size = br.length := by simp [hlen]
  rw [hz]
  exact key br.length 0 [] (by omega) (by simp only [List.take_zero, List.map_nil]; exact .nil)
end
open PySem.SeqAt
theorem hold_any {P : Prop} (h : Hold P) : P := h
section
variable {prog : Program} {w : World} {A : Around} {E : Value → Shared → Prop} {s : Shared} {h₀ : Heap} {L : Addr} {m : Str → Option Value} {news : List (Addr × Obj)} {t u : Tok} {Q : Value → Shared → Prop}
theorem ne_tups {a b : Nat} {x1 x2 x3 x4 x5 : Int} {t1 t2 t3 t4 t5 u1 u2 u3 u4 u5 : Tok} (N : News h₀ L s.heap news)
    (ha : (a, ({ cls := .type "tuple", data := .seq #[.int x1 t1, .int x2 t2, .int x3 t3, .int x4 t4, .int x5 t5] } : Obj)) ∈ news) (hb : (b, ({ cls := .type "tuple", data := .seq #[.int x1 u1, .int x2 u2, .int x3 u3, .int x4 u4, .int x5 u5] } : Obj)) ∈ news)
    (hu : A.units + 64 < cLine) (h : Q (.bool false) s) : wpAny (model prog w) A (compareOp .NotEq (.ref a) (.ref b)) Q E s := by
  refine ne_dataH (da := .tuple [.int x1, .int x2, .int x3, .int x4, .int x5]) (db := .tuple [.int x1, .int x2, .int x3, .int x4, .int x5])
    (reads_tuple_at (N.get ha) rfl rfl (ReadsAll.cons (Reads.int _ _) (ReadsAll.cons (Reads.int _ _) (ReadsAll.cons (Reads.int _ _) (ReadsAll.cons (Reads.int _ _) (ReadsAll.cons (Reads.int _ _) ReadsAll.nil))))))
    (reads_tuple_at (N.get hb) rfl rfl (ReadsAll.cons (Reads.int _ _) (ReadsAll.cons (Reads.int _ _) (ReadsAll.cons (Reads.int _ _) (ReadsAll.cons (Reads.int _ _) (ReadsAll.cons (Reads.int _ _) ReadsAll.nil)))))) rfl rfl hu ?_
  simpa [PyData.eqv, PyData.eqvAll] using h
theorem eq_is {a c : Int} {b : Bool} (hb : (a == c) = b) (h : Q (.bool b) s) : wpAny (model prog w) A (compareOp .Eq (.int a t) (.int c u)) Q E s := by
  refine PyProof.Rows.eq_int ?_
  rw [hb]; exact h
theorem truthy_list {l n : Nat} {vs : List Value} {b : Bool} {Q : Bool → Shared → Prop} (N : News h₀ L s.heap news) (hm : (l, listOf vs.toArray n) ∈ news) (hz : vs.length ≤ 1000) (hb : (!vs.isEmpty) = b) (h : ∀ tk, Q b { s with toks := tk }) : wpAny (model prog w) A (truthy (.ref l)) Q E s :=
  truthy_led N hm (by omega) hb h
end
theorem low_any {row : List Lt} (h : row.any Lt.isS = true) : lowest row = row.filter Lt.isS := by unfold lowest; rw [if_pos h]
theorem low_none {row : List Lt} (h : row.any Lt.isS = false) : lowest row = row := by unfold lowest; rw [if_neg (by rw [h]; decide)]
theorem code_up {l : Lt} (h : l.up = true) : l.code ≠ 21 ∧ l.code ≠ 34 := by cases l <;> simp_all [Lt.up, Lt.code]
end
section
/-! the lowest crossings of a row -/
open PySem PySem.W PyProof.Rows PySem.Calls PySem.Spec
open PyProof.Rows.LCg
section
variable {prog : Program} {w : World} {A : Around} {s : Shared} {h₀ : Heap} {L : Addr} {m : Str → Option Value}
theorem comp_low {env : Env} {ct elt : Expr} {x : Str} {scope : Scope} {cl : List (Str × Addr)} {S : List (Addr × Obj) → Prop} {Fin : List Value → List (Addr × Obj) → Prop} {news : List (Addr × Obj)} {rv : List Value} (row : List Lt) (hrv : IntsAre rv (row.map Lt.code))
    (turn : ∀ (l : Lt) t (I : Nat) oI (C : Nat) oC (D : Nat) m₂ ys h tk (E' : Value → Shared → Prop), NsObj oC m₂ → m₂ x = some (.int l.code t) → Fr h₀ L h m → News h₀ L h ((I, oI) :: (C, oC) :: (D, lst ys) :: news) → Off3 I C D news →
      wpAny (model prog w) A (isTrue ct (compEnvC scope cl C env) (eval ct (compEnvC scope cl C env))) (fun ok s' => Hold (ok = l.isS ∧ wpAny (model prog w) A (eval elt (compEnvC scope cl C env)) (fun y s₂ => Hold (CompEnd h₀ L m { s with heap := h, toks := tk } I oI C oC D (lst ys) S (fun y news' => news' = news ∧ ∃ t, y = .int l.code t) y s₂)) E' s' ∧
        CompEnd h₀ L m { s with heap := h, toks := tk } I oI C oC D (lst ys) S (fun _ news' => news' = news) Value.none s')) E' { s with heap := h, toks := tk })
    (fin : ∀ ys, IntsAre ys ((row.filter Lt.isS).map Lt.code) → Fin ys news) :
    LCt.CompRestT prog w A h₀ L m env ct elt x scope cl s S (fun i v => rv.toArray[i]? = some v) Fin rv.toArray.size 0 [] news := by
  have hlen : rv.length = row.length := by rw [hrv.length, List.length_map]
  have key : ∀ (j i : Nat) (ys : List Value), i + j = row.length → IntsAre ys (((row.take i).filter Lt.isS).map Lt.code) → LCt.CompRestT prog w A h₀ L m env ct elt x scope cl s S (fun i v => rv.toArray[i]? = some v) Fin j i ys news := by
    intro j
    induction j with
    | zero =>
      intro i ys hi hy
      have e : i = row.length := by omega
      subst e
      rw [List.take_length] at hy
      exact LCt.CompRestT.zero (fin ys hy)
    | succ j ih =>
      intro i ys hi hy
      refine LCt.CompRestT.succ ?_
      intro v I oI C oC D m₂ h tk E' hv hC hx F N off ne
      have hlt : i < row.length := by omega
      obtain ⟨k, u, rfl, hk⟩ := IntsAre.at hrv i v (by simpa using hv)
      have hk' : k = (row[i]).code := by
        rw [List.getElem?_map, List.getElem?_eq_getElem hlt] at hk
        exact (Option.some.inj hk).symm
      subst hk'
      have e : row.take (i + 1) = row.take i ++ [row[i]] := by rw [List.take_add_one, List.getElem?_eq_getElem hlt]; rfl
      refine wpAny_mono (turn row[i] u I oI C oC D m₂ ys h tk E' hC hx F N off) (fun ok s₁ hq => ?_) fun _ _ e => e
      obtain ⟨rfl, h1, h2⟩ := hq
      split
      · rename_i hs
        refine wpAny_mono h1 (fun y s₂ hq => ?_) fun _ _ e => e
        obtain ⟨h', tk', nw, e1, F', N', off', hS, hn, t', hy'⟩ := hq
        rw [hn] at N' off' hS
        refine ⟨h', tk', news, e1, F', N', off', hS, ?_⟩
        rw [hy']
        refine ih (i + 1) _ (by omega) ?_
        rw [e, List.filter_append, List.map_append, List.filter_cons_of_pos hs]
        exact ints_snoc' hy
      · rename_i hs
        obtain ⟨h', tk', nw, e1, F', N', off', hS, hn⟩ := h2
        rw [hn] at N' off' hS
        refine ⟨h', tk', news, e1, F', N', off', hS, ?_⟩
        refine ih (i + 1) _ (by omega) ?_
        rw [e, List.filter_append, List.map_append, List.filter_cons_of_neg hs]
        simpa using hy
  have hz : rv.toArray.size = row.length := by simp [hlen]
  rw [hz]
  exact key row.length 0 [] (by omega) (by simp only [List.take_zero, List.filter_nil, List.map_nil]; exact .nil)
theorem lt30' {A : Around} {E : Value → Shared → Prop} {x : Lt} {t u : Tok} {Q : Value → Shared → Prop} (h : Q (.bool x.isS) s) : wpAny (model prog w) A (compareOp .Lt (.int x.code t) (.int 30 u)) Q E s := lt30 rfl h
theorem ret_to {A : Around} {E : Value → Shared → Prop} {t : Sem Flow} {Q : Flow → Shared → Prop} (I : Shared → Flow → Shared → Prop) (h1 : wpAny (model prog w) A t (fun f s' => Hold (I s f s')) E s) (h2 : ∀ f s', I s f s' → Q f s') : wpAny (model prog w) A t Q E s :=
  wpAny_mono h1 h2 fun _ _ h => h
end
end
section
/-! the stages of law -/
open PySem PySem.W PyProof.Rows PySem.Calls
section
variable {prog : Program} {w : World} {A : Around} {E : Value → Shared → Prop} {s : Shared} {env : Env} {Q : Flow → Shared → Prop}
/-- one statement, and what stands behind it -/
theorem execs_cut {a : Stmt} {r : List Stmt} (I : Shared → Shared → Prop) (h1 : wpAny (model prog w) A (exec a env) (fun f s' => Hold (f = .next ∧ I s s')) E s) (h2 : ∀ s', I s s' → wpAny (model prog w) A (execs r env) Q E s') :
    wpAny (model prog w) A (execs (a :: r) env) Q E s :=
  wpAny_execs_cons (wpAny_mono h1 (fun f s' ⟨e, h⟩ => by subst e; exact h2 s' h) (fun _ _ h => h))
end
abbrev nm (x : String) : PySem.Str := PySem.Str.ofString x
/-- the law's state: some names, a ledger -/
inductive LawSt (base : Heap) (L : Nat) (s : Shared) (ps : List (PySem.Str × Value)) (nx : List (Addr × Obj)) (s' : Shared) : Prop
  | mk (u : PySem.Str → Option Value) (h : Heap) (tk : Nat) (h0 : s' = { s with heap := h, toks := tk }) (h1 : Fr base L h (kstB u ps)) (h2 : News base L h nx) : LawSt base L s ps nx s'
inductive I1 (base : Heap) (L : Nat) (o2 o3 : Obj) (s s' : Shared) : Prop
  | mk (D : Nat) (cv : List Value) (cn : Nat) (c1 : Obj) (cs : List Int) (h0 : LawSt base L s [] [(L + 1 + 1 + 1, o3), (L + 1 + 1, o2), (L + 1, c1), (D, listOf cv.toArray cn), (103, tabObj #[])] s') (h1 : c1.data = .cell (some (.ref D))) (h2 : IntsAre cv cs) (h3 : cs.length ≤ 10) (h4 : (∀ x ∈ cs, 0 ≤ x ∧ x < 1000000)) (h5a : L + 1 + 1 + 1 ≠ D) (h5b : L + 1 + 1 ≠ D) (h5c : L + 1 ≠ D) (h5d : 103 ≠ D) : I1 base L o2 o3 s s'
inductive I2 (base : Heap) (L : Nat) (o2 o3 : Obj) (s s' : Shared) : Prop
  | mk (M : Nat) (nv : List Value) (nn : Nat) (ns : List Int) (h0 : LawSt base L s [(nm "numbers", .ref M)] [(L + 1 + 1 + 1, o3), (L + 1 + 1, o2), (M, listOf nv.toArray nn), (103, tabObj #[])] s') (h1 : IntsAre nv ns) (h2 : ns.length = 5) (h3 : (∀ x ∈ ns, 0 ≤ x ∧ x < 100000000)) (h4a : L + 1 + 1 + 1 ≠ M) (h4b : L + 1 + 1 ≠ M) (h4c : 103 ≠ M) : I2 base L o2 o3 s s'
inductive I3 (base : Heap) (L : Nat) (o2 o3 : Obj) (s s' : Shared) : Prop
  | mk (M D : Nat) (nv : List Value) (nn : Nat) (ns : List Int) (bv : List Value) (bn : Nat) (br : List Lt) (k : Nat) (t : Tok) (h0 : LawSt base L s [(nm "numbers", .ref M), (nm "braid", .ref D), (nm "alone", .int (k : Int) t)] [(L + 1 + 1 + 1, o3), (L + 1 + 1, o2), (M, listOf nv.toArray nn), (D, listOf bv.toArray bn), (103, tabObj #[])] s') (h1 : IntsAre nv ns) (h2 : ns.length = 5) (h3 : (∀ x ∈ ns, 0 ≤ x ∧ x < 100000000)) (h4 : IntsAre bv (br.map Lt.idx)) (h5 : Ins br k) (h6 : br.length ≤ 30) (h7a : L + 1 + 1 + 1 ≠ M) (h7b : L + 1 + 1 ≠ M) (h7c : 103 ≠ M) (h8a : L + 1 + 1 + 1 ≠ D) (h8b : L + 1 + 1 ≠ D) (h8c : 103 ≠ D) : I3 base L o2 o3 s s'
inductive I4 (w : World) (base : Heap) (L : Nat) (o3 : Obj) (s s' : Shared) : Prop
  | mk (M D f : Nat) (nv : List Value) (nn : Nat) (ns : List Int) (bv : List Value) (bn : Nat) (br : List Lt) (k : Nat) (t ta tb : Tok) (c2 : Obj) (W : Lt → PySem.Str) (h0 : LawSt base L s [(nm "numbers", .ref M), (nm "braid", .ref D), (nm "alone", .int (k : Int) t), (nm "low", .str (W .a) ta), (nm "high", .str (W .A) tb)] [(L + 1 + 1 + 1, o3), (L + 1 + 1, c2), (M, listOf nv.toArray nn), (D, listOf bv.toArray bn), (103, tabObj #[])] s') (h1 : IntsAre nv ns) (h2 : ns.length = 5) (h3 : (∀ x ∈ ns, 0 ≤ x ∧ x < 100000000)) (h4 : IntsAre bv (br.map Lt.idx)) (h5 : Ins br k) (h6 : br.length ≤ 30) (h7a : L + 1 + 1 + 1 ≠ M) (h7b : L + 1 + 1 ≠ M) (h7c : 103 ≠ M) (h8a : L + 1 + 1 + 1 ≠ D) (h8b : L + 1 + 1 ≠ D) (h8c : 103 ≠ D) (h9 : c2.data = .cell (some (.ref f))) (h10 : Hand w f W) : I4 w base L o3 s s'
def ConI (w : World) (D : Nat) (f : Addr) (k : Int) (pre : List (Addr × Obj)) (post : Value → List (Addr × Obj) → Prop) : Prop := ∀ t, Con w D f [.int k t] pre post
def EscAt (w : World) (f : Addr) (x y : PySem.Str) : Prop := ∀ t, Con w 370 f [.str x t] [] (fun r nx => (∃ t, r = .str y t) ∧ nx = [])
inductive I5 (w : World) (base : Heap) (L : Nat) (o3 : Obj) (s s' : Shared) : Prop
  | mk (M D f Sg : Nat) (nv : List Value) (nn : Nat) (ns : List Int) (bv : List Value) (bn : Nat) (br : List Lt) (k : Nat) (t ta tb q1 q2 q3 q4 : Tok) (c2 : Obj) (W : Lt → PySem.Str) (h0 : LawSt base L s [(nm "numbers", .ref M), (nm "braid", .ref D), (nm "alone", .int (k : Int) t), (nm "low", .str (W .a) ta), (nm "high", .str (W .A) tb), (nm "signs", .ref Sg)] [(L + 1 + 1 + 1, o3), (L + 1 + 1, c2), (M, listOf nv.toArray nn), (D, listOf bv.toArray bn), (Sg, listOf #[.str (nm "<") q1, .str (nm ">") q2, .str (nm "<<") q3, .str (nm ">>") q4] 0), (103, tabObj #[])] s') (h1 : IntsAre nv ns) (h2 : ns.length = 5) (h3 : (∀ x ∈ ns, 0 ≤ x ∧ x < 100000000)) (h4 : IntsAre bv (br.map Lt.idx)) (h5 : Ins br k) (h6 : br.length ≤ 30) (h7a : L + 1 + 1 + 1 ≠ M) (h7b : L + 1 + 1 ≠ M) (h7c : 103 ≠ M) (h8a : L + 1 + 1 + 1 ≠ D) (h8b : L + 1 + 1 ≠ D) (h8c : 103 ≠ D) (h9 : c2.data = .cell (some (.ref f))) (h10 : Hand w f W) (h11a : L + 1 + 1 + 1 < Sg) (h11b : M < Sg) (h11c : D < Sg) (h11d : 103 < Sg) : I5 w base L o3 s s'
inductive I6 (w : World) (base : Heap) (L : Nat) (s s' : Shared) : Prop
  | mk (M D Wd Kd : Nat) (nv : List Value) (nn : Nat) (ns : List Int) (bv : List Value) (bn : Nat) (br : List Lt) (k : Nat) (t ta tb : Tok) (c3 : Obj) (W : Lt → PySem.Str) (wv kv : List Value) (n1 n2 : Nat) (h0 : LawSt base L s [(nm "numbers", .ref M), (nm "braid", .ref D), (nm "alone", .int (k : Int) t), (nm "low", .str (W .a) ta), (nm "high", .str (W .A) tb), (nm "words", .ref Wd)] [(L + 1 + 1 + 1, c3), (M, listOf nv.toArray nn), (D, listOf bv.toArray bn), (Wd, listOf wv.toArray n1), (Kd, listOf kv.toArray n2), (103, tabObj #[])] s') (h1 : IntsAre nv ns) (h2 : ns.length = 5) (h3 : (∀ x ∈ ns, 0 ≤ x ∧ x < 100000000)) (h4 : IntsAre bv (br.map Lt.idx)) (h5 : Ins br k) (h6 : br.length ≤ 30) (h7 : c3.data = .cell (some (.ref Kd))) (h8 : GoodW W) (h9 : (∀ d : Bool, (if d then W .b else W .B).cps = (if d then W .a else W .A).cps ++ (if d then W .a else W .A).cps)) (h10 : StrsAre wv (ws4 W)) (h11 : IntsAre kv ks4) (h12 : PySem.SeqAt.shaped (.list [.str (W .a), .str (W .A), .str (W .b), .str (W .B)]) = true) (h13a : L + 1 + 1 + 1 ≠ M) (h13b : L + 1 + 1 + 1 ≠ D) (h13c : L + 1 + 1 + 1 ≠ Wd) (h13d : L + 1 + 1 + 1 ≠ Kd) (h13e : M ≠ Wd) (h13f : D ≠ Wd) (h13g : M ≠ Kd) (h13h : D ≠ Kd) (h13i : Wd ≠ Kd) (h13j : 103 ≠ M) (h13k : 103 ≠ D) (h13l : 103 ≠ Wd) (h13m : 103 ≠ Kd) : I6 w base L s s'
/-- the state of the for that lays the text -/
inductive TInv (W : Lt → PySem.Str) (base : Heap) (L M D Wd Kd e it : Nat) (nv bv wv kv : List Value) (nn bn n1 n2 : Nat) (c3 : Obj) (br : List Lt) (k : Nat) (t : Tok) (s : Shared) (c : List Lt) (s' : Shared) : Prop
  | mk (tx : List (Lt × Bool)) (z : PySem.Str) (tz : Tok) (old : Value) (oi : Obj) (h0 : LawSt base L s [(nm "numbers", .ref M), (nm "braid", .ref D), (nm "alone", .int (k : Int) t), (nm "words", .ref Wd), (nm "text", .str z tz)] ((e, enumO it ((tx.length : Nat) : Int) old) :: (it, oi) :: [(L + 1 + 1 + 1, c3), (M, listOf nv.toArray nn), (D, listOf bv.toArray bn), (Wd, listOf wv.toArray n1), (Kd, listOf kv.toArray n2), (103, tabObj #[])]) s') (h1 : IsLi oi D tx.length) (h2 : br = tx.map (·.1) ++ c) (h3 : z.cps.toList = encs W tx) : TInv W base L M D Wd Kd e it nv bv wv kv nn bn n1 n2 c3 br k t s c s'
inductive I8 (W : Lt → PySem.Str) (base : Heap) (L M D Wd Kd : Nat) (nv bv wv kv : List Value) (nn bn n1 n2 : Nat) (c3 : Obj) (br : List Lt) (k : Nat) (t : Tok) (s s' : Shared) : Prop
  | mk (tx : List (Lt × Bool)) (z : PySem.Str) (tz : Tok) (h0 : LawSt base L s [(nm "braid", .ref D), (nm "alone", .int (k : Int) t), (nm "words", .ref Wd), (nm "text", .str z tz)] [(L + 1 + 1 + 1, c3), (D, listOf bv.toArray bn), (Wd, listOf wv.toArray n1), (Kd, listOf kv.toArray n2), (103, tabObj #[])] s') (h1 : br = tx.map (·.1)) (h2 : z.cps.toList = encs W tx) : I8 W base L M D Wd Kd nv bv wv kv nn bn n1 n2 c3 br k t s s'
def I7 (base : Heap) (L M D Wd Kd : Nat) (nv bv wv kv : List Value) (nn bn n1 n2 : Nat) (c3 : Obj) (k : Nat) (t : Tok) (s s' : Shared) : Prop :=
  LawSt base L s [(nm "numbers", .ref M), (nm "braid", .ref D), (nm "alone", .int (k : Int) t), (nm "words", .ref Wd)] [(L + 1 + 1 + 1, c3), (M, listOf nv.toArray nn), (D, listOf bv.toArray bn), (Wd, listOf wv.toArray n1), (Kd, listOf kv.toArray n2), (103, tabObj #[])] s'
inductive I7' (base : Heap) (L M D Wd Kd : Nat) (nv bv wv kv : List Value) (nn bn n1 n2 : Nat) (c3 : Obj) (k : Nat) (t : Tok) (s s' : Shared) : Prop
  | mk tz (h0 : LawSt base L s [(nm "numbers", .ref M), (nm "braid", .ref D), (nm "alone", .int (k : Int) t), (nm "words", .ref Wd), (nm "text", .str (nm "") tz)] [(L + 1 + 1 + 1, c3), (M, listOf nv.toArray nn), (D, listOf bv.toArray bn), (Wd, listOf wv.toArray n1), (Kd, listOf kv.toArray n2), (103, tabObj #[])] s') : I7' base L M D Wd Kd nv bv wv kv nn bn n1 n2 c3 k t s s'
inductive I9 (w : World) (W : Lt → PySem.Str) (base : Heap) (L D Wd Kd : Nat) (bv wv kv : List Value) (bn n1 n2 : Nat) (c3 : Obj) (k : Nat) (t : Tok) (z : PySem.Str) (tz : Tok) (tx : List (Lt × Bool)) (s s' : Shared) : Prop
  | mk (S : Lex) (ps : Array Value) (h0 : LawSt base L s [(nm "braid", .ref D), (nm "alone", .int (k : Int) t), (nm "words", .ref Wd), (nm "text", .str z tz), (nm "line", .ref S.ln)] (S.led ++ [(L + 1 + 1 + 1, c3), (D, listOf bv.toArray bn), (Wd, listOf wv.toArray n1), (Kd, listOf kv.toArray n2), (103, tabObj ps)]) s') (h1 : S.Ok w) (h2 : S.lno = 1) (h3 : LS W S [] tx) (h4a : 103 < S.C) (h4b : L + 1 + 1 + 1 < S.C) (h4c : D < S.C) (h4d : Wd < S.C) (h4e : Kd < S.C) : I9 w W base L D Wd Kd bv wv kv bn n1 n2 c3 k t z tz tx s s'
inductive I10 (w : World) (S : Lex) (ps : Array Value) (base : Heap) (L D Kd : Nat) (bv kv : List Value) (bn n2 : Nat) (c3 : Obj) (k : Nat) (t : Tok) (z : PySem.Str) (tz : Tok) (tx : List (Lt × Bool)) (s s' : Shared) : Prop
  | mk (R : Nat) (rv : List Value) (rn : Nat) (row : List Lt) (tw : Tok) (pbv : List Value) (pbn : Nat) (sgv : List Value) (sgn : Nat) (t1 : Tok) (h0 : LawSt base L s [(nm "braid", .ref D), (nm "alone", .int (k : Int) t), (nm "text", .str z tz), (nm "line", .ref S.ln), (nm "row", .ref R), (nm "word", .str (nm "") tw)] ((S.upd pbv pbn sgv sgn (1 + bare tx) t1).led ++ [(L + 1 + 1 + 1, c3), (D, listOf bv.toArray bn), (Kd, listOf kv.toArray n2), (R, listOf rv.toArray rn), (103, tabObj ps)]) s') (h1 : IntsAre rv (row.map Lt.code)) (h2 : Left (tx.map (·.1)) row) (h3 : row.length ≤ 30) (h4a : 103 < R) (h4b : L + 1 + 1 + 1 < R) (h4c : D < R) (h4d : Kd < R) : I10 w S ps base L D Kd bv kv bn n2 c3 k t z tz tx s s'
def I11 (ps : Array Value) (base : Heap) (L D Kd R : Nat) (bv kv rv : List Value) (bn n2 rn : Nat) (c3 : Obj) (k : Nat) (t : Tok) (s s' : Shared) : Prop :=
  LawSt base L s [(nm "braid", .ref D), (nm "alone", .int (k : Int) t), (nm "row", .ref R)] [(L + 1 + 1 + 1, c3), (D, listOf bv.toArray bn), (Kd, listOf kv.toArray n2), (R, listOf rv.toArray rn), (103, tabObj ps)] s'
def I12 (ps : Array Value) (base : Heap) (L R : Nat) (rv : List Value) (rn : Nat) (k : Nat) (t : Tok) (s s' : Shared) : Prop :=
  LawSt base L s [(nm "alone", .int (k : Int) t), (nm "row", .ref R)] [(R, listOf rv.toArray rn), (103, tabObj ps)] s'
inductive I13 (ps : Array Value) (base : Heap) (L : Nat) (s : Shared) (f : Flow) (s' : Shared) : Prop
  | mk (h0 : f = .ret (.bool true)) (h1 : LawSt base L s [] [(103, tabObj ps)] s') : I13 ps base L s f s'
theorem hold_in {P : Prop} (h : P) : Hold P := h
theorem ne_of_obj {h₀ h : Heap} {L : Addr} {news : List (Addr × Obj)} {a c : Nat} {o o' : Obj} (N : News h₀ L h news) (h1 : (a, o) ∈ news) (h2 : (c, o') ∈ news) (hne : o' ≠ o) : a ≠ c := by
  rintro rfl
  exact hne (Option.some.inj ((N _ h2).1.symm.trans (N _ h1).1))
theorem ne_cell {o : Obj} {v : Option Value} {us : Array Value} {n : Nat} (h : o.data = .cell v) : listOf us n ≠ o := by
  rintro rfl; cases h
theorem ne_tup_cell {o : Obj} {v : Option Value} {us : Array Value} (h : o.data = .cell v) : (tupObj us) ≠ o := by
  rintro rfl; cases h
theorem ne_tab {us : Array Value} {n : Nat} : listOf us n ≠ tabObj #[] := fun h => by cases h
theorem cells_ok {script : List Int} : ∀ x ∈ List.map (fun k' => Int.fmod k' (10 ^ Int.toNat 6)) (List.take 10 script), 0 ≤ x ∧ x < 1000000 := by
  intro x hx
  obtain ⟨k, _, rfl⟩ := List.mem_map.mp hx
  have e : ((10 : Int) ^ Int.toNat 6) = 1000000 := by decide
  rw [e, Int.fmod_eq_emod_of_nonneg _ (by omega)]
  omega
end
section
/-! sums of steps of a list -/
open PySem PySem.W PyProof.Rows PySem.Calls PySem.Spec
def valOf : Value → Int
  | .int x _ => x
  | _ => 0
def pickI (cv : List Value) (i : Nat) : List Value := (slicePick cv.toArray (some (i : Int)) none (some 5)).toList
theorem pick_all {cv : List Value} {cs : List Int} (hi : IntsAre cv cs) : ∀ us : List Value, (∀ v ∈ us, v ∈ cv) → IntsAre us (us.map valOf) ∧ ∀ x ∈ us.map valOf, x ∈ cs
  | [], _ => ⟨.nil, fun _ h => nomatch h⟩
  | v :: r, h => by
    obtain ⟨h1, h2⟩ := pick_all hi r fun y hy => h y (List.mem_cons_of_mem _ hy)
    obtain ⟨j, hj⟩ := List.mem_iff_getElem?.mp (h v (List.mem_cons_self ..))
    obtain ⟨x, t, rfl, hx⟩ := IntsAre.at hi j v hj
    refine ⟨.cons x t h1, fun y hy => ?_⟩
    rcases List.mem_cons.mp hy with rfl | hy
    · exact List.mem_of_getElem? hx
    · exact h2 y hy
theorem pick_mem (cv : List Value) (i : Nat) : ∀ v ∈ pickI cv i, v ∈ cv := by
  intro v hv
  unfold pickI slicePick at hv
  simp only [List.mem_filterMap] at hv
  obtain ⟨j, _, hj⟩ := hv
  simp at hj
  exact List.mem_of_getElem? hj
theorem pick_len (cv : List Value) (i : Nat) : (pickI cv i).length ≤ cv.length := by
  have := slicePick_size_le cv.toArray (some (i : Int)) none (some 5)
  simpa [pickI] using this
theorem sum_bound : ∀ ms : List Int, (∀ x ∈ ms, 0 ≤ x ∧ x < 1000000) → 0 ≤ ms.sum ∧ ms.sum ≤ 1000000 * ms.length
  | [], _ => by simp
  | x :: r, h => by
    have h1 := sum_bound r fun y hy => h y (List.mem_cons_of_mem _ hy)
    have h2 := h x (List.mem_cons_self ..)
    simp only [List.sum_cons, List.length_cons]
    omega
abbrev firsts : List Int := [27, 9, 22, 40, 13]
def numG (cv : List Value) (i : Nat) : Int := firsts.getD i 0 + ((pickI cv i).map valOf).sum
theorem numG_ok {cv : List Value} {cs : List Int} (hi : IntsAre cv cs) (hl : cs.length ≤ 10) (hb : ∀ x ∈ cs, 0 ≤ x ∧ x < 1000000) : ∀ x ∈ (List.range 5).map (numG cv), 0 ≤ x ∧ x < 100000000 := by
  intro x hx
  obtain ⟨i, hi5, rfl⟩ := List.mem_map.mp hx
  have h5 : i < 5 := List.mem_range.mp hi5
  have hp := pick_all hi _ (pick_mem cv i)
  have hs := sum_bound _ fun y hy => hb y (hp.2 y hy)
  have hz := pick_len cv i
  rw [hi.length] at hz
  rw [List.length_map] at hs
  have hf : 0 ≤ firsts.getD i 0 ∧ firsts.getD i 0 ≤ 40 := by
    have : i = 0 ∨ i = 1 ∨ i = 2 ∨ i = 3 ∨ i = 4 := by omega
    rcases this with rfl | rfl | rfl | rfl | rfl <;> decide
  unfold numG
  omega
section
variable {prog : Program} {w : World} {A : Around} {E : Value → Shared → Prop} {s : Shared} {h₀ : Heap} {L : Addr} {m : Str → Option Value} {news : List (Addr × Obj)} {value slice : PySem.Expr} {t u : Tok} {Q : Value → Shared → Prop}
theorem sum_led {l n : Nat} {us : List Value} {ms : List Int} (hh : A.handled = none) (F : Fr h₀ L s.heap m) (N : News h₀ L s.heap news) (hm : (l, listOf us.toArray n) ∈ news) (hi : IntsAre us ms)
    (h : ∀ h' tk t', Fr h₀ L h' m → News h₀ L h' news → Q (.int ms.sum t') { s with heap := h', toks := tk }) : wpAny (model prog w) A (call (.builtin "sum") [.ref l]) Q E s := sumK hh F N (led_list N hm) hi h
theorem slice_step {ops : List Value} {R n i : Nat} {cv : List Value} {cs : List Int} (F : Fr h₀ L s.heap m) (N : News h₀ L s.heap news) (hm : (R, listOf cv.toArray n) ∈ news) (hi : IntsAre cv cs) (hz : cs.length ≤ 1000)
    (h : ∀ D h', Fr h₀ L h' m → News h₀ L h' ((D, listOf (pickI cv i).toArray 0) :: news) → (∀ q ∈ news, q.1 < D) → IntsAre (pickI cv i) ((pickI cv i).map valOf) → Q (.ref D) { s with heap := h' })
    (hs : subscripted slice false (.ref R) (.ref s.heap.objs.size) = operate ops (getItem (.ref R) (.ref s.heap.objs.size))) (ht : ∀ r, letTemporaryGo value (.ref R) r = pure ()) :
    wpAny (model prog w) A (subscriptTail value slice (.ref R) (.ref s.heap.objs.size)) Q E { s with heap := s.heap.push { cls := .type "slice", data := .fields #[.int (i : Int) t, .none, .int 5 u] } } :=
  kmk_slice3_lit F N (led_list N hm) (.int _ _) .none (.int _ _) (by decide) rfl (fun D h' F' N' l => h D h' F' N' l (pick_all hi _ (pick_mem cv i)).1) hs ht (by rw [List.size_toArray, sizeLine_eq, hi.length]; omega)
end
end
section
open PySem PySem.W PyProof.Rows PySem.Calls
local macro_rules | `(tactic| k_all) => `(tactic| first | exact OwnOff.ne (by with_reducible assumption) (by k_memK) | exact off_lt0 (by with_reducible assumption) | exact OffBase.ne (by with_reducible assumption) (by (try dsimp only); omega) | exact List.forall_mem_append.mpr ⟨by k_all, by k_all⟩)
local macro_rules | `(tactic| walk_at "and1") => `(tactic| ((with_reducible rename _ ∧ _ => hq9); first | exact Nat.ne_of_lt hq9.1 | exact Nat.ne_of_gt hq9.1 | exact hq9.1 | exact Ne.symm hq9.1 | exact Nat.ne_of_lt hq9.2.1 | exact Nat.ne_of_gt hq9.2.1 | exact hq9.2.1 | exact Ne.symm hq9.2.1 | exact Nat.ne_of_lt hq9.2.2.1 | exact Nat.ne_of_gt hq9.2.2.1 | exact hq9.2.2.1 | exact Ne.symm hq9.2.2.1 | exact Nat.ne_of_lt hq9.2.2.2.1 | exact Nat.ne_of_gt hq9.2.2.2.1 | exact hq9.2.2.2.1 | exact Ne.symm hq9.2.2.2.1 | exact Nat.ne_of_lt hq9.2.2.2.2.1 | exact Nat.ne_of_gt hq9.2.2.2.2.1 | exact hq9.2.2.2.2.1 | exact Ne.symm hq9.2.2.2.2.1 | exact Nat.ne_of_lt hq9.2.2.2.2.2.1 | exact Nat.ne_of_gt hq9.2.2.2.2.2.1 | exact hq9.2.2.2.2.2.1 | exact Ne.symm hq9.2.2.2.2.2.1 | exact Nat.ne_of_lt hq9.2.2.2.2.2.2.1 | exact Nat.ne_of_gt hq9.2.2.2.2.2.2.1 | exact hq9.2.2.2.2.2.2.1 | exact Ne.symm hq9.2.2.2.2.2.2.1 | exact Nat.ne_of_lt hq9.2.2.2.2.2.2.2.1 | exact Nat.ne_of_gt hq9.2.2.2.2.2.2.2.1 | exact hq9.2.2.2.2.2.2.2.1 | exact Ne.symm hq9.2.2.2.2.2.2.2.1 | exact Nat.ne_of_lt hq9.2.2.2.2.2.2.2.2.1 | exact Nat.ne_of_gt hq9.2.2.2.2.2.2.2.2.1 | exact hq9.2.2.2.2.2.2.2.2.1 | exact Ne.symm hq9.2.2.2.2.2.2.2.2.1 | exact Nat.ne_of_lt hq9.2 | exact Nat.ne_of_gt hq9.2 | exact hq9.2 | exact Ne.symm hq9.2 | exact Nat.ne_of_lt hq9.2.2 | exact Nat.ne_of_gt hq9.2.2 | exact hq9.2.2 | exact Ne.symm hq9.2.2 | exact Nat.ne_of_lt hq9.2.2.2 | exact Nat.ne_of_gt hq9.2.2.2 | exact hq9.2.2.2 | exact Ne.symm hq9.2.2.2 | exact Nat.ne_of_lt hq9.2.2.2.2 | exact Nat.ne_of_gt hq9.2.2.2.2 | exact hq9.2.2.2.2 | exact Ne.symm hq9.2.2.2.2 | exact Nat.ne_of_lt hq9.2.2.2.2.2 | exact Nat.ne_of_gt hq9.2.2.2.2.2 | exact hq9.2.2.2.2.2 | exact Ne.symm hq9.2.2.2.2.2 | exact Nat.ne_of_lt hq9.2.2.2.2.2.2 | exact Nat.ne_of_gt hq9.2.2.2.2.2.2 | exact hq9.2.2.2.2.2.2 | exact Ne.symm hq9.2.2.2.2.2.2 | exact Nat.ne_of_lt hq9.2.2.2.2.2.2.2 | exact Nat.ne_of_gt hq9.2.2.2.2.2.2.2 | exact hq9.2.2.2.2.2.2.2 | exact Ne.symm hq9.2.2.2.2.2.2.2 | exact Nat.ne_of_lt hq9.2.2.2.2.2.2.2.2 | exact Nat.ne_of_gt hq9.2.2.2.2.2.2.2.2 | exact hq9.2.2.2.2.2.2.2.2 | exact Ne.symm hq9.2.2.2.2.2.2.2.2 | (clear hq9; walk_at "and1")))
local macro_rules | `(tactic| k_ne) => `(tactic| (refine neN ?_; (try dsimp only); first | with_reducible assumption | (refine Ne.symm ?_; with_reducible assumption) | (refine Nat.ne_of_lt ?_; with_reducible assumption) | (refine Nat.ne_of_gt ?_; with_reducible assumption) | walk_at "and1" | omega))
local macro_rules | `(tactic| k_all) => `(tactic| first | exact List.forall_mem_nil _ | (refine' List.forall_mem_cons.mpr ⟨?a, ?b⟩; (case a => k_ne); (case b => k_all)))
theorem ne_words {prog : Program} {w : World} {A : Around} {E : Value → Shared → Prop} {s : Shared} {h₀ : Heap} {L : Addr} {news : List (Addr × Obj)} {Q : Value → Shared → Prop} {a b n1 n2 : Nat} {x1 x2 x3 x4 : PySem.Str} {t1 t2 t3 t4 u1 u2 u3 u4 : Tok} (N : News h₀ L s.heap news)
    (ha : (a, listOf #[.str x1 t1, .str x2 t2, .str x3 t3, .str x4 t4] n1) ∈ news) (hb : (b, listOf #[.str x1 u1, .str x2 u2, .str x3 u3, .str x4 u4] n2) ∈ news)
    (hl : PySem.SeqAt.shaped (.list [.str x1, .str x2, .str x3, .str x4]) = true) (hu : A.units + 64 < cLine) (h : Q (.bool false) s) : wpAny (model prog w) A (compareOp .NotEq (.ref a) (.ref b)) Q E s := by
  refine ne_dataH (reads_list_at (N.get ha) rfl rfl (ReadsAll.cons (Reads.str _ _) (ReadsAll.cons (Reads.str _ _) (ReadsAll.cons (Reads.str _ _) (ReadsAll.cons (Reads.str _ _) ReadsAll.nil)))))
    (reads_list_at (N.get hb) rfl rfl (ReadsAll.cons (Reads.str _ _) (ReadsAll.cons (Reads.str _ _) (ReadsAll.cons (Reads.str _ _) (ReadsAll.cons (Reads.str _ _) ReadsAll.nil))))) hl hl hu ?_
  simpa [PyData.eqv, PyData.eqvAll] using h
local macro_rules | `(tactic| walk_at "call type:enumerate") => `(tactic| (k_here; k_dflt (refine' enum_led ?F ?N ?m ?_; (case F => k_asm); (case N => k_asm); (case m => k_mem)); intro e' it' oi' h' hLi' F' N' le' li'; (try k_lt le'); (try k_lt li'); (try k_sweep)))
local macro_rules | `(tactic| walk_at "call builtin:sum") => `(tactic| (k_here; k_dflt (refine' sum_led ?a ?F ?N ?m ?i ?_; (case a => exact rfl); (case F => k_asm); (case N => k_asm); (case m => k_mem); (case i => with_reducible assumption)); intro h' tk' t' F' N'; (try k_sweep)))
local macro_rules | `(tactic| walk_at "subscriptTail Name Slice ref ref") => `(tactic| (k_here; (with_reducible show wpAny _ _ (subscriptTail _ (PySem.Expr.Slice (some _) none (some _) _) (Value.ref _) (Value.ref _)) _ _ _); k_dflt (refine' slice_step ?F ?N ?m ?i ?z ?_ ?s ?t; (case F => k_asm); (case N => k_asm); (case m => k_mem); (case i => assumption); (case z => omega); (case s => with_unfolding_all rfl); (case t => (intro _; with_unfolding_all rfl))); intro D' h' F' N' l1 hi'; (try k_lt l1); (try k_sweep)))
local macro_rules | `(tactic| walk_at "binaryOp Mod int int") => `(tactic| (k_here; k_dflt (refine' mod_nn ?b ?_; (case b => omega)); intro t' tk'))
local macro_rules | `(tactic| walk_at "binaryOp FloorDiv int int") => `(tactic| (k_here; k_dflt (refine' div_nn ?b ?z ?_; (case b => omega); (case z => omega)); intro t' tk'))
local macro_rules | `(tactic| walk_at "binaryOp Mult str int") => `(tactic| (k_here; k_dflt (refine' mul_twice ?zy ?zx ?zn ?_; (case zy => with_reducible assumption); (case zx => exact GoodW.len (by with_reducible assumption) _); (case zn => exact GoodW.ne (by with_reducible assumption) _)); intro t' tk'))
local macro_rules | `(tactic| walk_at "compareOp NotEq ref ref") => `(tactic| (k_here; k_dflt (refine' ne_intsK (led_list (by k_asm) (by k_dflt k_mem)) ?zi (led_list (vs := [_, _, _, _]) (by k_asm) (by k_dflt k_mem)) ?zj ?zu ?_; (case zi => with_reducible assumption); (case zj => exact .cons _ _ (.cons _ _ (.cons _ _ (.cons _ _ .nil)))); (case zu => units_room))))
local macro_rules | `(tactic| walk_at "pyIter ref") => `(tactic| (k_here; (k_dflt (refine' enum_iter ?N ?m ?_; (case N => k_asm); (case m => k_mem)))))
local macro_rules | `(tactic| walk_at "st len") => `(tactic| first | assumption | exact GoodW.len (by with_reducible assumption) _ | exact (show _ ≤ 1 from by decide +kernel) | exact app_len (by walk_at "st len") (by walk_at "st len"))
local macro_rules | `(tactic| walk_at "subscriptTail Name BinOp ref int") => `(tactic| (k_here; k_dflt (refine' ints_at ?zN ?zm ?zi ?z0 ?z1 ?zz ?_; (case zN => k_asm); (case zm => k_mem); (case zi => with_reducible assumption); (case z0 => omega); (case z1 => omega); (case zz => omega)); intro t'))
local macro_rules | `(tactic| walk_at "subscriptTail Name Name ref int") => `(tactic| (k_here; first | (k_dflt (refine' words_at ?zN ?zm ?zi ?_; (case zN => k_asm); (case zm => k_mem); (case zi => with_reducible assumption)); intro t') | (k_dflt (refine' kinds_at ?zN ?zm ?zi ?_; (case zN => k_asm); (case zm => k_mem); (case zi => with_reducible assumption)); intro t')))
local macro_rules | `(tactic| walk_at "truthy int") => `(tactic| (k_here; k_dflt (refine' truthy_is ?zb ?_; (case zb => with_reducible assumption))))
local macro_rules | `(tactic| walk_at "binaryOp Add str str") => `(tactic| (k_here; k_dflt (refine' add_len ?zx ?zy ?zz ?_; (case zx => walk_at "st len"); (case zy => walk_at "st len"); (case zz => decide)); intro t' tk'))
local macro_rules | `(tactic| walk_at "inplaceOp Add str str") => `(tactic| (k_here; k_dflt (refine' iadd_len ?zx ?zy ?zz ?_; (case zx => walk_at "st len"); (case zy => walk_at "st len"); (case zz => decide)); intro t' tk'))
local macro_rules | `(tactic| walk_at "compareOp NotEq ref ref") => `(tactic| (k_here; k_dflt (refine' ne_words ?zN ?za ?zb ?zl ?zu ?_; (case zN => k_asm); (case za => k_mem); (case zb => k_mem); (case zl => with_reducible assumption); (case zu => units_room))))
theorem rest_nil {l : List (Addr × Obj)} : Rest [] l l := Rest.own fun _ _ _ h => nomatch h
local macro_rules | `(tactic| k_ownIn) => `(tactic| first | exact rest_nil | fail)
local macro_rules | `(tactic| walk_at "callWith ref nil nil") => `(tactic| (k_here; k_dflt (refine' callWith_K ?k1 ?k2 ?_; (case k1 => k_asm); (case k2 => with_reducible assumption); k_whole)))
theorem use_hold {w : World} {D : Nat} {f : Addr} {args : List Value} {adr : List Nat} {pre news rest : List (Addr × Obj)} {post : Value → List (Addr × Obj) → Prop} (C : Con w D f args pre post)
    {p : Program} {loose : List Str} {mean : ExcName → Option Value} {mg mb : Str → Option Value} {dp un : Nat} {gd : Option (List Code)} {cn : Str} {cs : Scope} {a : Addr} {ccd : Value} {cl : List (Str × Addr)} {outer : List Env} {A₀ : Around} {base h₀ : Heap} {L : Addr} {m : Str → Option Value} {s : Shared} {Q E : Value → Shared → Prop}
    (B : Below A₀ base outer h₀) (F : Fr h₀ L s.heap m) (X : (KF w).In h₀) (N : News h₀ L s.heap news) (hin : ∀ q ∈ pre, q ∈ news) (he : pre.map (·.1) = adr) (R : Rest adr news rest) (T : Top p loose mean mg mb h₀) (H : CodeHd base 107 103) (hk : cs.kind = .function) (hd : dp ≤ D) (hu : un ≤ D)
    (ret : Hold (∀ r h' tk' nx, Fr h₀ L h' m → News h₀ L h' (nx ++ rest) → post r nx → Q r { s with heap := h', toks := tk' })) :
    wpAny (model PG w) (ktrTop dp un gd cn cs L a ccd cl outer) (call (.ref f) args) Q E s :=
  use_con C B F X N hin he R T H hk hd hu ret
local macro_rules | `(tactic| walk_at "law call") => `(tactic| (k_dflt (refine' use_hold (outer := []) (A₀ := callerA) (dp := 302) (un := 7) ?zC ?zB ?zF ?zX ?zN ?zI ?ze ?zR ?zT ?zH ?zk ?zd ?zu ?_); (case zC => first | with_reducible assumption | ((with_reducible rename ConI _ _ _ _ _ _ => hq9); exact hq9 _)); (case zB => with_reducible assumption); (case zF => k_asm); (case zX => with_reducible assumption); (case zN => k_asm); (case zT => with_reducible assumption); (case zH => with_reducible assumption); (case zI => k_dflt k_allIn); (case ze => ((simp only [List.map_cons, List.map_nil]); exact rfl)); (case zR => k_dflt k_ownIn); (case zk => exact rfl); (case zd => decide); (case zu => decide)))
local macro_rules | `(tactic| walk_at "call ref nil") => `(tactic| (k_here; walk_at "law call"))
local macro_rules | `(tactic| walk_at "call ref cons nil") => `(tactic| (k_here; walk_at "law call"))
theorem esc_call {w : World} {f : Addr} {x y : PySem.Str} {t : Tok} {news : List (Addr × Obj)} (C : EscAt w f x y)
    {p : Program} {loose : List Str} {mean : ExcName → Option Value} {mg mb : Str → Option Value} {dp un : Nat} {gd : Option (List Code)} {cn : Str} {cs : Scope} {a : Addr} {ccd : Value} {cl : List (Str × Addr)} {outer : List Env} {A₀ : Around} {base h₀ : Heap} {L : Addr} {m : Str → Option Value} {s : Shared} {Q E : Value → Shared → Prop}
    (B : Below A₀ base outer h₀) (F : Fr h₀ L s.heap m) (X : (KF w).In h₀) (N : News h₀ L s.heap news) (T : Top p loose mean mg mb h₀) (H : CodeHd base 107 103) (hk : cs.kind = .function) (hd : dp ≤ 370) (hu : un ≤ 370)
    (ret : ∀ h' tk' t', Fr h₀ L h' m → News h₀ L h' news → Q (.str y t') { s with heap := h', toks := tk' }) :
    wpAny (model PG w) (ktrTop dp un gd cn cs L a ccd cl outer) (call (.ref f) [.str x t]) Q E s :=
  use_con (C t) B F X N (fun _ h => nomatch h) rfl (Rest.own fun _ _ _ h => nomatch h) T H hk hd hu (fun r h' tk' nx F' N' hp => by
    obtain ⟨⟨t', rfl⟩, rfl⟩ := hp
    exact ret h' tk' t' F' N')
local macro_rules | `(tactic| walk_at "call ref cons nil") => `(tactic| (k_here; k_dflt (refine' esc_call (outer := []) (A₀ := callerA) (dp := 302) (un := 7) ?zC ?zB ?zF ?zX ?zN ?zT ?zH ?zk ?zd ?zu ?_; (case zC => with_reducible assumption); (case zB => with_reducible assumption); (case zF => k_asm); (case zX => with_reducible assumption); (case zN => k_asm); (case zT => with_reducible assumption); (case zH => with_reducible assumption); (case zk => exact rfl); (case zd => decide); (case zu => decide)); intro h' tk' t' F' N'; (try k_sweep)))
local macro_rules | `(tactic| walk_at "call ref nil") => `(tactic| (k_here; walk_at "call ref cons nil"))
theorem comp_end {h₀ : Heap} {L I C D : Addr} {m : Str → Option Value} {s₁ : Shared} {oI oC oD : Obj} {S : List (Addr × Obj) → Prop} {rest : Value → List (Addr × Obj) → Prop} {y : Value} {h' : Heap} {tk : Nat} {news' : List (Addr × Obj)}
    (F : Fr h₀ L h' m) (N : News h₀ L h' ((I, oI) :: (C, oC) :: (D, oD) :: news')) (off : LCg.Off3 I C D news') (hS : S news') (r : rest y news') :
    LCg.CompEnd h₀ L m s₁ I oI C oC D oD S rest y { s₁ with heap := h', toks := tk } := LCg.CompEnd.intro F N news' (fun _ hp => hp) off hS r
local macro_rules | `(tactic| walk_at "CompEnd") => `(tactic| (k_here; refine' comp_end ?zF ?zN ?zoff ?zS ?_; (case zF => k_asm); (case zN => k_asm); (case zoff => ((simp only [LCg.Off3, and_true]); assumption)); (case zS => first | exact Or.inr ⟨_, by k_dflt k_mem, rfl, _, rfl⟩ | exact True.intro)))
theorem use_holdF {w : World} {D : Nat} {f : Addr} {args : List Value} {adr : List Nat} {pre news rest : List (Addr × Obj)} {post : Value → List (Addr × Obj) → Nat → Prop} (C : ConF w D f args pre post)
    {p : Program} {loose : List Str} {mean : ExcName → Option Value} {mg mb : Str → Option Value} {dp un : Nat} {gd : Option (List Code)} {cn : Str} {cs : Scope} {a : Addr} {ccd : Value} {cl : List (Str × Addr)} {outer : List Env} {A₀ : Around} {base h₀ : Heap} {L : Addr} {m : Str → Option Value} {s : Shared} {Q E : Value → Shared → Prop}
    (B : Below A₀ base outer h₀) (F : Fr h₀ L s.heap m) (X : (KF w).In h₀) (N : News h₀ L s.heap news) (hin : ∀ q ∈ pre, q ∈ news) (he : pre.map (·.1) = adr) (R : Rest adr news rest) (T : Top p loose mean mg mb h₀) (H : CodeHd base 107 103) (hk : cs.kind = .function) (hd : dp ≤ D) (hu : un ≤ D)
    (ret : Hold (∀ r h' tk' nx b, Fr h₀ L h' m → News h₀ L h' (nx ++ rest) → OffBase b rest → post r nx b → Q r { s with heap := h', toks := tk' })) :
    wpAny (model PG w) (ktrTop dp un gd cn cs L a ccd cl outer) (call (.ref f) args) Q E s :=
  use_conF C B F X N hin he R T H hk hd hu ret
local macro_rules | `(tactic| walk_at "law callF") => `(tactic| (k_dflt (refine' use_holdF (outer := []) (A₀ := callerA) (dp := 302) (un := 7) ?zC ?zB ?zF ?zX ?zN ?zI ?ze ?zR ?zT ?zH ?zk ?zd ?zu ?_); (case zC => with_reducible assumption); (case zB => with_reducible assumption); (case zF => k_asm); (case zX => with_reducible assumption); (case zN => k_asm); (case zT => with_reducible assumption); (case zH => with_reducible assumption); (case zI => k_dflt k_allIn); (case ze => ((simp only [List.map_cons, List.map_nil]); exact rfl)); (case zR => k_dflt k_ownIn); (case zk => exact rfl); (case zd => decide); (case zu => decide)))
local macro_rules | `(tactic| walk_at "call ref cons nil") => `(tactic| (k_here; walk_at "law callF"))
local macro_rules | `(tactic| walk_at "call ref cons cons") => `(tactic| (k_here; walk_at "law callF"))
local macro_rules | `(tactic| walk_at "compareOp NotEq str str") => `(tactic| (k_here; k_dflt (refine ne_empty ?_)))
local macro_rules | `(tactic| walk_at "call builtin:str.count") => `(tactic| (k_here; k_dflt (refine' count_nl ?zg ?zz ?_; (case zg => with_reducible assumption); (case zz => with_reducible assumption)); intro t' tk'))
local macro_rules | `(tactic| walk_at "compareOp NotEq int int") => `(tactic| (k_here; k_dflt (refine' ne_same ?zb ?_; (case zb => first | rfl | omega))))
local macro_rules | `(tactic| walk_at "eval ListComp") => `(tactic| (k_here; (with_reducible show wpAny _ _ (eval (PySem.Expr.ListComp (PySem.Expr.Subscript (PySem.Expr.Name (PySem.Str.ofString "kinds") _) _ _) _ _ _) _) _ _ _); refine hold_any ?_))
local macro_rules | `(tactic| walk_at "compareOp NotEq ref ref") => `(tactic| (k_here; k_dflt (refine' ne_tups ?zN ?za ?zb ?zu ?_; (case zN => k_asm); (case za => k_mem); (case zb => k_mem); (case zu => units_room))))
local macro_rules | `(tactic| walk_at "compareOp Eq int int") => `(tactic| (k_here; k_dflt (refine' eq_is ?zb ?_; (case zb => with_reducible assumption))))
local macro_rules | `(tactic| walk_at "compareOp Eq ref ref") => `(tactic| (k_here; k_dflt (refine' row_empty ?zN ?za ?zb ?zi ?zu ?_; (case zN => k_asm); (case za => k_mem); (case zb => k_mem); (case zi => with_reducible assumption); (case zu => units_room))))
local macro_rules | `(tactic| walk_at "eval ListComp") => `(tactic| (k_here; (with_reducible show wpAny _ _ (eval (PySem.Expr.ListComp (PySem.Expr.Name (PySem.Str.ofString "crossing") _) _ _ _) _) _ _ _); refine hold_any ?_))
local macro_rules | `(tactic| walk_at "compareOp NotIn int ref") => `(tactic| (k_here; k_dflt (refine' not_in ?zN ?zm ?zi ?zk ?_; (case zN => k_asm); (case zm => k_mem); (case zi => with_reducible assumption); (case zk => with_reducible assumption))))
local macro_rules | `(tactic| walk_at "compareOp Lt int int") => `(tactic| (k_here; k_dflt (refine lt30' ?_)))
local macro_rules | `(tactic| walk_at "truthy ref") => `(tactic| (k_here; k_dflt (refine' truthy_list ?zN ?zm ?zz ?zb ?_; (case zN => k_asm); (case zm => k_mem); (case zz => with_reducible assumption); (case zb => with_reducible assumption)); intro tk'))
theorem low11 {w : World} {S : Lex} (ok : S.Ok w) {a x y : Nat} (h : a < S.C) (hx : @Ne Nat a x) (hy : @Ne Nat a y) : ∀ b : Nat, b ∈ [S.pb, S.ln, S.ld, S.f, S.cc, S.st, S.sd, S.sg, S.C, x, y] → @Ne Nat a b := by
  intro b hb
  have e : b ∈ [S.pb, S.ln, S.ld, S.f, S.cc, S.st, S.sd, S.sg, S.C] ∨ b = x ∨ b = y := by
    simp only [List.mem_cons, List.not_mem_nil, or_false] at hb ⊢
    simpa only [or_assoc] using hb
  rcases e with e | rfl | rfl
  · exact ok.low h b e
  · exact hx
  · exact hy
local macro_rules | `(tactic| k_ownIn) => `(tactic| first | ((with_reducible show Rest [_, _, _, _, _, _, _, _, _, _, _] (_ :: _) _); first | (refine' Rest.drop ?q1 ?q2; (case q1 => k_memK); (case q2 => k_ownIn)) | (refine' Rest.keep (low11 ?q0 ?q1 ?qx ?qy) ?q2; (case q0 => with_reducible assumption); (case q1 => assumption); (case qx => k_ne); (case qy => k_ne); (case q2 => k_ownIn)) | fail) | fail)
theorem topItem_tok {w : World} {A : Around} {E : Value → Shared → Prop} {s : Shared} {h₀ : Heap} {L : Addr} {m : PySem.Str → Option Value} {value : PySem.Expr} {nx : PySem.Str} {ps : Pos} {x : PySem.Str} {t : Tok} {v : Value} {Q : Value → Shared → Prop} (F : Fr h₀ L s.heap m) (X₀ : (hp w.params).In h₀) (e : nsIn (hp w.params) 57 x = some (some v))
    (h : Q v { s with toks := s.toks + 1 }) : wpAny (model PG w) A (subscriptTail value (PySem.Expr.Name nx ps) (.ref 57) (.str x t)) Q E s := by
  revert X₀ e
  unfold PG
  k_fill
  intro X₀ e
  k_dflt (refine' topItem_K ?F ?X ?l ?k ?e ?_; (case F => exact F); (case X => exact X₀); (case l => k_is); (case k => k_keys); (case e => exact e))
  exact h
local macro_rules | `(tactic| walk_at "subscriptTail Name Name ref str") => `(tactic| (k_here; k_dflt (refine' topItem_tok ?F ?X ?e ?_; (case F => k_asm); (case X => k_asm); (case e => k_is))))
set_option maxHeartbeats 8000000 in
theorem law_A : TT := by
  unfold TT hk
  (conv in parOf _ => whnf)
  (conv in bodOf _ => whnf)
  (conv in scoOf _ => whnf)
  (conv in posOf _ => whnf)
  k_go0
  all_goals (try k_fold)
  rename World => w
  rename Fr _ _ _ _ => F0
  rename News _ _ _ _ => N0
  rename Below _ _ _ _ => B0
  rename Frag.In _ _ => X0
  rename CodeHd _ _ _ => CH0
  rename Top _ _ _ _ _ _ => T0
  rename Heap.IsList _ _ _ => hl0
  rename IntsAre _ _ => hi0
  rename ¬ _ < _ => hlen0
  rename 103 < _ => hL0
  revert F0 N0 B0 X0 CH0 T0 hl0 hL0
  generalize ghostOf _ _ = base
  generalize Array.size _ = L
  intro X0 T0 B0 F0 hl0 CH0 N0 hL0
  replace CH0 : CodeHd base 107 103 := CH0
  obtain ⟨o3, o2, o1, N0, hc3, hc2, hc1⟩ : ∃ a b c, News base L _ [(L + 1 + 1 + 1, a), (L + 1 + 1, b), (L + 1, c), (103, tabObj #[])] ∧ a.data = .cell none ∧ b.data = .cell none ∧ c.data = .cell none := ⟨_, _, _, N0, by assumption, by assumption, by assumption⟩
  obtain ⟨u0, F1⟩ : ∃ u, Fr base L _ (kstB u [(nm "script", .ref _)]) := ⟨_, fr_ps F0 (by k_dflt (repeat (first | exact List.forall_mem_nil _ | refine all_p rfl ?_)))⟩
  clear F0
  replace F0 := F1
  clear F1
  dsimp only
  refine execs_cut (I1 base L o2 o3) ?st1 ?_
  case st1 =>
    k_steps
    unfold Hold
    rename Fr _ _ _ _ => F5
    rename News _ _ _ _ => N5
    rename Obj.data _ = _ => d5
    rename IntsAre _ (List.map _ _) => i5
    exact ⟨rfl, _, _, _, _, _, ⟨_, _, _, rfl, fr_ps F5 (by simp), cb_drop N5 (by k_dflt k_allIn)⟩, d5, i5, by (rw [List.length_map, List.length_take]; exact Nat.min_le_left _ _), cells_ok, by k_ne, by k_ne, by k_ne, by k_ne⟩
  clear F0 N0 hc1
  rintro s1 ⟨D1, cv, cn, c1, cs, ⟨u1, h1, tk1, rfl, F1, N1⟩, d1, hcv, hcl, hcb, na1, na2, na3, na4⟩
  refine execs_cut (I2 base L o2 o3) ?st2 ?_
  case st2 =>
    k_dflt (refine Assign_ListComp_E (by k_asm) (by rfl) (by with_unfolding_all rfl) (by with_unfolding_all rfl) (by decide) (by rfl) (by decide) (by rfl) (by rfl) (by decide) (by rfl) (by rfl) ?_)
    k_steps
    rename Fr _ _ _ _ => F5
    rename News _ _ _ _ => N5
    rename IsLi _ _ _ => hLi5
    refine ⟨_, _, _, _, [_, _, _, _, _], _, _, numG cv, rfl, rfl, F5, N5, hLi5, List.mem_cons_self .., by omega, ?off5, (show 5 ≤ sizeLine by decide), ?turn5, ?fin5⟩
    case off5 =>
      simp only [List.forall_mem_cons]
      refine ⟨?_, ?_, ?_, ?_, ?_, ?_, fun _ h => nomatch h⟩ <;> (constructor <;> k_ne)
    case turn5 =>
      intro i v hv t6 C6 oC6 D6 ys6 oi6 m6 h6 tk6 E6 hC6 hx6 hy6 F6 N6
      obtain ⟨x6, t7, rfl, hx7⟩ := IntsAre.at (.cons 27 _ (.cons 9 _ (.cons 22 _ (.cons 40 _ (.cons 13 _ .nil))))) i v hv
      have he6 : x6 = firsts.getD i 0 := by
        have h7 : firsts[i]? = some x6 := hx7
        rw [List.getD_eq_getElem?_getD, h7]
        rfl
      subst he6
      clear F5 N5 hLi5 hv hx7
      k_steps
      rename Fr _ _ _ _ => F7
      rename News _ _ _ _ => N7
      unfold Hold
      exact ⟨_, _, _, rfl, rfl, F7, cb_drop N7 (all_cons (by k_dflt k_mem) (all_cons (by k_dflt k_mem) (fun q hq => by (repeat (first | exact hq | apply List.mem_cons_of_mem)))))⟩
    case fin5 =>
      intro ys6 hys6
      unfold LCg.FinA
      intro D6 h6 tk6 F6 N6 off6
      simp only [LCg.Off1, and_true] at off6
      k_steps
      unfold Hold
      rename Fr _ _ _ _ => F7
      rename News _ _ _ _ => N7
      exact ⟨rfl, _, _, _, _, ⟨_, _, _, rfl, fr_ps F7 (by k_dflt (repeat (first | exact List.forall_mem_nil _ | refine all_p rfl ?_))), cb_drop N7 (by k_dflt k_allIn)⟩, hys6, by simp, numG_ok hcv hcl hcb, by k_ne, by k_ne, by k_ne⟩
  clear F1 N1 d1 hcv hcl hcb na1 na2 na3 na4
  rintro s2 ⟨M2, nv, nn, ns, ⟨u2, h2, tk2, rfl, F2, N2⟩, hnv, hnl, hnb, na1, na2, na3⟩
  refine execs_cut (I3 base L o2 o3) ?st3 ?_
  case st3 =>
    have hC := strands_con w M2 nv nn ns hnv (by omega) (fun x hx => by have := hnb x hx; omega)
    k_steps
    refine hold_in ?_
    rintro _ h3 tk3 _ F3 N3 ⟨T3, D3, bv, bn, br, k, t3, rfl, rfl, hbv, hins, hbl⟩
    dsimp only [List.cons_append, List.nil_append] at N3
    clear hC
    k_steps
    unfold Hold
    rename Fr _ _ _ _ => F7
    rename News _ _ _ _ => N7
    have e1 : D3 ≠ L + 1 + 1 + 1 := ne_of_obj (o := listOf bv.toArray bn) (o' := o3) N7 (by k_dflt k_mem) (by k_dflt k_mem) (Ne.symm (ne_cell hc3))
    have e2 : D3 ≠ L + 1 + 1 := ne_of_obj (o := listOf bv.toArray bn) (o' := o2) N7 (by k_dflt k_mem) (by k_dflt k_mem) (Ne.symm (ne_cell hc2))
    have e3 : D3 ≠ 103 := ne_of_obj (o := listOf bv.toArray bn) (o' := tabObj #[]) N7 (by k_dflt k_mem) (by k_dflt k_mem) (Ne.symm ne_tab)
    exact ⟨by first | rfl | trivial, M2, D3, nv, nn, ns, bv, bn, br, k, _, ⟨_, _, _, rfl, fr_ps F7 (by k_dflt (repeat (first | exact List.forall_mem_nil _ | refine all_p rfl ?_))), cb_drop N7 (by k_dflt k_allIn)⟩, hnv, hnl, hnb, hbv, hins, hbl, na1, na2, na3, Ne.symm e1, Ne.symm e2, Ne.symm e3⟩
  clear F2 N2 hnv hnl hnb na1 na2 na3
  rintro s3 ⟨M3, D3, nv3, nn3, ns3, bv, bn, br, k, t3, ⟨u3, h3, tk3, rfl, F3, N3⟩, hnv, hnl, hnb, hbv, hins, hbl, na1, na2, na3, nb1, nb2, nb3⟩
  refine execs_cut (I4 w base L o3) ?st4 ?_
  case st4 =>
    have hC : ConI w 360 115 (ns3.sum % 5) [] (HandPost w) := fun t => hand_con w (ns3.sum % 5) t (Int.emod_nonneg _ (by decide)) (Int.emod_lt_of_pos _ (by decide))
    k_steps
    refine hold_in ?_
    rintro _ h4 tk4 _ F4 N4 ⟨T4, f4, W, ta, tb, hH, rfl, rfl⟩
    dsimp only [List.cons_append, List.nil_append] at N4
    clear hC
    have e4 : T4 ≠ L + 1 + 1 := ne_of_obj (o := tupObj #[.ref f4, .str (W .a) ta, .str (W .A) tb]) (o' := o2) N4 (by k_dflt k_mem) (by k_dflt k_mem) (Ne.symm (ne_tup_cell hc2))
    k_steps
    unfold Hold
    rename Fr _ _ _ _ => F7
    rename News _ _ _ _ => N7
    rename Obj.data _ = Data.cell (some (Value.ref f4)) => d7
    exact ⟨by first | rfl | trivial, M3, D3, f4, nv3, nn3, ns3, bv, bn, br, k, _, _, _, _, W, ⟨_, _, _, rfl, fr_ps F7 (by k_dflt (repeat (first | exact List.forall_mem_nil _ | refine all_p rfl ?_))), cb_drop N7 (by k_dflt k_allIn)⟩, hnv, hnl, hnb, hbv, hins, hbl, na1, na2, na3, nb1, nb2, nb3, d7, hH⟩
  clear F3 N3 hnv hnl hnb hbv hins hbl na1 na2 na3 nb1 nb2 nb3 hc2
  rintro s4 ⟨M, D, f, nv4, nn4, ns4, bv4, bn4, br4, k4, t4, ta, tb, c2, W, ⟨u4, h4, tk4, rfl, F4, N4⟩, hnv, hnl, hnb, hbv, hins, hbl, na1, na2, na3, nb1, nb2, nb3, hf, hH⟩
  refine execs_cut (I5 w base L o3) ?st5 ?_
  case st5 =>
    k_steps
    unfold Hold
    rename Fr _ _ _ _ => F7
    rename News _ _ _ _ => N7
    exact ⟨by first | rfl | trivial, M, D, f, _, nv4, nn4, ns4, bv4, bn4, br4, k4, _, _, _, _, _, _, _, c2, W, ⟨_, _, _, rfl, fr_ps F7 (by k_dflt (repeat (first | exact List.forall_mem_nil _ | refine all_p rfl ?_))), cb_drop N7 (by k_dflt k_allIn)⟩, hnv, hnl, hnb, hbv, hins, hbl, na1, na2, na3, nb1, nb2, nb3, hf, hH, by omega, by omega, by omega, by omega⟩
  clear F4 N4 hnv hnl hnb hbv hins hbl na1 na2 na3 nb1 nb2 nb3 hf hH
  rintro s5 ⟨M, D, f, Sg, nv, nn, ns, bv, bn, br, k, t5, ta, tb, q1, q2, q3, q4, c2, W, ⟨u5, h5, tk5, rfl, F5, N5⟩, hnv, hnl, hnb, hbv, hins, hbl, na1, na2, na3, nb1, nb2, nb3, hf, hH, nc1, nc2, nc3, nc4⟩
  refine execs_cut (I6 w base L) ?st6 ?_
  case st6 =>
    have E1 : EscAt w f (nm "<") (W .a) := fun t => hH.esc .a t
    have E2 : EscAt w f (nm ">") (W .A) := fun t => hH.esc .A t
    have E3 : EscAt w f (nm "<<") (W .b) := fun t => hH.esc .b t
    have E4 : EscAt w f (nm ">>") (W .B) := fun t => hH.esc .B t
    have hkeep := hH.keep
    k_steps
    unfold Hold
    rename Fr _ _ _ _ => F7
    rename News _ _ _ _ => N7
    rename Obj.data _ = Data.cell (some (Value.ref _)) => d7
    refine ⟨by first | rfl | trivial, M, D, _, _, nv, nn, ns, bv, bn, br, k, _, _, _, _, W, [_, _, _, _], [_, _, _, _], 4, 4, ⟨_, _, _, rfl, fr_ps F7 (by k_dflt (repeat (first | exact List.forall_mem_nil _ | refine all_p rfl ?_))), cb_drop N7 (by k_dflt k_allIn)⟩, hnv, hnl, hnb, hbv, hins, hbl, d7, hH.good, hH.twice, .cons _ _ (.cons _ _ (.cons _ _ (.cons _ _ .nil))), .cons _ _ (.cons _ _ (.cons _ _ (.cons _ _ .nil))), hH.lay, by k_ne, by k_ne, by k_ne, by k_ne, by k_ne, by k_ne, by k_ne, by k_ne, by k_ne, by k_ne, by k_ne, by k_ne, by k_ne⟩
  clear F5 N5 hnv hnl hnb hbv hins hbl na1 na2 na3 nb1 nb2 nb3 hf hH nc1 nc2 nc3 nc4
  rintro s6 ⟨M, D, Wd, Kd, nv, nn, ns, bv, bn, br, k, t6, ta, tb, c3, W, wv, kv, n1, n2, ⟨u6, h6, tk6, rfl, F6, N6⟩, hnv, hnl, hnb, hbv, hins, hbl, hcd, gw, htw, hwi, hki, hlay, na1, na2, na3, na4, na5, na6, na7, na8, na9, na10, na11, na12, na13⟩
  refine execs_cut (I7 base L M D Wd Kd nv bv wv kv nn bn n1 n2 c3 k t6) ?st7 ?_
  case st7 =>
    obtain ⟨x1, v1, rfl, hw1⟩ := strs_cons hwi
    obtain ⟨x2, v2, rfl, hw2⟩ := strs_cons hw1
    obtain ⟨x3, v3, rfl, hw3⟩ := strs_cons hw2
    obtain ⟨x4, v4, rfl, hw4⟩ := strs_cons hw3
    obtain rfl := strs_nil hw4
    have m1 : (W .b).cps = (W .a).cps ++ (W .a).cps := htw true
    have m2 : (W .B).cps = (W .A).cps ++ (W .A).cps := htw false
    refine wpAny_If ?_
    k_steps
    unfold Hold
    rename Fr _ _ _ _ => F7
    rename News _ _ _ _ => N7
    exact ⟨by first | rfl | trivial, _, _, _, rfl, fr_ps F7 (by k_dflt (repeat (first | exact List.forall_mem_nil _ | refine all_p rfl ?_))), cb_drop N7 (by k_dflt k_allIn)⟩
  clear F6 N6
  rintro s7 ⟨u7, h7, tk7, rfl, F7, N7⟩
  refine execs_cut (I7' base L M D Wd Kd nv bv wv kv nn bn n1 n2 c3 k t6) ?st7b ?_
  case st7b =>
    k_steps
    unfold Hold
    rename Fr _ _ _ _ => F8
    rename News _ _ _ _ => N8
    exact ⟨by first | rfl | trivial, _, _, _, _, rfl, fr_ps F8 (by k_dflt (repeat (first | exact List.forall_mem_nil _ | refine all_p rfl ?_))), N8⟩
  clear F7 N7
  rintro s8 ⟨tz8, u8, h8, tk8, rfl, F8, N8⟩
  refine execs_cut (I8 W base L M D Wd Kd nv bv wv kv nn bn n1 n2 c3 br k t6) ?st8 ?_
  case st8 =>
    k_dflt (refine for_startT ?_)
    refine hold_in ?_
    k_steps
    refine hold_in ?_
    rename Fr _ _ _ _ => F9
    rename News _ _ _ _ => N9
    rename IsLi _ _ _ => hLi9
    refine for_indT (r := fun a b : List Lt => a.length < b.length) (TInv W base L M D Wd Kd _ _ nv bv wv kv nn bn n1 n2 c3 br k t6 _) br ((measure fun c : List Lt => c.length).wf.apply _)
      ⟨[], nm "", tz8, .none, _, ⟨_, _, _, rfl, fr_ps F9 (by k_dflt (repeat (first | exact List.forall_mem_nil _ | refine all_p rfl ?_))), N9⟩, hLi9, rfl, (show (nm "").cps.toList = [] by decide +kernel)⟩ (by passes_own) ?turn8
    case turn8 =>
      clear F9 N9 hLi9
      rintro c s9 IH ⟨tx, z, tz, old, oi, ⟨u9, h9, tk9, rfl, F10, N10⟩, hLi, hbr, hz⟩
      have htl : tx.length + c.length ≤ 30 := by (have e9 := congrArg List.length hbr; simp only [List.length_append, List.length_map] at e9; omega)
      have hzl : z.cps.toList.length ≤ 400 := by (rw [hz]; have := encs_len gw tx; omega)
      have hmD : (D, listOf bv.toArray bn) ∈ [(L + 1 + 1 + 1, c3), (M, listOf nv.toArray nn), (D, listOf bv.toArray bn), (Wd, listOf wv.toArray n1), (Kd, listOf kv.toArray n2), (103, tabObj #[])] := by k_dflt k_mem
      cases c with
      | nil =>
        refine enum_end rfl F10 N10 hLi hmD (by (rw [hbv.length, hbr]; simp)) (by (simp only [List.forall_mem_cons]; refine ⟨?_, ?_, ?_, ?_, ?_, ?_, fun _ h => nomatch h⟩ <;> (constructor <;> k_ne))) fun h11 F11 N11 => ?_
        dsimp only [ForTurnT]
        unfold Hold
        exact ⟨by first | rfl | trivial, tx, z, tz, ⟨_, _, _, rfl, fr_ps F11 (by k_dflt (repeat (first | exact List.forall_mem_nil _ | refine all_p rfl ?_))), cb_drop N11 (by k_dflt k_allIn)⟩, by simpa using hbr, hz⟩
      | cons y c =>
        obtain ⟨t11, hx11⟩ := hbv.get tx.length y.idx (by rw [hbr]; simp)
        refine wpAny_mono (enum_next F10 N10 hLi hmD hx11 (by omega) (by (simp only [List.forall_mem_cons]; refine ⟨?_, ?_, ?_, ?_, ?_, ?_, fun _ h => nomatch h⟩ <;> (constructor <;> k_ne))) ?next9) (fun r s' h => enum_turn h fun _ _ h => h) fun _ _ h => h
        case next9 =>
          intro T11 h11 tk11 t12 oi11 hLi11 F11 N11 lt1 lt2 lt3
          clear F10 N10 hLi
          rcases Bool.eq_false_or_eq_true (((ns.getD ((tx.length : Int) % 5).toNat 0) / 2 % 2) != 0) with hpar | hpar
          · k_steps
            rename Fr _ _ _ _ => F12
            rename News _ _ _ _ => N12
            dsimp only [ForFlowT]
            have e12 : ((tx.length + 1 : Nat) : Int) = (((tx ++ [(y, true)]).length : Nat) : Int) := by simp
            rw [e12] at N12
            exact IH c _ (by simp) ⟨tx ++ [(y, true)], _, _, _, oi11, ⟨_, _, _, rfl, fr_ps F12 (by k_dflt (repeat (first | exact List.forall_mem_nil _ | refine all_p rfl ?_))), cb_drop N12 (by k_dflt k_allIn)⟩, by (rw [List.length_append]; exact hLi11), by (rw [hbr]; simp), by (rw [encs_snoc, ← hz]; exact enc_q _ _ _)⟩
          · k_steps
            rename Fr _ _ _ _ => F12
            rename News _ _ _ _ => N12
            dsimp only [ForFlowT]
            have e12 : ((tx.length + 1 : Nat) : Int) = (((tx ++ [(y, false)]).length : Nat) : Int) := by simp
            rw [e12] at N12
            exact IH c _ (by simp) ⟨tx ++ [(y, false)], _, _, _, oi11, ⟨_, _, _, rfl, fr_ps F12 (by k_dflt (repeat (first | exact List.forall_mem_nil _ | refine all_p rfl ?_))), cb_drop N12 (by k_dflt k_allIn)⟩, by (rw [List.length_append]; exact hLi11), by (rw [hbr]; simp), by (rw [encs_snoc, ← hz]; exact enc_b _ _ _)⟩
  clear F8 N8
  rintro s9 ⟨tx, z, tz, ⟨u9, h9, tk9, rfl, F9, N9⟩, hbr, hz⟩
  have htl : tx.length ≤ 30 := by (have e9 := congrArg List.length hbr; rw [List.length_map] at e9; omega)
  have hzl : z.length ≤ 4096 := by (have e9 := encs_len gw tx; rw [← hz] at e9; simp [Str.length] at e9 ⊢; omega)
  refine execs_cut (I9 w W base L D Wd Kd bv wv kv bn n1 n2 c3 k t6 z tz tx) ?st9 ?_
  case st9 =>
    have hCF := lexer_con w z tz hzl
    k_steps
    refine hold_in ?_
    rintro _ h10 tk10 _ b10 F10 N10 hOB ⟨S, ob, rfl, rfl, ok, hlno, hpb, hsg, rfl, h103⟩
    clear hCF
    obtain ⟨nd1, nd2, nd3, nd4, nd5, nd6, nd7, nd8⟩ := ok.nd
    dsimp only [Lex.led, List.cons_append, List.nil_append] at N10
    k_steps
    unfold Hold
    rename Fr _ _ _ _ => F11
    rename News _ _ _ _ => N11
    refine ⟨by first | rfl | trivial, S, ob, ⟨_, _, _, rfl, fr_ps F11 (by k_dflt (repeat (first | exact List.forall_mem_nil _ | refine all_p rfl ?_))), cb_drop N11 (List.forall_mem_append.mpr ⟨by k_dflt k_allIn, by k_dflt k_allIn⟩)⟩, ok, hlno, ⟨by rw [hpb]; exact .nil, ?txt9⟩, h103, hOB (L + 1 + 1 + 1, c3) (by k_dflt k_mem), hOB (D, listOf bv.toArray bn) (by k_dflt k_mem), hOB (Wd, listOf wv.toArray n1) (by k_dflt k_mem), hOB (Kd, listOf kv.toArray n2) (by k_dflt k_mem)⟩
    case txt9 =>
      unfold Txt
      rw [← hz]
      exact hsg
  clear F9 N9
  rintro s10 ⟨S, ps, ⟨u10, h10, tk10, rfl, F10, N10⟩, ok, hlno, hLS, lt103, ltC, ltD, ltW, ltK⟩
  obtain ⟨nd1, nd2, nd3, nd4, nd5, nd6, nd7, nd8⟩ := ok.nd
  dsimp only [Lex.led, List.cons_append, List.nil_append] at N10
  refine execs_cut (I10 w S ps base L D Kd bv kv bn n2 c3 k t6 z tz tx) ?st10 ?_
  case st10 =>
    have hCF := left_con w W gw S ok Wd Kd wv kv n1 n2 hwi hki tx hLS htl ltK ltW (by (repeat ((with_reducible rename _ ∧ _ => hq9); obtain ⟨_, _⟩ := hq9)); assumption)
    simp only [Lex.led, List.cons_append, List.nil_append] at hCF
    k_steps
    refine hold_in ?_
    rintro _ h11 tk11 _ b11 F11 N11 hOB ⟨T11, R, row, tw, rv, rn, pbv, pbn, sgv, sgn, t11, rfl, rfl, hrv, hleft, hbR, hRp, hrl⟩
    clear hCF
    rw [hbR] at hOB
    dsimp only [Lex.led, List.cons_append, List.nil_append] at N11
    k_steps
    unfold Hold
    rename Fr _ _ _ _ => F12
    rename News _ _ _ _ => N12
    rw [hlno] at N12
    exact ⟨by first | rfl | trivial, R, rv, rn, row, tw, pbv, pbn, sgv, sgn, t11, ⟨_, _, _, rfl, fr_ps F12 (by k_dflt (repeat (first | exact List.forall_mem_nil _ | refine all_p rfl ?_))), cb_drop N12 (List.forall_mem_append.mpr ⟨by k_dflt k_allIn, by k_dflt k_allIn⟩)⟩, hrv, hleft, hrl, hOB (103, tabObj ps) (by k_dflt k_mem), hOB (L + 1 + 1 + 1, c3) (by k_dflt k_mem), hOB (D, listOf bv.toArray bn) (by k_dflt k_mem), by omega⟩
  clear F10 N10
  rintro s11 ⟨R, rv, rn, row, tw, pbv, pbn, sgv, sgn, t11, ⟨u11, h11, tk11, rfl, F11, N11⟩, hrv, hleft, hrl, lt103R, ltRC, ltRD, ltRK⟩
  dsimp only [Lex.led, List.cons_append, List.nil_append] at N11
  refine execs_cut (I11 ps base L D Kd R bv kv rv bn n2 rn c3 k t6) ?st11 ?_
  case st11 =>
    refine wpAny_If ?_
    k_steps
    unfold Hold
    rename Fr _ _ _ _ => F12
    rename News _ _ _ _ => N12
    exact ⟨by first | rfl | trivial, _, _, _, rfl, fr_ps F12 (by k_dflt (repeat (first | exact List.forall_mem_nil _ | refine all_p rfl ?_))), cb_drop N12 (by k_dflt k_allIn)⟩
  clear F11 N11
  rintro s12 ⟨u12, h12, tk12, rfl, F12, N12⟩
  refine execs_cut (I12 ps base L R rv rn k t6) ?st12 ?_
  case st12 =>
    have hC1 := square_con w R rv rn row hrv (by omega)
    have hsq : Sq.start.run row = Sq.start.run br := by (rw [hbr]; exact hleft.sq Sq.start)
    refine wpAny_If ?_
    k_steps
    refine hold_in ?_
    rintro _ h13 tk13 _ F13 N13 ⟨T13, a1, a2, a3, a4, a5, rfl, rfl⟩
    dsimp only [List.cons_append, List.nil_append] at N13
    rw [hsq] at N13
    clear hC1
    k_steps
    refine hold_in ?_
    k_dflt (refine LCg.ListComp_U (F₀ := by k_asm) (by with_unfolding_all rfl) (by decide) (by rfl) (by decide) (by rfl) ?_)
    first | walk1 | (dsimp only; walk1)
    refine LCg.CompSrc.ledger (by rfl) (by k_asm) (by k_asm) (by k_dflt k_mem) ?sz12 ?_
    case sz12 => (rw [List.size_toArray, sizeLine_eq, hbv.length, List.length_map]; omega)
    intro g12
    refine comp_lts br Lt.code hbv (fun l t14 I14 oI14 C14 oC14 D14 m14 ys h14 tk14 E14 hC14 hx14 F14 N14 off14 ne14 => ?elt12) (fun ys hys => ?fin12)
    case elt12 =>
      k_steps
      unfold Hold
      rename Fr _ _ _ _ => F15
      rename News _ _ _ _ => N15
      exact ⟨_, _, _, rfl, F15, N15, off14, Or.inr ⟨_, by k_dflt k_mem, rfl, _, rfl⟩, rfl, _, rfl⟩
    case fin12 =>
      unfold LCg.FinE
      intro D14 h14 tk14 F14 N14 off14
      simp only [LCg.Off1, and_true] at off14
      have hC2 := square_con w D14 ys ys.length br hys (by omega)
      k_steps
      refine hold_in ?_
      rintro _ h15 tk15 _ F15 N15 ⟨T15, b1, b2, b3, b4, b5, rfl, rfl⟩
      dsimp only [List.cons_append, List.nil_append] at N15
      clear hC2
      k_steps
      unfold Hold
      rename Fr _ _ _ _ => F16
      rename News _ _ _ _ => N16
      exact ⟨by first | rfl | trivial, _, _, _, rfl, fr_ps F16 (by k_dflt (repeat (first | exact List.forall_mem_nil _ | refine all_p rfl ?_))), cb_drop N16 (by k_dflt k_allIn)⟩
  clear F12 N12
  rintro s13 ⟨u13, h13, tk13, rfl, F13, N13⟩
  have hrow : k = 0 → row = [] := fun h => hleft.nil (by rw [← hbr]; exact hins) h
  have hup : ∀ l ∈ lowest row, l.up = true := hleft.up (by rw [← hbr]; exact hins)
  refine ret_to (I13 ps base L) ?st13 ?fin13
  case st13 =>
    rcases Nat.eq_zero_or_pos k with hk0 | hk0
    · have hrv0 : IntsAre rv [] := by (have e9 := hrv; rw [hrow hk0] at e9; exact e9)
      have hk1 : (((k : Nat) : Int) == 0) = true := by (rw [hk0]; rfl)
      k_steps
      unfold Hold
      rename Fr _ _ _ _ => F14
      rename News _ _ _ _ => N14
      exact ⟨by first | rfl | trivial, _, _, _, rfl, fr_ps F14 (by simp), cb_drop N14 (by k_dflt k_allIn)⟩
    · have hk1 : (((k : Nat) : Int) == 0) = false := by (rw [beq_eq_false_iff_ne]; omega)
      k_steps
      refine hold_in ?_
      k_dflt (refine LCt.ListComp_T (F₀ := by k_asm) (by with_unfolding_all rfl) (by decide) (by rfl) (by decide) (by rfl) ?_)
      first | walk1 | (dsimp only; walk1)
      refine LCt.CompSrcT.ledger (by rfl) (by k_asm) (by k_asm) (by k_dflt k_mem) ?sz13 ?_
      case sz13 => (rw [List.size_toArray, sizeLine_eq, hrv.length, List.length_map]; omega)
      intro g13
      refine comp_low row hrv (fun l t14 I14 oI14 C14 oC14 D14 m14 ys h14 tk14 E14 hC14 hx14 F14 N14 off14 => ?low13) (fun ys hys => ?fin14)
      case low13 =>
        k_steps
        unfold Hold
        refine ⟨by first | rfl | trivial, ?_, ⟨_, _, _, rfl, F14, N14, off14, Or.inr ⟨_, by k_dflt k_mem, rfl, _, rfl⟩, rfl⟩⟩
        k_steps
        exact ⟨_, _, _, rfl, F14, N14, off14, Or.inr ⟨_, by k_dflt k_mem, rfl, _, rfl⟩, rfl, _, rfl⟩
      case fin14 =>
        unfold LCg.FinE
        intro D14 h14 tk14 F14 N14 off14
        simp only [LCg.Off1, and_true] at off14
        have hyl : ys.length ≤ 1000 := by (rw [hys.length, List.length_map]; have := List.length_filter_le Lt.isS row; omega)
        cases hany : row.any Lt.isS with
        | true =>
          rw [low_any hany] at hup
          have hye : (!ys.isEmpty) = true := by
            obtain ⟨l, hl, hs⟩ := List.any_eq_true.mp hany
            have hm : l ∈ row.filter Lt.isS := List.mem_filter.mpr ⟨hl, hs⟩
            have hpos := List.length_pos_of_mem hm
            rw [← List.length_map (f := Lt.code), ← hys.length] at hpos
            cases ys with
            | nil => simp at hpos
            | cons a b => rfl
          have h21 : ∀ x ∈ (row.filter Lt.isS).map Lt.code, x ≠ 21 := fun x hx => by (obtain ⟨l, hl, rfl⟩ := List.mem_map.mp hx; exact (code_up (hup l hl)).1)
          have h34 : ∀ x ∈ (row.filter Lt.isS).map Lt.code, x ≠ 34 := fun x hx => by (obtain ⟨l, hl, rfl⟩ := List.mem_map.mp hx; exact (code_up (hup l hl)).2)
          k_steps
          unfold Hold
          rename Fr _ _ _ _ => F15
          rename News _ _ _ _ => N15
          exact ⟨by first | rfl | trivial, _, _, _, rfl, fr_ps F15 (by simp), cb_drop N15 (by k_dflt k_allIn)⟩
        | false =>
          rw [low_none hany] at hup
          have hye : (!ys.isEmpty) = false := by
            have hm : row.filter Lt.isS = [] := by
              rw [List.filter_eq_nil_iff]
              intro l hl
              rw [List.any_eq_false] at hany
              exact hany l hl
            have h0 := hys.length
            rw [hm] at h0
            cases ys with
            | nil => rfl
            | cons a b => simp at h0
          have h21 : ∀ x ∈ row.map Lt.code, x ≠ 21 := fun x hx => by (obtain ⟨l, hl, rfl⟩ := List.mem_map.mp hx; exact (code_up (hup l hl)).1)
          have h34 : ∀ x ∈ row.map Lt.code, x ≠ 34 := fun x hx => by (obtain ⟨l, hl, rfl⟩ := List.mem_map.mp hx; exact (code_up (hup l hl)).2)
          k_steps
          unfold Hold
          rename Fr _ _ _ _ => F15
          rename News _ _ _ _ => N15
          exact ⟨by first | rfl | trivial, _, _, _, rfl, fr_ps F15 (by simp), cb_drop N15 (by k_dflt k_allIn)⟩
  case fin13 =>
    clear hrow hup hleft hrl hrv hbr hz hbv hins hbl F13 N13
    rintro _ s15 ⟨rfl, u15, h15, tk15, rfl, F15, N15⟩
    k_steps
end
end
end Mine
end
namespace Mine
theorem fin.tw11112386831996348380 : True := trivial
theorem fin.tw14082634201854921486 : True := trivial
theorem fin.tw17351870548753644034 : True := trivial
theorem fin.tw651740695104816413 : True := trivial
theorem fin.tw12449532186833594164 : True := trivial
theorem fin.tw7472291436863326401 : True := trivial
theorem fin.tw13929302177132474383 : True := trivial
theorem fin.tw4768634762848416435 : True := trivial
theorem fin.tw3599858809825778643 : True := trivial
theorem fin.tw5734618986648460908 : True := trivial
theorem fin.tw6968583824967984638 : True := trivial
theorem fin.tw12237877928780879103 : True := trivial
theorem fin.tw10891054232620793217 : True := trivial
theorem fin.tw12494633076269960713 : True := trivial
theorem fin.tw12464766053444552404 : True := trivial
theorem fin.tw15688172546075569117 : True := trivial
theorem fin.tw807531904560671035 : True := trivial
theorem fin.tw15513600669972384820 : True := trivial
theorem fin.tw10422873002695632711 : True := trivial
theorem fin.tw3199103547748192838 : True := trivial
theorem fin.tw8025084765662995669 : True := trivial
theorem fin.tw8942474457413960924 : True := trivial
theorem fin.tw9113340658982188547 : True := trivial
theorem fin.tw8352470293576582857 : True := trivial
theorem fin.tw3173534031939492945 : True := trivial
theorem fin.tw13383306551100868464 : True := trivial
theorem fin.tw12740692763255036000 : True := trivial
theorem fin.tw6207176494656529804 : True := trivial
theorem fin.tw12649782002744950493 : True := trivial
theorem fin.tw4878226113927451544 : True := trivial
theorem fin.tw2462912638960843985 : True := trivial
theorem fin.tw10098057777631523497 : True := trivial
theorem fin.tw7995362448368537469 : True := trivial
theorem fin.tw10875463905939285979 : True := trivial
theorem fin.tw14574801432027512755 : True := trivial
theorem fin.tw1976505206021243879 : True := trivial
theorem fin.tw10874316729293906858 : True := trivial
theorem fin.tw10383673109516279431 : True := trivial
theorem fin.tw12629903358213643309 : True := trivial
theorem fin.tw3343445320678177929 : True := trivial
theorem fin.tw8383268338085895543 : True := trivial
theorem fin.tw10147658903529517814 : True := trivial
theorem fin.tw15344004072050561172 : True := trivial
theorem fin.tw2866121171748074186 : True := trivial
theorem fin.tw15815952407149668801 : True := trivial
theorem fin.tw480829909506669009 : True := trivial
theorem fin.tw9357874355931990178 : True := trivial
theorem fin.tw15566928917628492161 : True := trivial
theorem fin.tw9746901515087519452 : True := trivial
theorem fin.tw11079828417688620724 : True := trivial
theorem fin.tw15149952090015108872 : True := trivial
theorem fin.tw2415902012162501839 : True := trivial
theorem fin.tw11154830654865731599 : True := trivial
theorem fin.tw5098551885099359569 : True := trivial
theorem fin.tw4759752924163587094 : True := trivial
theorem fin.tw3105451386036433885 : True := trivial
theorem fin.tw8416529770105884409 : True := trivial
theorem fin.tw8408514402456403777 : True := trivial
theorem fin.tw5873576211878428397 : True := trivial
theorem fin.tw17821466097196317003 : True := trivial
theorem fin.tw8643116662766533202 : True := trivial
theorem fin.tw16407147864228438881 : True := trivial
theorem fin.tw16958243865122950064 : True := trivial
theorem fin.tw13177410634674063896 : True := trivial
theorem fin.tw612862322836996645 : True := trivial
theorem fin.tw4684940682943077961 : True := trivial
theorem fin.tw14497727239971306367 : True := trivial
theorem fin.tw4312942655851389009 : True := trivial
theorem fin.tw16496857829328116044 : True := trivial
theorem fin.tw10807920368746810246 : True := trivial
theorem fin.tw12284014389350100970 : True := trivial
theorem fin.tw17743408960866722510 : True := trivial
theorem fin.tw12180539936304867106 : True := trivial
theorem fin.tw6127190174262240918 : True := trivial
theorem fin.tw17933470926392208243 : True := trivial
theorem fin.tw15583698165555649274 : True := trivial
theorem fin.tw1982079694162106894 : True := trivial
theorem fin.tw12118000046449163591 : True := trivial
theorem fin.tw14517287926952318261 : True := trivial
theorem fin.tw17197158672614542318 : True := trivial
theorem fin.tw16401934584784274106 : True := trivial
theorem fin.tw16889484823980962733 : True := trivial
theorem fin.tw17416127249078093707 : True := trivial
theorem fin.tw16540275574145912595 : True := trivial
theorem fin.tw17628183408451194143 : True := trivial
theorem fin.tw11414674201277728305 : True := trivial
theorem fin.tw11466478281803324712 : True := trivial
theorem fin.tw1249118550022496774 : True := trivial
theorem fin.tw16175276709679454751 : True := trivial
theorem fin.tw7055459427971326715 : True := trivial
theorem fin.tw3975253019698251321 : True := trivial
theorem fin.tw15205425988870721313 : True := trivial
theorem fin.tw16115155874713506467 : True := trivial
theorem fin.tw12212933522069011988 : True := trivial
theorem fin.tw3810338749695602999 : True := trivial
theorem fin.tw1963134401048803436 : True := trivial
theorem fin.tw6399183336047670136 : True := trivial
end Mine
open PySem PySem.W PyProof.Rows in
set_option maxHeartbeats 8000000 in
theorem Mine.fin : PySem.Challenge.rw_to0043_01.Holds := by
  w_on
  o_law
  o_head (kmHook Mine.hp [2, 3, 6, 22, 24, 25, 27, 28, 29, 31, 32, 34, 35, 36, 38, 39, 41, 42, 43, 45, 46, 48, 49, 50, 51, 52, 53, 54, 57, 60, 62, 63, 65, 66, 67, 69, 70, 72, 73, 74, 76, 77, 79, 80, 81, 83, 84, 86, 87, 88, 90, 91, 93, 94, 95, 97, 98, 100, 101, 102, 104, 105, 107, 108, 109, 111, 112, 114, 115, 116, 119, 120, 121, 124, 125, 126, 128, 129, 131, 132, 133, 136, 137] (fun _ => by kernel_rfl) [103])
  case hw => w_witness2
  exact Mine.law_A
theorem PySem.Challenge.cw_to0043_01_holds : PySem.Challenge.rw_to0043_01.Holds :=
  Mine.fin
